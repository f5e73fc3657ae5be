import JvmDerived
import JvmDerived.Pilot.@@N@@Statement
import JvmDerived.Pilot.@@N@@Code
set_option linter.unusedVariables false
set_option linter.unusedSimpArgs false
namespace Jvm.RoadKit
open Sem ClassFile Op Lib Jvm.Stand Jvm.Free Jvm.LawKit
section New
variable {p : Program} {l : Launch} {e : Env} {R : Room} {s : State} {m : MethodId} {args : Array Value} {below : List Frame} {meth : Method} {c : Code} {T : State} {locs : List Loc} {cells slots : Nat}
theorem retI (X : Stand p l e R s m args below meth c T locs cells slots) (hx : p.tables.exec = Jvm.exec) {pc : Nat} {Ls : Array Slot} {z : Int32} {rest : List Value} (hret : meth.sig.returnType = some .int) (hd : decode c.code pc = .ok (.ireturn, 1)) {fs : List Frame}
    (hl : ∀ (f : JFrame) (acts : List Action), f.method = m → f.locked = none → f.entered = [] → (doReturn e (T.setTop f) acts (some (.int z))).1 = T.setFrames fs) : Steps p.tables e below (T.setTop (mkF m pc Ls (.int z :: rest))) (T.setFrames fs) :=
  retOut X hx hret rfl (Or.inl ⟨rfl, Or.inl rfl, _, rfl⟩) hd hl
theorem fitsRef {C : String} {v : Value} (h : v.isRef = true) : fits (.object C) v = true := by
  rcases ref_cases h with rfl | ⟨_, rfl⟩ <;> rfl
end New
end Jvm.RoadKit
namespace Jvm.Pilot.@@N@@
open Jvm Jvm.ClassFile Sem Op Lib Jvm.Free Jvm.Stand Jvm.LawKit Jvm.RoadKit Bundle Jvm.Pilot.@@N@@.Jvm.D
theorem own_hw {P : Jvm.Cond → Prop} (hw : ∀ d ∈ tables_1, P d) (i : Nat) {d : Jvm.Cond} (h : tables_1[i]? = some d) : P d := hw d (List.mem_of_getElem? h)
abbrev Sg (p : Program) (e : Env) (below : List Frame) (S T : State) : Prop := Steps p.tables e below S T
abbrev Rg (p : Program) (e : Env) (below : List Frame) (A B : State) : Prop := ∀ t, Steps p.tables e below A t → Steps p.tables e below B t
abbrev sI (x : Int32) : Slot := .val (.int x)
abbrev sR (a : Addr) : Slot := .val (.ref a)
abbrev sU : Slot := .unset
abbrev sM : String := "com/example/whittle/whittle/engine/WordSets$Meet"
abbrev sW : String := "com/example/whittle/whittle/engine/WordSets"
theorem own_inb {N : Int32} {n k : Nat} (hN : N = Int32.ofNat n) (hk : k < n) (hb : n ≤ 3) : ¬ (Int32.ofNat k) < 0 ∧ Int32.ofNat k < N := by
  subst hN
  have t : ∀ n : Fin 4, ∀ k : Fin 4, k.val < n.val → ¬ (Int32.ofNat k.val) < 0 ∧ Int32.ofNat k.val < Int32.ofNat n.val := by decide +kernel
  exact t ⟨n, by omega⟩ ⟨k, by omega⟩ hk
def own_sh (x : Int32) : Int32 := (x.toUInt32 >>> ((6 : Int32) &&& 31).toUInt32).toInt32
def own_bit (x : Int32) : Int64 := (1 : Int64) <<< (x &&& 0x3f).toInt64
def own_pl : List Int32 → List Int32
  | [] => []
  | [a] => [own_sh a]
  | [a, b] => if own_sh b = own_sh a then [own_sh a] else [own_sh a, own_sh b]
  | a :: b :: c :: _ => if own_sh b = own_sh a then (if own_sh c = own_sh b then [own_sh a] else [own_sh a, own_sh c]) else (if own_sh c = own_sh b then [own_sh a, own_sh b] else [own_sh a, own_sh b, own_sh c])
def own_wl : List Int32 → List Int64
  | [] => []
  | [a] => [0 ||| own_bit a]
  | [a, b] => if own_sh b = own_sh a then [(0 ||| own_bit a) ||| own_bit b] else [0 ||| own_bit a, 0 ||| own_bit b]
  | a :: b :: c :: _ => if own_sh b = own_sh a then (if own_sh c = own_sh b then [((0 ||| own_bit a) ||| own_bit b) ||| own_bit c] else [(0 ||| own_bit a) ||| own_bit b, 0 ||| own_bit c]) else (if own_sh c = own_sh b then [0 ||| own_bit a, (0 ||| own_bit b) ||| own_bit c] else [0 ||| own_bit a, 0 ||| own_bit b, 0 ||| own_bit c])
def own_found (pl : List Int32) (key r : Int32) : Prop := (∃ i, i < pl.length ∧ r = Int32.ofNat i ∧ pl[i]? = some key) ∨ (r < 0 ∧ key ∉ pl)
def own_rem : List Int32 → List Int64 → Int32 → List Int64
  | p :: ps, w :: ws, m => (if p = own_sh m then w &&& (own_bit m ^^^ (-1)) else w) :: own_rem ps ws m
  | _, ws, _ => ws
theorem own_cons {α : Type} {us : List α} : (1 ≤ us.length → ∃ u0 ur, us = u0 :: ur) ∧ (2 ≤ us.length → ∃ u0 u1 ur, us = u0 :: u1 :: ur) ∧ (3 ≤ us.length → ∃ u0 u1 u2 ur, us = u0 :: u1 :: u2 :: ur) := by
  refine ⟨?_, ?_, ?_⟩
  · rcases us with _ | ⟨a, us⟩ <;> intro h
    · simp at h
    · exact ⟨_, _, rfl⟩
  · rcases us with _ | ⟨a, _ | ⟨b, us⟩⟩ <;> intro h
    · simp at h
    · simp at h
    · exact ⟨_, _, _, rfl⟩
  · rcases us with _ | ⟨a, _ | ⟨b, _ | ⟨c, us⟩⟩⟩ <;> intro h
    · simp at h
    · simp at h
    · simp at h
    · exact ⟨_, _, _, _, rfl⟩
theorem own_lenlt {M : Int32} {n k : Nat} (hM : M = Int32.ofNat n) (hn : n ≤ 3) (hk : k ≤ 3) : M < Int32.ofNat k ↔ n < k := by
  subst hM
  have t : ∀ n : Fin 4, ∀ k : Fin 4, (Int32.ofNat n.val < Int32.ofNat k.val ↔ n.val < k.val) := by decide +kernel
  exact t ⟨n, by omega⟩ ⟨k, by omega⟩
theorem own_fits_arr {t : FieldType} {a : Addr} : fits (.array t) (.ref a) = true := rfl
theorem own_eq3 {a b : Int32} (h1 : ¬ a < b) (h2 : ¬ b < a) : a = b := by
  rw [Int32.lt_iff_toInt_lt] at h1 h2
  exact Int32.toInt_inj.mp (by omega)
theorem own_p2 {a b : Int32} (h : [a, b].Pairwise (· < ·)) : a < b := by simpa using h
theorem own_p3 {a b c : Int32} (h : [a, b, c].Pairwise (· < ·)) : a < b ∧ b < c := by
  simp only [List.pairwise_cons, List.mem_cons, List.not_mem_nil, or_false] at h
  exact ⟨h.1 b (Or.inl rfl), h.2.1 c rfl⟩
theorem own_small : ∀ n : Fin 4, ¬ (Int32.ofNat n.val) < 0 := by decide +kernel
theorem own_lle {pl ur : List Int32} (hm : (pl ++ ur).length ≤ 3) : pl.length ≤ 3 := by simp at hm; omega
theorem own_nneg {cn : Int32} {n : Nat} (hc : cn = Int32.ofNat n) (h : n ≤ 3) : ¬ cn < (0 : Int32) := by subst hc; exact own_small ⟨n, by omega⟩
theorem own_nlt {M cn : Int32} {pl ur : List Int32} (hM : M = Int32.ofNat (pl ++ ur).length) (hc : cn = Int32.ofNat pl.length) (hm : (pl ++ ur).length ≤ 3) : ¬ M < cn := by
  subst hc
  rw [own_lenlt hM hm (own_lle hm)]; simp
theorem own_len0 {α : Type} {l : List α} (h : l.length = 0) : l = [] := List.length_eq_zero_iff.mp h
theorem own_len1 {α : Type} {l : List α} (h : l.length = 1) : ∃ a, l = [a] := List.length_eq_one_iff.mp h
theorem own_len2 {α : Type} {l : List α} (h : l.length = 2) : ∃ a b, l = [a, b] := by
  match l, h with
  | [a, b], _ => exact ⟨a, b, rfl⟩
theorem own_len3 {α : Type} {l : List α} (h : l.length = 3) : ∃ a b c, l = [a, b, c] := by
  match l, h with
  | [a, b, c], _ => exact ⟨a, b, c, rfl⟩
theorem own_hM2 {M : Int32} {pl ur : List Int32} {wv vr : List Int64} (hM : M = Int32.ofNat (pl ++ ur).length) (hl : wv.length = pl.length) (hv : vr.length = ur.length) : M = Int32.ofNat (wv ++ vr).length := by
  rw [hM, List.length_append, List.length_append, hl, hv]
theorem own_hm2 {pl ur : List Int32} {wv vr : List Int64} (hm : (pl ++ ur).length ≤ 3) (hl : wv.length = pl.length) (hv : vr.length = ur.length) : (wv ++ vr).length ≤ 3 := by
  rw [List.length_append] at hm ⊢; omega
theorem own_rem_none {m : Int32} : ∀ {pl : List Int32} {ws : List Int64}, own_sh m ∉ pl → own_rem pl ws m = ws
  | [], ws, _ => by cases ws <;> rfl
  | p :: ps, [], _ => rfl
  | p :: ps, w :: ws, h => by
    rw [own_rem, if_neg (fun e => h (by rw [e]; exact List.mem_cons_self)), own_rem_none (fun z => h (List.mem_cons_of_mem _ z))]
def own_emp : List Int64 → Int32
  | [] => 1
  | y :: ys => if y = 0 then own_emp ys else 0
theorem mvMN {Z s : State} {a0 args : Array Value} {own host : String} {index : Nat} {y : MethodName} (hZ : Z.Warmed39 s.vm) (w : (Cond.methodLinkNest own index y host).before a0 Z = true) : (Cond.methodLinkNest own index y host).before args s = true := (Cond.methodLinkNest_wide hZ w :)
theorem own_rem_len {m : Int32} : ∀ {pl : List Int32} {wv : List Int64}, (own_rem pl wv m).length = wv.length
  | [], wv => by cases wv <;> rfl
  | p :: ps, [] => rfl
  | p :: ps, w :: ws => by rw [own_rem, List.length_cons, List.length_cons, own_rem_len]
theorem own_pos {x : Int32} (h : 0 ≤ x) : x.toInt = (x.toBitVec.toNat : Int) ∧ x.toBitVec.toNat < 2 ^ 31 := by
  rw [Int32.le_iff_toInt_le] at h
  have e0 : (0 : Int32).toInt = 0 := rfl
  rw [e0] at h
  have e : x.toInt = x.toBitVec.toInt := rfl
  rw [e, BitVec.toInt_eq_toNat_cond] at h ⊢
  have := x.toBitVec.isLt
  split at h
  · rename_i q; rw [if_pos q]; exact ⟨rfl, by omega⟩
  · omega
theorem own_shn (x : Int32) : (own_sh x).toBitVec.toNat = x.toBitVec.toNat / 64 := by
  have e : (own_sh x).toBitVec = x.toBitVec >>> 6 := rfl
  rw [e, BitVec.toNat_ushiftRight, Nat.shiftRight_eq_div_pow]
theorem own_small2 {x : Int32} (h : x.toBitVec.toNat < 2 ^ 31) : x.toInt = (x.toBitVec.toNat : Int) := by
  have e : x.toInt = x.toBitVec.toInt := rfl
  rw [e, BitVec.toInt_eq_toNat_cond, if_pos (by omega)]
theorem own_shl {a b : Int32} (h0 : 0 ≤ a) (h : a ≤ b) (e : ¬ own_sh b = own_sh a) : own_sh a < own_sh b := by
  have hb : 0 ≤ b := by rw [Int32.le_iff_toInt_le] at *; omega
  obtain ⟨a1, a2⟩ := own_pos h0
  obtain ⟨b1, b2⟩ := own_pos hb
  rw [Int32.le_iff_toInt_le, a1, b1] at h
  have sa := own_shn a; have sb := own_shn b
  rw [Int32.lt_iff_toInt_lt, own_small2 (by omega), own_small2 (by omega)]
  have : ¬ b.toBitVec.toNat / 64 = a.toBitVec.toNat / 64 := fun q => e (Int32.toBitVec_inj.mp (BitVec.eq_of_toNat_eq (by omega)))
  omega
def own_tb (w : Int64) (x : Int32) : Bool := w.toBitVec.getLsbD (x.toBitVec.toNat % 64)
theorem own_bitn (x : Int32) : (own_bit x).toBitVec = 1#64 <<< (x.toBitVec.toNat % 64) := by
  have hb : (x &&& 0x3f).toBitVec.toNat < 64 := by
    rw [Int32.toBitVec_and, BitVec.toNat_and]
    exact Nat.lt_of_le_of_lt Nat.and_le_right (by decide)
  have hm : (x &&& 0x3f).toBitVec.toNat = x.toBitVec.toNat % 64 := by
    rw [Int32.toBitVec_and, BitVec.toNat_and]
    exact Nat.and_two_pow_sub_one_eq_mod _ 6
  have e : x &&& 0x3f = Int32.ofNat (x &&& 0x3f).toBitVec.toNat := by
    apply Int32.toBitVec_inj.mp
    simp
  have t : ∀ i : Fin 64, ((1 : Int64) <<< (Int32.ofNat i.1).toInt64).toBitVec = 1#64 <<< i.1 := by decide +kernel
  rw [← hm]
  show ((1 : Int64) <<< (x &&& 0x3f).toInt64).toBitVec = _
  have := t ⟨_, hb⟩
  rw [← e] at this
  exact this
theorem own_tbit (x y : Int32) : own_tb (own_bit x) y = decide (y.toBitVec.toNat % 64 = x.toBitVec.toNat % 64) := by
  unfold own_tb
  rw [own_bitn, BitVec.getLsbD_shiftLeft]
  have h1 : y.toBitVec.toNat % 64 < 64 := Nat.mod_lt _ (by decide)
  have h2 : x.toBitVec.toNat % 64 < 64 := Nat.mod_lt _ (by decide)
  generalize y.toBitVec.toNat % 64 = a at *
  generalize x.toBitVec.toNat % 64 = b at *
  by_cases h : a < b
  · simp [h]; omega
  · simp [h, h1, BitVec.getLsbD_one]
    omega
theorem own_tor (u v : Int64) (x : Int32) : own_tb (u ||| v) x = (own_tb u x || own_tb v x) := by
  unfold own_tb; rw [Int64.toBitVec_or, BitVec.getLsbD_or]
theorem own_tand (u v : Int64) (x : Int32) : own_tb (u &&& v) x = (own_tb u x && own_tb v x) := by
  unfold own_tb; rw [Int64.toBitVec_and, BitVec.getLsbD_and]
theorem own_t0 (x : Int32) : own_tb 0 x = false := by
  unfold own_tb
  show (0#64).getLsbD _ = false
  simp
theorem own_tnot (u : Int64) (x : Int32) : own_tb (u ^^^ (-1)) x = !(own_tb u x) := by
  unfold own_tb
  rw [Int64.toBitVec_xor, BitVec.getLsbD_xor]
  have e : ((-1 : Int64)).toBitVec = BitVec.allOnes 64 := rfl
  rw [e, BitVec.getLsbD_allOnes]
  have h1 : x.toBitVec.toNat % 64 < 64 := Nat.mod_lt _ (by decide)
  simp [h1]
theorem own_same {x y : Int32} (h1 : own_sh x = own_sh y) (h2 : x.toBitVec.toNat % 64 = y.toBitVec.toNat % 64) : x = y := by
  have sx := own_shn x; have sy := own_shn y
  rw [h1] at sx
  exact Int32.toBitVec_inj.mp (BitVec.eq_of_toNat_eq (by omega))
def own_M : List Int32 → List Int64 → Int32 → Prop
  | p :: ps, w :: ws, x => (p = own_sh x ∧ own_tb w x = true) ∨ own_M ps ws x
  | _, _, _ => False
theorem own_Mrem {m x : Int32} : ∀ {pl : List Int32} {wv : List Int64}, own_M pl (own_rem pl wv m) x ↔ (own_M pl wv x ∧ ¬ x = m)
  | [], wv => by cases wv <;> simp [own_rem, own_M]
  | p :: ps, [] => by simp [own_rem, own_M]
  | p :: ps, w :: ws => by
    rw [own_rem, own_M, own_M, own_Mrem (pl := ps) (wv := ws)]
    by_cases e : p = own_sh m
    · rw [if_pos e, own_tand, own_tnot, own_tbit]
      constructor
      · rintro (⟨h1, h2⟩ | ⟨h1, h2⟩)
        · simp only [Bool.and_eq_true, Bool.not_eq_true', decide_eq_false_iff_not] at h2
          exact ⟨Or.inl ⟨h1, h2.1⟩, fun q => h2.2 (by rw [q])⟩
        · exact ⟨Or.inr h1, h2⟩
      · rintro ⟨⟨h1, h2⟩ | h1, h3⟩
        · refine Or.inl ⟨h1, ?_⟩
          simp only [Bool.and_eq_true, Bool.not_eq_true', decide_eq_false_iff_not]
          exact ⟨h2, fun q => h3 (own_same (h1.symm.trans e) q)⟩
        · exact Or.inr ⟨h1, h3⟩
    · rw [if_neg e]
      constructor
      · rintro (⟨h1, h2⟩ | ⟨h1, h2⟩)
        · exact ⟨Or.inl ⟨h1, h2⟩, fun q => e (by rw [h1, q])⟩
        · exact ⟨Or.inr h1, h2⟩
      · rintro ⟨⟨h1, h2⟩ | h1, h3⟩
        · exact Or.inl ⟨h1, h2⟩
        · exact Or.inr ⟨h1, h3⟩
def own_look : List Int32 → List Int64 → Int32 → Int64
  | q :: qs, v :: vs, p => if q = p then v else own_look qs vs p
  | _, _, _ => 0
def own_rp : List Int32 → List Int64 → List Int32 → List Int64 → List Int32
  | p :: ps, w :: ws, ql, vl => if w &&& own_look ql vl p = 0 then own_rp ps ws ql vl else p :: own_rp ps ws ql vl
  | _, _, _, _ => []
def own_rw : List Int32 → List Int64 → List Int32 → List Int64 → List Int64
  | p :: ps, w :: ws, ql, vl => if w &&& own_look ql vl p = 0 then own_rw ps ws ql vl else (w &&& own_look ql vl p) :: own_rw ps ws ql vl
  | _, _, _, _ => []
theorem own_Mnot {x : Int32} : ∀ {ql : List Int32} {vl : List Int64}, own_sh x ∉ ql → ¬ own_M ql vl x
  | [], vl, _ => by cases vl <;> exact id
  | q :: qs, [], _ => id
  | q :: qs, v :: vs, h => by
    rintro (⟨h1, -⟩ | h1)
    · exact h (by rw [h1]; exact List.mem_cons_self)
    · exact own_Mnot (fun z => h (List.mem_cons_of_mem _ z)) h1
theorem own_Mlook {x : Int32} : ∀ {ql : List Int32} {vl : List Int64}, ql.Pairwise (· < ·) → (own_tb (own_look ql vl (own_sh x)) x = true ↔ own_M ql vl x)
  | [], vl, _ => by cases vl <;> simp [own_look, own_M, own_t0]
  | q :: qs, [], _ => by simp [own_look, own_M, own_t0]
  | q :: qs, v :: vs, h => by
    have hp := List.pairwise_cons.mp h
    rw [own_look, own_M]
    by_cases e : q = own_sh x
    · rw [if_pos e]
      have hn : own_sh x ∉ qs := fun z => by
        have := hp.1 _ z
        rw [e, Int32.lt_iff_toInt_lt] at this
        omega
      constructor
      · exact fun z => Or.inl ⟨e, z⟩
      · rintro (⟨-, z⟩ | z)
        · exact z
        · exact absurd z (own_Mnot hn)
    · rw [if_neg e, own_Mlook hp.2]
      constructor
      · exact Or.inr
      · rintro (⟨z, -⟩ | z)
        · exact absurd z e
        · exact z
theorem own_Mret {x : Int32} {ql : List Int32} {vl : List Int64} (hq : ql.Pairwise (· < ·)) : ∀ {pl : List Int32} {wv : List Int64}, own_M (own_rp pl wv ql vl) (own_rw pl wv ql vl) x ↔ (own_M pl wv x ∧ own_M ql vl x)
  | [], wv => by cases wv <;> simp [own_rp, own_rw, own_M]
  | p :: ps, [] => by simp [own_rp, own_rw, own_M]
  | p :: ps, w :: ws => by
    have ih := own_Mret hq (x := x) (vl := vl) (pl := ps) (wv := ws)
    rw [own_rp, own_rw, own_M]
    by_cases e : w &&& own_look ql vl p = 0
    · rw [if_pos e, if_pos e, ih]
      constructor
      · exact fun z => ⟨Or.inr z.1, z.2⟩
      · rintro ⟨⟨h1, h2⟩ | h1, h3⟩
        · exfalso
          have t := own_tand w (own_look ql vl p) x
          rw [e, own_t0, h2, h1, (own_Mlook hq).mpr h3] at t
          simp at t
        · exact ⟨h1, h3⟩
    · rw [if_neg e, if_neg e, own_M, ih, own_tand]
      constructor
      · rintro (⟨h1, h2⟩ | ⟨h1, h2⟩)
        · rw [Bool.and_eq_true] at h2
          exact ⟨Or.inl ⟨h1, h2.1⟩, (own_Mlook hq).mp (h1 ▸ h2.2)⟩
        · exact ⟨Or.inr h1, h2⟩
      · rintro ⟨⟨h1, h2⟩ | h1, h3⟩
        · refine Or.inl ⟨h1, ?_⟩
          rw [Bool.and_eq_true]
          exact ⟨h2, h1 ▸ (own_Mlook hq).mpr h3⟩
        · exact Or.inr ⟨h1, h3⟩
theorem own_rsub {ql : List Int32} {vl : List Int64} : ∀ {pl : List Int32} {wv : List Int64}, (own_rp pl wv ql vl).Sublist pl
  | [], wv => by cases wv <;> exact List.Sublist.refl _
  | p :: ps, [] => List.nil_sublist _
  | p :: ps, w :: ws => by
    rw [own_rp]
    split
    · exact own_rsub.cons _
    · exact own_rsub.cons_cons _
theorem own_rlen {ql : List Int32} {vl : List Int64} : ∀ {pl : List Int32} {wv : List Int64}, (own_rw pl wv ql vl).length = (own_rp pl wv ql vl).length
  | [], wv => by cases wv <;> rfl
  | p :: ps, [] => rfl
  | p :: ps, w :: ws => by
    rw [own_rp, own_rw]
    split
    · exact own_rlen
    · rw [List.length_cons, List.length_cons, own_rlen]
theorem own_bnz (a : Int32) (u : Int64) : ¬ (u ||| own_bit a) = 0 := fun e => by
  have t := own_tor u (own_bit a) a
  rw [e, own_t0, own_tbit] at t
  simp at t
theorem own_zero {w : Int64} (h : ∀ k, k < 64 → w.toBitVec.getLsbD k = false) : w = 0 := by
  apply Int64.toBitVec_inj.mp
  apply BitVec.eq_of_getLsbD_eq
  intro i hi
  rw [h i hi]
  show _ = (0#64).getLsbD i
  simp
theorem own_mk {z : Int32} {k : Nat} (hk : k < 64) : ∃ x : Int32, own_sh x = own_sh z ∧ x.toBitVec.toNat % 64 = k := by
  have sz := own_shn z
  have hz := z.toBitVec.isLt
  refine ⟨Int32.ofBitVec (BitVec.ofNat 32 (z.toBitVec.toNat / 64 * 64 + k)), ?_, ?_⟩
  · apply Int32.toBitVec_inj.mp
    apply BitVec.eq_of_toNat_eq
    rw [own_shn, sz]
    show (BitVec.ofNat 32 (z.toBitVec.toNat / 64 * 64 + k)).toNat / 64 = _
    rw [BitVec.toNat_ofNat]
    omega
  · show (BitVec.ofNat 32 (z.toBitVec.toNat / 64 * 64 + k)).toNat % 64 = _
    rw [BitVec.toNat_ofNat]
    omega
theorem own_Memp : ∀ {pl : List Int32} {wv : List Int64}, wv.length = pl.length → (∀ p ∈ pl, ∃ z, p = own_sh z) → (own_emp wv = 1 ∧ ∀ x, ¬ own_M pl wv x) ∨ (own_emp wv = 0 ∧ ∃ x, own_M pl wv x)
  | [], [], _, _ => Or.inl ⟨rfl, fun x h => h⟩
  | p :: ps, w :: ws, hl, hz => by
    rw [own_emp]
    by_cases e : w = 0
    · rw [if_pos e]
      rcases own_Memp (pl := ps) (wv := ws) (by simpa using hl) (fun q hq => hz q (List.mem_cons_of_mem _ hq)) with ⟨h1, h2⟩ | ⟨h1, x, h2⟩
      · refine Or.inl ⟨h1, fun x => ?_⟩
        rintro (⟨-, h3⟩ | h3)
        · rw [e, own_t0] at h3; cases h3
        · exact h2 x h3
      · exact Or.inr ⟨h1, x, Or.inr h2⟩
    · rw [if_neg e]
      refine Or.inr ⟨rfl, ?_⟩
      obtain ⟨z, rfl⟩ := hz p List.mem_cons_self
      by_cases q : ∃ k, k < 64 ∧ w.toBitVec.getLsbD k = true
      · obtain ⟨k, hk, hb⟩ := q
        obtain ⟨x, h1, h2⟩ := own_mk (z := z) hk
        exact ⟨x, Or.inl ⟨h1.symm, by unfold own_tb; rw [h2]; exact hb⟩⟩
      · exact absurd (own_zero (fun k hk => by
          by_cases r : w.toBitVec.getLsbD k = true
          · exact absurd ⟨k, hk, r⟩ q
          · simpa using r)) e
  | [], w :: ws, h, _ => by simp at h
  | p :: ps, [], h, _ => by simp at h
theorem own_M2 {a b : Int32} (h0 : 0 ≤ a) (h1 : a ≤ b) : (∀ x, own_M (own_pl [a, b]) (own_wl [a, b]) x ↔ (x = a ∨ x = b)) ∧ (own_pl [a, b]).Pairwise (· < ·) ∧ (own_wl [a, b]).length = (own_pl [a, b]).length ∧ (own_pl [a, b]).length ≤ 2 ∧ 0 < (own_pl [a, b]).length ∧ (∀ y ∈ own_wl [a, b], ¬ y = (0 : Int64)) ∧ (∀ p ∈ own_pl [a, b], ∃ z, p = own_sh z) := by
  have k1 : ∀ x y : Int32, (own_sh y = own_sh x ∧ own_tb (0 ||| own_bit y) x = true) ↔ x = y := by
    intro x y
    rw [own_tor, own_t0, own_tbit, Bool.false_or, decide_eq_true_eq]
    constructor
    · exact fun z => own_same z.1.symm z.2
    · rintro rfl; exact ⟨rfl, rfl⟩
  by_cases e : own_sh b = own_sh a
  · rw [show own_pl [a, b] = [own_sh a] from if_pos e, show own_wl [a, b] = [(0 ||| own_bit a) ||| own_bit b] from if_pos e]
    refine ⟨fun x => ?_, by simp, rfl, by simp, by simp, fun y hy => ?_, fun p hp => ?_⟩
    · show (own_sh a = own_sh x ∧ own_tb ((0 ||| own_bit a) ||| own_bit b) x = true) ∨ False ↔ _
      rw [own_tor, Bool.or_eq_true, or_false]
      constructor
      · rintro ⟨h2, h3 | h3⟩
        · exact Or.inl ((k1 x a).mp ⟨h2, h3⟩)
        · exact Or.inr ((k1 x b).mp ⟨e.trans h2, by rw [own_tor, h3, Bool.or_true]⟩)
      · rintro (rfl | rfl)
        · exact ⟨rfl, Or.inl ((k1 x x).mpr rfl).2⟩
        · refine ⟨e.symm, Or.inr ?_⟩
          rw [own_tbit]; simp
    · rw [List.mem_singleton.mp hy]; exact own_bnz b _
    · exact ⟨a, List.mem_singleton.mp hp⟩
  · rw [show own_pl [a, b] = [own_sh a, own_sh b] from if_neg e, show own_wl [a, b] = [0 ||| own_bit a, 0 ||| own_bit b] from if_neg e]
    refine ⟨fun x => ?_, by simp [own_shl h0 h1 e], rfl, by simp, by simp, fun y hy => ?_, fun p hp => ?_⟩
    · show (own_sh a = own_sh x ∧ own_tb (0 ||| own_bit a) x = true) ∨ (own_sh b = own_sh x ∧ own_tb (0 ||| own_bit b) x = true) ∨ False ↔ _
      rw [k1, k1, or_false]
    · simp only [List.mem_cons, List.not_mem_nil, or_false] at hy
      rcases hy with rfl | rfl <;> exact own_bnz _ _
    · simp only [List.mem_cons, List.not_mem_nil, or_false] at hp
      rcases hp with rfl | rfl
      · exact ⟨_, rfl⟩
      · exact ⟨_, rfl⟩
theorem own_mm {a b : Int32} {p q : Int32} (ha : 0 ≤ a) (hb : 0 ≤ b) (h1 : p = if b < a then b else a) (h2 : q = if a < b then b else a) : 0 ≤ p ∧ p ≤ q ∧ ∀ x, (x = p ∨ x = q) ↔ (x = a ∨ x = b) := by
  subst h1 h2
  rw [Int32.le_iff_toInt_le] at *
  by_cases u : b < a
  · have v : ¬ a < b := fun z => by rw [Int32.lt_iff_toInt_lt] at *; omega
    rw [if_pos u, if_neg v]
    refine ⟨hb, ?_, fun x => or_comm⟩
    rw [Int32.le_iff_toInt_le]; rw [Int32.lt_iff_toInt_lt] at u; omega
  · by_cases v : a < b
    · rw [if_neg u, if_pos v]
      refine ⟨ha, ?_, fun x => Iff.rfl⟩
      rw [Int32.le_iff_toInt_le]; rw [Int32.lt_iff_toInt_lt] at v; omega
    · rw [if_neg u, if_neg v]
      have e : b = a := own_eq3 u v
      refine ⟨ha, ?_, fun x => ?_⟩
      · rw [Int32.le_iff_toInt_le]; omega
      · rw [e]
theorem own_nn (x : Int32) : 0 ≤ x &&& (2147483647 : Int32) := by
  have h : (x &&& (2147483647 : Int32)).toBitVec.toNat ≤ 2147483647 := by
    rw [Int32.toBitVec_and, BitVec.toNat_and]; exact Nat.and_le_right
  have za : (0 : Int32).toInt = 0 := rfl
  rw [Int32.le_iff_toInt_le, own_small2 (x := x &&& (2147483647 : Int32)) (by omega), za]
  omega
def own_sv (x c d e s r m : Int32) : Int32 := if s = 0 then 0 else if r = 0 then (if m = 0 then 1 else if x = e then 0 else 1) else (if x = c then (if m = 0 then 1 else if x = e then 0 else 1) else if x = d then (if m = 0 then 1 else if x = e then 0 else 1) else 0)
theorem own_svp (S R M C D E : Prop) [Decidable S] [Decidable R] [Decidable M] [Decidable C] [Decidable D] [Decidable E] : ((if S then (0 : Int32) else if R then (if M then (1 : Int32) else if E then (0 : Int32) else (1 : Int32)) else (if C then (if M then (1 : Int32) else if E then (0 : Int32) else (1 : Int32)) else if D then (if M then (1 : Int32) else if E then (0 : Int32) else (1 : Int32)) else (0 : Int32))) = 0 ∧ ¬ (¬ S ∧ (¬ R → (C ∨ D)) ∧ (¬ M → ¬ E))) ∨ ((if S then (0 : Int32) else if R then (if M then (1 : Int32) else if E then (0 : Int32) else (1 : Int32)) else (if C then (if M then (1 : Int32) else if E then (0 : Int32) else (1 : Int32)) else if D then (if M then (1 : Int32) else if E then (0 : Int32) else (1 : Int32)) else (0 : Int32))) = 1 ∧ (¬ S ∧ (¬ R → (C ∨ D)) ∧ (¬ M → ¬ E))) := by
  by_cases h1 : S <;> by_cases h2 : R <;> by_cases h3 : M <;> by_cases h4 : C <;> by_cases h5 : D <;> by_cases h6 : E <;> simp [h1, h2, h3, h4, h5, h6]
theorem own_svi (x c d e s r m : Int32) : (own_sv x c d e s r m = 0 ∧ ¬ (¬ s = 0 ∧ (¬ r = 0 → (x = c ∨ x = d)) ∧ (¬ m = 0 → ¬ x = e))) ∨ (own_sv x c d e s r m = 1 ∧ (¬ s = 0 ∧ (¬ r = 0 → (x = c ∨ x = d)) ∧ (¬ m = 0 → ¬ x = e))) := own_svp (s = 0) (r = 0) (m = 0) (x = c) (x = d) (x = e)
theorem own_fin1 {wv : List Int64} {pl : List Int32} {a b c d e s r m z : Int32} (hl : wv.length = pl.length) (hz : ∀ p ∈ pl, ∃ z, p = own_sh z) (hM : ∀ x, own_M pl wv x ↔ ((x = a ∨ x = b) ∧ ¬ s = 0 ∧ (¬ r = 0 → (x = c ∨ x = d)) ∧ (¬ m = 0 → ¬ x = e))) (hx : z = if own_sv a c d e s r m = 0 then (if own_sv b c d e s r m = 0 then (1 : Int32) else (0 : Int32)) else (0 : Int32)) : own_emp wv = z := by
  subst hx
  rcases own_Memp hl hz with ⟨h1, h2⟩ | ⟨h1, x, h2⟩
  · rw [h1]
    rcases own_svi a c d e s r m with ⟨ha, -⟩ | ⟨-, ha⟩
    · rw [if_pos ha]
      rcases own_svi b c d e s r m with ⟨hb, -⟩ | ⟨-, hb⟩
      · rw [if_pos hb]
      · exact absurd ((hM b).mpr ⟨Or.inr rfl, hb⟩) (h2 b)
    · exact absurd ((hM a).mpr ⟨Or.inl rfl, ha⟩) (h2 a)
  · rw [h1]
    obtain ⟨rfl | rfl, hs⟩ := (hM x).mp h2
    · rcases own_svi x c d e s r m with ⟨-, ha⟩ | ⟨ha, -⟩
      · exact absurd hs ha
      · rw [ha]; rfl
    · rcases own_svi x c d e s r m with ⟨-, ha⟩ | ⟨ha, -⟩
      · exact absurd hs ha
      · rw [ha]
        split <;> rfl
theorem own_and0 (w : Int64) : w &&& 0 = 0 := by simp
theorem own_nilz : ∀ p ∈ ([] : List Int32), ∃ z, p = own_sh z := fun p hp => nomatch hp
theorem dp21_1_40 : decode prog_21_method_1_code 40 = .ok (.iload 5, 2) := by decide +kernel
theorem dp21_1_42 : decode prog_21_method_1_code 42 = .ok (.aload_n 3, 1) := by decide +kernel
theorem dp21_1_43 : decode prog_21_method_1_code 43 = .ok (.arraylength, 1) := by decide +kernel
theorem dp21_1_44 : decode prog_21_method_1_code 44 = .ok (.if_icmp .ge 36, 3) := by decide +kernel
theorem dp21_1_47 : decode prog_21_method_1_code 47 = .ok (.iload 5, 2) := by decide +kernel
theorem dp21_1_49 : decode prog_21_method_1_code 49 = .ok (.ifCond .eq 22, 3) := by decide +kernel
theorem dp21_1_52 : decode prog_21_method_1_code 52 = .ok (.aload_n 3, 1) := by decide +kernel
theorem dp21_1_53 : decode prog_21_method_1_code 53 = .ok (.iload 5, 2) := by decide +kernel
theorem dp21_1_55 : decode prog_21_method_1_code 55 = .ok (.iaload, 1) := by decide +kernel
theorem dp21_1_56 : decode prog_21_method_1_code 56 = .ok (.bipush 6, 2) := by decide +kernel
theorem dp21_1_58 : decode prog_21_method_1_code 58 = .ok (.iushr, 1) := by decide +kernel
theorem dp21_1_59 : decode prog_21_method_1_code 59 = .ok (.aload_n 3, 1) := by decide +kernel
theorem dp21_1_60 : decode prog_21_method_1_code 60 = .ok (.iload 5, 2) := by decide +kernel
theorem dp21_1_62 : decode prog_21_method_1_code 62 = .ok (.iconst 1, 1) := by decide +kernel
theorem dp21_1_63 : decode prog_21_method_1_code 63 = .ok (.isub, 1) := by decide +kernel
theorem dp21_1_64 : decode prog_21_method_1_code 64 = .ok (.iaload, 1) := by decide +kernel
theorem dp21_1_65 : decode prog_21_method_1_code 65 = .ok (.bipush 6, 2) := by decide +kernel
theorem dp21_1_67 : decode prog_21_method_1_code 67 = .ok (.iushr, 1) := by decide +kernel
theorem dp21_1_68 : decode prog_21_method_1_code 68 = .ok (.if_icmp .eq 6, 3) := by decide +kernel
theorem dp21_1_71 : decode prog_21_method_1_code 71 = .ok (.iinc 4 1, 3) := by decide +kernel
theorem dp21_1_74 : decode prog_21_method_1_code 74 = .ok (.iinc 5 1, 3) := by decide +kernel
theorem dp21_1_77 : decode prog_21_method_1_code 77 = .ok (.goto (-37), 3) := by decide +kernel
set_option maxRecDepth 65536 in
set_option maxHeartbeats 40000000 in
theorem pc_t1n {p : Program} {l : Launch} {e : Env} {R : Room} {s : State} {m : MethodId} {args : Array Value} {below : List Frame} {meth : Method} {c : Code} {T0 : State} {locs : List Loc} {cells slots : Nat} {Z : State} {a0 : Array Value} {h0 : Heap} {n0 : Nat} (a1 l1 mb : Addr) (kM : ClassId) (sv N cn iv x x' : Int32) (vs : List Value) (g6 g7 g8 : Slot) (X0 : Stand p l e R s m args below meth c T0 locs cells slots) (hx : p.tables.exec = Jvm.exec) (hZ : Z.Warmed39 s.vm) (hw : ∀ d ∈ tables_1, d.before a0 Z = true) (hby : c.code = prog_21_method_1_code) (hml : c.maxLocals = 9) (hown : s.vm.findClass "com/example/whittle/whittle/engine/WordSets" = some m.cls) (e0 : T0.heap = h0) (N0 : Fr n0 locs) (Z0 : n0 ≤ h0.size) (hcc : cells + 0 ≤ R.cells) (hcs : slots + 0 ≤ R.slots) (hfr : 0 ≤ R.frames) (hlo : 0 ≤ R.locals) (AM : Arv Z h0 mb kM .int N vs (.int (0 : Int32))) (hlt : iv < N) (h1 : ¬ iv < 0 ∧ iv < N) (e1 : vs.getD iv.toNatClampNeg (.int (0 : Int32)) = .int x) (hz : ¬ iv = (0 : Int32)) (h2 : ¬ (iv - (1 : Int32)) < 0 ∧ (iv - (1 : Int32)) < N) (e2 : vs.getD (iv - (1 : Int32)).toNatClampNeg (.int (0 : Int32)) = .int x') (hd : ¬ own_sh x = own_sh x') :
    ∃ (T' : State) (h' : Heap) (locs' : List Loc), Stand p l e R s m args below meth c T' locs' (cells + 0) (slots + 0) ∧ T'.heap = h' ∧ Fr n0 locs' ∧ Keep h0 h' [] ∧ ∀ t, Sg p e below (T'.setTop (mkF m 40 #[sR a1, sR l1, sI sv, sR mb, .val (.int (cn + (1 : Int32))), .val (.int (iv + (1 : Int32))), g6, g7, g8] [])) t → Sg p e below (T0.setTop (mkF m 40 #[sR a1, sR l1, sI sv, sR mb, sI cn, sI iv, g6, g7, g8] [])) t := by
  have P0 : ∀ t, Sg p e below (T0.setTop (mkF m 40 #[sR a1, sR l1, sI sv, sR mb, sI cn, sI iv, g6, g7, g8] [])) t → Sg p e below (T0.setTop (mkF m 40 #[sR a1, sR l1, sI sv, sR mb, sI cn, sI iv, g6, g7, g8] [])) t := fun t k => k
  obtain ⟨cl1, Ar1, -, S1, N1, -, -⟩ := id AM
  obtain ⟨cl2, Ar2, -, S2, N2, H2, -⟩ := id AM
  have hin2 : ¬ (iv < 0 ∨ cl2.slots.size ≤ (iv).toNatClampNeg) := inb_of S2 h1
  obtain ⟨cl3, Ar3, -, S3, N3, H3, -⟩ := id AM
  have hin3 : ¬ ((iv - (1 : Int32)) < 0 ∨ cl3.slots.size ≤ ((iv - (1 : Int32))).toNatClampNeg) := inb_of S3 h2
  have P4 : ∀ t, Sg p e below (T0.setTop (mkF m 40 #[sR a1, sR l1, sI sv, sR mb, .val (.int (cn + (1 : Int32))), .val (.int (iv + (1 : Int32))), g6, g7, g8] [])) t → Sg p e below (T0.setTop (mkF m 40 #[sR a1, sR l1, sI sv, sR mb, sI cn, sI iv, g6, g7, g8] [])) t := fun t k => P0 t (by
    refine XS.iload X0.here hx rfl (hb hby dp21_1_40) rfl ?_
    refine XS.aloadN X0.here hx rfl (hb hby dp21_1_42) rfl rfl ?_
    show Sg p e below (T0.setTop (mkF m 43 #[sR a1, sR l1, sI sv, sR mb, sI cn, sI iv, g6, g7, g8] [(.ref mb), (.int iv)])) _
    refine X0.arraylength hx (by rw [e0]; exact Ar1.1) (State.isArrayOf_alike hZ.alike Ar1.2.1) (g := (mkF m 43 #[sR a1, sR l1, sI sv, sR mb, sI cn, sI iv, g6, g7, g8] [(.ref mb), (.int iv)])) rfl rfl (hb hby dp21_1_43) _ ?_
    rw [len_of S1 N1]
    show Sg p e below (T0.setTop (mkF m 44 #[sR a1, sR l1, sI sv, sR mb, sI cn, sI iv, g6, g7, g8] [(.int N), (.int iv)])) _
    refine XS.icmpNo X0.here hx rfl (hb hby dp21_1_44) rfl (tlt (show iv < N from hlt)).2.1 ?_
    refine XS.iload X0.here hx rfl (hb hby dp21_1_47) rfl ?_
    refine XS.ifNo X0.here hx rfl (hb hby dp21_1_49) rfl ((if0 _ _).trans (feq (show ¬ (iv = (0 : Int32)) from hz)).1) ?_
    refine XS.aloadN X0.here hx rfl (hb hby dp21_1_52) rfl rfl ?_
    refine XS.iload X0.here hx rfl (hb hby dp21_1_53) rfl ?_
    show Sg p e below (T0.setTop (mkF m 55 #[sR a1, sR l1, sI sv, sR mb, sI cn, sI iv, g6, g7, g8] [(.int iv), (.ref mb)])) _
    refine X0.iaload hx (j := iv) (v := (.int x)) (by rw [e0]; exact Ar2.1) (State.isArrayOf_alike hZ.alike Ar2.2.1) Ar2.2.2 hin2 (H2.at hin2 e1) (g := (mkF m 55 #[sR a1, sR l1, sI sv, sR mb, sI cn, sI iv, g6, g7, g8] [(.int iv), (.ref mb)])) rfl rfl (hb hby dp21_1_55) _ ?_
    show Sg p e below (T0.setTop (mkF m 56 #[sR a1, sR l1, sI sv, sR mb, sI cn, sI iv, g6, g7, g8] [(.int x)])) _
    refine XS.bipush X0.here hx rfl (hb hby dp21_1_56) ?_
    refine XS.iushr X0.here hx rfl (hb hby dp21_1_58) rfl ?_
    refine XS.aloadN X0.here hx rfl (hb hby dp21_1_59) rfl rfl ?_
    refine XS.iload X0.here hx rfl (hb hby dp21_1_60) rfl ?_
    refine XS.iconst X0.here hx rfl (hb hby dp21_1_62) ?_
    refine XS.isub X0.here hx rfl (hb hby dp21_1_63) rfl ?_
    show Sg p e below (T0.setTop (mkF m 64 #[sR a1, sR l1, sI sv, sR mb, sI cn, sI iv, g6, g7, g8] [(.int (iv - (1 : Int32))), (.ref mb), (.int ((x.toUInt32 >>> ((6 : Int32) &&& 31).toUInt32).toInt32))])) _
    refine X0.iaload hx (j := (iv - (1 : Int32))) (v := (.int x')) (by rw [e0]; exact Ar3.1) (State.isArrayOf_alike hZ.alike Ar3.2.1) Ar3.2.2 hin3 (H3.at hin3 e2) (g := (mkF m 64 #[sR a1, sR l1, sI sv, sR mb, sI cn, sI iv, g6, g7, g8] [(.int (iv - (1 : Int32))), (.ref mb), (.int ((x.toUInt32 >>> ((6 : Int32) &&& 31).toUInt32).toInt32))])) rfl rfl (hb hby dp21_1_64) _ ?_
    show Sg p e below (T0.setTop (mkF m 65 #[sR a1, sR l1, sI sv, sR mb, sI cn, sI iv, g6, g7, g8] [(.int x'), (.int ((x.toUInt32 >>> ((6 : Int32) &&& 31).toUInt32).toInt32))])) _
    refine XS.bipush X0.here hx rfl (hb hby dp21_1_65) ?_
    refine XS.iushr X0.here hx rfl (hb hby dp21_1_67) rfl ?_
    refine XS.icmpNo X0.here hx rfl (hb hby dp21_1_68) rfl (feq (show ¬ (((x.toUInt32 >>> ((6 : Int32) &&& 31).toUInt32).toInt32) = ((x'.toUInt32 >>> ((6 : Int32) &&& 31).toUInt32).toInt32)) from hd)).1 ?_
    refine XS.iinc X0.here hx rfl (hb hby dp21_1_71) rfl (l' := #[sR a1, sR l1, sI sv, sR mb, .val (.int (cn + (1 : Int32))), sI iv, g6, g7, g8]) rfl ?_
    refine XS.iinc X0.here hx rfl (hb hby dp21_1_74) rfl (l' := #[sR a1, sR l1, sI sv, sR mb, .val (.int (cn + (1 : Int32))), .val (.int (iv + (1 : Int32))), g6, g7, g8]) rfl ?_
    refine XS.goto X0.here hx rfl (pc0 := 77) (pc' := 40) rfl (hb hby dp21_1_77) (by decide) (by decide) ?_
    show Sg p e below (T0.setTop (mkF m 40 #[sR a1, sR l1, sI sv, sR mb, .val (.int (cn + (1 : Int32))), .val (.int (iv + (1 : Int32))), g6, g7, g8] [])) _
    exact k)
  exact ⟨T0, h0, _, X0.more (by omega) (by omega), e0, N0, (Keep.refl h0 []), P4⟩
set_option maxRecDepth 65536 in
set_option maxHeartbeats 40000000 in
theorem pc_t1s {p : Program} {l : Launch} {e : Env} {R : Room} {s : State} {m : MethodId} {args : Array Value} {below : List Frame} {meth : Method} {c : Code} {T0 : State} {locs : List Loc} {cells slots : Nat} {Z : State} {a0 : Array Value} {h0 : Heap} {n0 : Nat} (a1 l1 mb : Addr) (kM : ClassId) (sv N cn iv x x' : Int32) (vs : List Value) (g6 g7 g8 : Slot) (X0 : Stand p l e R s m args below meth c T0 locs cells slots) (hx : p.tables.exec = Jvm.exec) (hZ : Z.Warmed39 s.vm) (hw : ∀ d ∈ tables_1, d.before a0 Z = true) (hby : c.code = prog_21_method_1_code) (hml : c.maxLocals = 9) (hown : s.vm.findClass "com/example/whittle/whittle/engine/WordSets" = some m.cls) (e0 : T0.heap = h0) (N0 : Fr n0 locs) (Z0 : n0 ≤ h0.size) (hcc : cells + 0 ≤ R.cells) (hcs : slots + 0 ≤ R.slots) (hfr : 0 ≤ R.frames) (hlo : 0 ≤ R.locals) (AM : Arv Z h0 mb kM .int N vs (.int (0 : Int32))) (hlt : iv < N) (h1 : ¬ iv < 0 ∧ iv < N) (e1 : vs.getD iv.toNatClampNeg (.int (0 : Int32)) = .int x) (hz : ¬ iv = (0 : Int32)) (h2 : ¬ (iv - (1 : Int32)) < 0 ∧ (iv - (1 : Int32)) < N) (e2 : vs.getD (iv - (1 : Int32)).toNatClampNeg (.int (0 : Int32)) = .int x') (hd : own_sh x = own_sh x') :
    ∃ (T' : State) (h' : Heap) (locs' : List Loc), Stand p l e R s m args below meth c T' locs' (cells + 0) (slots + 0) ∧ T'.heap = h' ∧ Fr n0 locs' ∧ Keep h0 h' [] ∧ ∀ t, Sg p e below (T'.setTop (mkF m 40 #[sR a1, sR l1, sI sv, sR mb, sI cn, .val (.int (iv + (1 : Int32))), g6, g7, g8] [])) t → Sg p e below (T0.setTop (mkF m 40 #[sR a1, sR l1, sI sv, sR mb, sI cn, sI iv, g6, g7, g8] [])) t := by
  have P0 : ∀ t, Sg p e below (T0.setTop (mkF m 40 #[sR a1, sR l1, sI sv, sR mb, sI cn, sI iv, g6, g7, g8] [])) t → Sg p e below (T0.setTop (mkF m 40 #[sR a1, sR l1, sI sv, sR mb, sI cn, sI iv, g6, g7, g8] [])) t := fun t k => k
  obtain ⟨cl5, Ar5, -, S5, N5, -, -⟩ := id AM
  obtain ⟨cl6, Ar6, -, S6, N6, H6, -⟩ := id AM
  have hin6 : ¬ (iv < 0 ∨ cl6.slots.size ≤ (iv).toNatClampNeg) := inb_of S6 h1
  obtain ⟨cl7, Ar7, -, S7, N7, H7, -⟩ := id AM
  have hin7 : ¬ ((iv - (1 : Int32)) < 0 ∨ cl7.slots.size ≤ ((iv - (1 : Int32))).toNatClampNeg) := inb_of S7 h2
  have P8 : ∀ t, Sg p e below (T0.setTop (mkF m 40 #[sR a1, sR l1, sI sv, sR mb, sI cn, .val (.int (iv + (1 : Int32))), g6, g7, g8] [])) t → Sg p e below (T0.setTop (mkF m 40 #[sR a1, sR l1, sI sv, sR mb, sI cn, sI iv, g6, g7, g8] [])) t := fun t k => P0 t (by
    refine XS.iload X0.here hx rfl (hb hby dp21_1_40) rfl ?_
    refine XS.aloadN X0.here hx rfl (hb hby dp21_1_42) rfl rfl ?_
    show Sg p e below (T0.setTop (mkF m 43 #[sR a1, sR l1, sI sv, sR mb, sI cn, sI iv, g6, g7, g8] [(.ref mb), (.int iv)])) _
    refine X0.arraylength hx (by rw [e0]; exact Ar5.1) (State.isArrayOf_alike hZ.alike Ar5.2.1) (g := (mkF m 43 #[sR a1, sR l1, sI sv, sR mb, sI cn, sI iv, g6, g7, g8] [(.ref mb), (.int iv)])) rfl rfl (hb hby dp21_1_43) _ ?_
    rw [len_of S5 N5]
    show Sg p e below (T0.setTop (mkF m 44 #[sR a1, sR l1, sI sv, sR mb, sI cn, sI iv, g6, g7, g8] [(.int N), (.int iv)])) _
    refine XS.icmpNo X0.here hx rfl (hb hby dp21_1_44) rfl (tlt (show iv < N from hlt)).2.1 ?_
    refine XS.iload X0.here hx rfl (hb hby dp21_1_47) rfl ?_
    refine XS.ifNo X0.here hx rfl (hb hby dp21_1_49) rfl ((if0 _ _).trans (feq (show ¬ (iv = (0 : Int32)) from hz)).1) ?_
    refine XS.aloadN X0.here hx rfl (hb hby dp21_1_52) rfl rfl ?_
    refine XS.iload X0.here hx rfl (hb hby dp21_1_53) rfl ?_
    show Sg p e below (T0.setTop (mkF m 55 #[sR a1, sR l1, sI sv, sR mb, sI cn, sI iv, g6, g7, g8] [(.int iv), (.ref mb)])) _
    refine X0.iaload hx (j := iv) (v := (.int x)) (by rw [e0]; exact Ar6.1) (State.isArrayOf_alike hZ.alike Ar6.2.1) Ar6.2.2 hin6 (H6.at hin6 e1) (g := (mkF m 55 #[sR a1, sR l1, sI sv, sR mb, sI cn, sI iv, g6, g7, g8] [(.int iv), (.ref mb)])) rfl rfl (hb hby dp21_1_55) _ ?_
    show Sg p e below (T0.setTop (mkF m 56 #[sR a1, sR l1, sI sv, sR mb, sI cn, sI iv, g6, g7, g8] [(.int x)])) _
    refine XS.bipush X0.here hx rfl (hb hby dp21_1_56) ?_
    refine XS.iushr X0.here hx rfl (hb hby dp21_1_58) rfl ?_
    refine XS.aloadN X0.here hx rfl (hb hby dp21_1_59) rfl rfl ?_
    refine XS.iload X0.here hx rfl (hb hby dp21_1_60) rfl ?_
    refine XS.iconst X0.here hx rfl (hb hby dp21_1_62) ?_
    refine XS.isub X0.here hx rfl (hb hby dp21_1_63) rfl ?_
    show Sg p e below (T0.setTop (mkF m 64 #[sR a1, sR l1, sI sv, sR mb, sI cn, sI iv, g6, g7, g8] [(.int (iv - (1 : Int32))), (.ref mb), (.int ((x.toUInt32 >>> ((6 : Int32) &&& 31).toUInt32).toInt32))])) _
    refine X0.iaload hx (j := (iv - (1 : Int32))) (v := (.int x')) (by rw [e0]; exact Ar7.1) (State.isArrayOf_alike hZ.alike Ar7.2.1) Ar7.2.2 hin7 (H7.at hin7 e2) (g := (mkF m 64 #[sR a1, sR l1, sI sv, sR mb, sI cn, sI iv, g6, g7, g8] [(.int (iv - (1 : Int32))), (.ref mb), (.int ((x.toUInt32 >>> ((6 : Int32) &&& 31).toUInt32).toInt32))])) rfl rfl (hb hby dp21_1_64) _ ?_
    show Sg p e below (T0.setTop (mkF m 65 #[sR a1, sR l1, sI sv, sR mb, sI cn, sI iv, g6, g7, g8] [(.int x'), (.int ((x.toUInt32 >>> ((6 : Int32) &&& 31).toUInt32).toInt32))])) _
    refine XS.bipush X0.here hx rfl (hb hby dp21_1_65) ?_
    refine XS.iushr X0.here hx rfl (hb hby dp21_1_67) rfl ?_
    refine XS.icmpYes X0.here hx rfl (pc0 := 68) (pc' := 74) rfl (hb hby dp21_1_68) rfl (teq (show ((x.toUInt32 >>> ((6 : Int32) &&& 31).toUInt32).toInt32) = ((x'.toUInt32 >>> ((6 : Int32) &&& 31).toUInt32).toInt32) from hd)).1 (by decide) (by decide) ?_
    refine XS.iinc X0.here hx rfl (hb hby dp21_1_74) rfl (l' := #[sR a1, sR l1, sI sv, sR mb, sI cn, .val (.int (iv + (1 : Int32))), g6, g7, g8]) rfl ?_
    refine XS.goto X0.here hx rfl (pc0 := 77) (pc' := 40) rfl (hb hby dp21_1_77) (by decide) (by decide) ?_
    show Sg p e below (T0.setTop (mkF m 40 #[sR a1, sR l1, sI sv, sR mb, sI cn, .val (.int (iv + (1 : Int32))), g6, g7, g8] [])) _
    exact k)
  exact ⟨T0, h0, _, X0.more (by omega) (by omega), e0, N0, (Keep.refl h0 []), P8⟩
theorem dp21_1_98 : decode prog_21_method_1_code 98 = .ok (.iload 8, 2) := by decide +kernel
theorem dp21_1_100 : decode prog_21_method_1_code 100 = .ok (.aload_n 3, 1) := by decide +kernel
theorem dp21_1_101 : decode prog_21_method_1_code 101 = .ok (.arraylength, 1) := by decide +kernel
theorem dp21_1_102 : decode prog_21_method_1_code 102 = .ok (.if_icmp .ge 62, 3) := by decide +kernel
theorem dp21_1_105 : decode prog_21_method_1_code 105 = .ok (.iload 8, 2) := by decide +kernel
theorem dp21_1_107 : decode prog_21_method_1_code 107 = .ok (.ifCond .eq 22, 3) := by decide +kernel
theorem dp21_1_129 : decode prog_21_method_1_code 129 = .ok (.aload 5, 2) := by decide +kernel
theorem dp21_1_131 : decode prog_21_method_1_code 131 = .ok (.iinc 7 1, 3) := by decide +kernel
theorem dp21_1_134 : decode prog_21_method_1_code 134 = .ok (.iload 7, 2) := by decide +kernel
theorem dp21_1_136 : decode prog_21_method_1_code 136 = .ok (.aload_n 3, 1) := by decide +kernel
theorem dp21_1_137 : decode prog_21_method_1_code 137 = .ok (.iload 8, 2) := by decide +kernel
theorem dp21_1_139 : decode prog_21_method_1_code 139 = .ok (.iaload, 1) := by decide +kernel
theorem dp21_1_140 : decode prog_21_method_1_code 140 = .ok (.bipush 6, 2) := by decide +kernel
theorem dp21_1_142 : decode prog_21_method_1_code 142 = .ok (.iushr, 1) := by decide +kernel
theorem dp21_1_143 : decode prog_21_method_1_code 143 = .ok (.iastore, 1) := by decide +kernel
theorem dp21_1_144 : decode prog_21_method_1_code 144 = .ok (.aload 6, 2) := by decide +kernel
theorem dp21_1_146 : decode prog_21_method_1_code 146 = .ok (.iload 7, 2) := by decide +kernel
theorem dp21_1_148 : decode prog_21_method_1_code 148 = .ok (.dup2, 1) := by decide +kernel
theorem dp21_1_149 : decode prog_21_method_1_code 149 = .ok (.laload, 1) := by decide +kernel
theorem dp21_1_150 : decode prog_21_method_1_code 150 = .ok (.lconst 1, 1) := by decide +kernel
theorem dp21_1_151 : decode prog_21_method_1_code 151 = .ok (.aload_n 3, 1) := by decide +kernel
theorem dp21_1_152 : decode prog_21_method_1_code 152 = .ok (.iload 8, 2) := by decide +kernel
theorem dp21_1_154 : decode prog_21_method_1_code 154 = .ok (.iaload, 1) := by decide +kernel
theorem dp21_1_155 : decode prog_21_method_1_code 155 = .ok (.lshl, 1) := by decide +kernel
theorem dp21_1_156 : decode prog_21_method_1_code 156 = .ok (.lor, 1) := by decide +kernel
theorem dp21_1_157 : decode prog_21_method_1_code 157 = .ok (.lastore, 1) := by decide +kernel
theorem dp21_1_158 : decode prog_21_method_1_code 158 = .ok (.iinc 8 1, 3) := by decide +kernel
theorem dp21_1_161 : decode prog_21_method_1_code 161 = .ok (.goto (-63), 3) := by decide +kernel
set_option maxRecDepth 65536 in
set_option maxHeartbeats 40000000 in
theorem pc_t2f {p : Program} {l : Launch} {e : Env} {R : Room} {s : State} {m : MethodId} {args : Array Value} {below : List Frame} {meth : Method} {c : Code} {T0 : State} {locs : List Loc} {cells slots : Nat} {Z : State} {a0 : Array Value} {h0 : Heap} {n0 : Nat} (a1 l1 mb P W : Addr) (kM kP kW : ClassId) (sv N M cn x : Int32) (y : Int64) (vs vp vw : List Value) (X0 : Stand p l e R s m args below meth c T0 locs cells slots) (hx : p.tables.exec = Jvm.exec) (hZ : Z.Warmed39 s.vm) (hw : ∀ d ∈ tables_1, d.before a0 Z = true) (hby : c.code = prog_21_method_1_code) (hml : c.maxLocals = 9) (hown : s.vm.findClass "com/example/whittle/whittle/engine/WordSets" = some m.cls) (e0 : T0.heap = h0) (N0 : Fr n0 locs) (Z0 : n0 ≤ h0.size) (hcc : cells + 0 ≤ R.cells) (hcs : slots + 0 ≤ R.slots) (hfr : 0 ≤ R.frames) (hlo : 0 ≤ R.locals) (AM : Arv Z h0 mb kM .int N vs (.int (0 : Int32))) (hlt : (0 : Int32) < N) (h1 : ¬ (0 : Int32) < 0 ∧ (0 : Int32) < N) (e1 : vs.getD (0 : Int32).toNatClampNeg (.int (0 : Int32)) = .int x) (g_P : n0 ≤ P) (g_W : n0 ≤ W) (nMP : mb ≠ P) (nPW : P ≠ W) (AP : Arv Z h0 P kP .int M vp (.int (0 : Int32))) (AW : Arv Z h0 W kW .long M vw (.long (0 : Int64))) (hin : ¬ (0 : Int32) < 0 ∧ (0 : Int32) < M) (hk : (0 : Int32).toNatClampNeg = 0) (hlp : 0 < vp.length) (hlw : 0 < vw.length) (ew : vw.getD (0 : Int32).toNatClampNeg (.long (0 : Int64)) = .long y) :
    ∃ (T' : State) (h' : Heap) (locs' : List Loc), Stand p l e R s m args below meth c T' locs' (cells + 0) (slots + 0) ∧ T'.heap = h' ∧ Fr n0 locs' ∧ Keep h0 h' [P, W] ∧ Arv Z h' P kP .int M (vp.set 0 (.int (own_sh x))) (.int (0 : Int32)) ∧ Arv Z h' W kW .long M (vw.set 0 (.long (y ||| own_bit x))) (.long (0 : Int64)) ∧ ∀ t, Sg p e below (T'.setTop (mkF m 98 #[sR a1, sR l1, sI sv, sR mb, sI cn, sR P, sR W, sI 0, sI 1] [])) t → Sg p e below (T0.setTop (mkF m 98 #[sR a1, sR l1, sI sv, sR mb, sI cn, sR P, sR W, sI (-1), sI 0] [])) t := by
  have P0 : ∀ t, Sg p e below (T0.setTop (mkF m 98 #[sR a1, sR l1, sI sv, sR mb, sI cn, sR P, sR W, sI (-1), sI 0] [])) t → Sg p e below (T0.setTop (mkF m 98 #[sR a1, sR l1, sI sv, sR mb, sI cn, sR P, sR W, sI (-1), sI 0] [])) t := fun t k => k
  obtain ⟨cl9, Ar9, -, S9, N9, -, -⟩ := id AM
  obtain ⟨cl10, Ar10, -, S10, N10, H10, -⟩ := id AM
  have hin10 : ¬ ((0 : Int32) < 0 ∨ cl10.slots.size ≤ ((0 : Int32)).toNatClampNeg) := inb_of S10 h1
  obtain ⟨cl11, Ar11, q11, S11, N11, H11, G11⟩ := id AP
  obtain ⟨T11, h11, X11, e11, W11, st11⟩ := stI X0 hx hZ e0 Ar11 (j := (0 : Int32)) (inb_of S11 hin) (g := (mkF m 143 #[sR a1, sR l1, sI sv, sR mb, sI cn, sR P, sR W, sI 0, sI 0] [(.int ((x.toUInt32 >>> ((6 : Int32) &&& 31).toUInt32).toInt32)), (.int (0 : Int32)), (.ref P)])) rfl rfl (hb hby dp21_1_143)
  have v12 : Arv Z h11 P kP .int M (vp.set 0 (.int ((x.toUInt32 >>> ((6 : Int32) &&& 31).toUInt32).toInt32))) (.int (0 : Int32)) := Arv.set Ar11 q11 S11 N11 H11 G11 rfl W11 0 hk hlp
  have P13 : ∀ t, Sg p e below (T11.setTop (mkF m 144 #[sR a1, sR l1, sI sv, sR mb, sI cn, sR P, sR W, sI 0, sI 0] [])) t → Sg p e below (T0.setTop (mkF m 98 #[sR a1, sR l1, sI sv, sR mb, sI cn, sR P, sR W, sI (-1), sI 0] [])) t := fun t k => P0 t (by
    refine XS.iload X0.here hx rfl (hb hby dp21_1_98) rfl ?_
    refine XS.aloadN X0.here hx rfl (hb hby dp21_1_100) rfl rfl ?_
    show Sg p e below (T0.setTop (mkF m 101 #[sR a1, sR l1, sI sv, sR mb, sI cn, sR P, sR W, sI (-1), sI 0] [(.ref mb), (.int (0 : Int32))])) _
    refine X0.arraylength hx (by rw [e0]; exact Ar9.1) (State.isArrayOf_alike hZ.alike Ar9.2.1) (g := (mkF m 101 #[sR a1, sR l1, sI sv, sR mb, sI cn, sR P, sR W, sI (-1), sI 0] [(.ref mb), (.int (0 : Int32))])) rfl rfl (hb hby dp21_1_101) _ ?_
    rw [len_of S9 N9]
    show Sg p e below (T0.setTop (mkF m 102 #[sR a1, sR l1, sI sv, sR mb, sI cn, sR P, sR W, sI (-1), sI 0] [(.int N), (.int (0 : Int32))])) _
    refine XS.icmpNo X0.here hx rfl (hb hby dp21_1_102) rfl (tlt (show (0 : Int32) < N from hlt)).2.1 ?_
    refine XS.iload X0.here hx rfl (hb hby dp21_1_105) rfl ?_
    refine XS.ifYes X0.here hx rfl (pc0 := 107) (pc' := 129) rfl (hb hby dp21_1_107) rfl ((if0 _ _).trans (teq (show (0 : Int32) = (0 : Int32) from (by decide))).1) (by decide) (by decide) ?_
    refine XS.aload X0.here hx rfl (hb hby dp21_1_129) rfl rfl ?_
    refine XS.iinc X0.here hx rfl (hb hby dp21_1_131) rfl (l' := #[sR a1, sR l1, sI sv, sR mb, sI cn, sR P, sR W, sI 0, sI 0]) rfl ?_
    refine XS.iload X0.here hx rfl (hb hby dp21_1_134) rfl ?_
    refine XS.aloadN X0.here hx rfl (hb hby dp21_1_136) rfl rfl ?_
    refine XS.iload X0.here hx rfl (hb hby dp21_1_137) rfl ?_
    show Sg p e below (T0.setTop (mkF m 139 #[sR a1, sR l1, sI sv, sR mb, sI cn, sR P, sR W, sI 0, sI 0] [(.int (0 : Int32)), (.ref mb), (.int (0 : Int32)), (.ref P)])) _
    refine X0.iaload hx (j := (0 : Int32)) (v := (.int x)) (by rw [e0]; exact Ar10.1) (State.isArrayOf_alike hZ.alike Ar10.2.1) Ar10.2.2 hin10 (H10.at hin10 e1) (g := (mkF m 139 #[sR a1, sR l1, sI sv, sR mb, sI cn, sR P, sR W, sI 0, sI 0] [(.int (0 : Int32)), (.ref mb), (.int (0 : Int32)), (.ref P)])) rfl rfl (hb hby dp21_1_139) _ ?_
    show Sg p e below (T0.setTop (mkF m 140 #[sR a1, sR l1, sI sv, sR mb, sI cn, sR P, sR W, sI 0, sI 0] [(.int x), (.int (0 : Int32)), (.ref P)])) _
    refine XS.bipush X0.here hx rfl (hb hby dp21_1_140) ?_
    refine XS.iushr X0.here hx rfl (hb hby dp21_1_142) rfl ?_
    show Sg p e below (T0.setTop (mkF m 143 #[sR a1, sR l1, sI sv, sR mb, sI cn, sR P, sR W, sI 0, sI 0] [(.int ((x.toUInt32 >>> ((6 : Int32) &&& 31).toUInt32).toInt32)), (.int (0 : Int32)), (.ref P)])) _
    exact st11 _ k)
  have N14 := Fr.snoc X11 N0 g_P
  have Z15 : n0 ≤ h11.size := Nat.le_trans Z0 (Keep.of_wr W11).1
  have K16 : Keep h0 h11 [P, W] := (Keep.refl h0 [P, W]).wr W11 (Or.inl (List.mem_of_getElem? (i := 0) rfl))
  have f17 := (AW.other W11 (Ne.symm nPW))
  obtain ⟨cl18, Ar18, -, S18, N18, H18, -⟩ := id f17
  have hin18 : ¬ ((0 : Int32) < 0 ∨ cl18.slots.size ≤ ((0 : Int32)).toNatClampNeg) := inb_of S18 hin
  have f19 := (AM.other W11 nMP)
  obtain ⟨cl20, Ar20, -, S20, N20, H20, -⟩ := id f19
  have hin20 : ¬ ((0 : Int32) < 0 ∨ cl20.slots.size ≤ ((0 : Int32)).toNatClampNeg) := inb_of S20 h1
  obtain ⟨cl21, Ar21, q21, S21, N21, H21, G21⟩ := id f17
  obtain ⟨T21, h21, X21, e21, W21, st21⟩ := stJ X11 hx hZ e11 Ar21 (j := (0 : Int32)) (inb_of S21 hin) (g := (mkF m 157 #[sR a1, sR l1, sI sv, sR mb, sI cn, sR P, sR W, sI 0, sI 0] [(.long (y ||| ((1 : Int64) <<< (x &&& 0x3f).toInt64))), (.int (0 : Int32)), (.ref W)])) rfl rfl (hb hby dp21_1_157)
  have v22 : Arv Z h21 W kW .long M (vw.set 0 (.long (y ||| ((1 : Int64) <<< (x &&& 0x3f).toInt64)))) (.long (0 : Int64)) := Arv.set Ar21 q21 S21 N21 H21 G21 rfl W21 0 hk hlw
  have P23 : ∀ t, Sg p e below (T21.setTop (mkF m 158 #[sR a1, sR l1, sI sv, sR mb, sI cn, sR P, sR W, sI 0, sI 0] [])) t → Sg p e below (T0.setTop (mkF m 98 #[sR a1, sR l1, sI sv, sR mb, sI cn, sR P, sR W, sI (-1), sI 0] [])) t := fun t k => P13 t (by
    refine XS.aload X11.here hx rfl (hb hby dp21_1_144) rfl rfl ?_
    refine XS.iload X11.here hx rfl (hb hby dp21_1_146) rfl ?_
    refine XT.dup2 X11.here hx rfl (hb hby dp21_1_148) rfl rfl rfl ?_
    show Sg p e below (T11.setTop (mkF m 149 #[sR a1, sR l1, sI sv, sR mb, sI cn, sR P, sR W, sI 0, sI 0] [(.int (0 : Int32)), (.ref W), (.int (0 : Int32)), (.ref W)])) _
    refine X11.laload hx (j := (0 : Int32)) (v := (.long y)) (by rw [e11]; exact Ar18.1) (State.isArrayOf_alike hZ.alike Ar18.2.1) Ar18.2.2 hin18 (H18.at hin18 ew) (g := (mkF m 149 #[sR a1, sR l1, sI sv, sR mb, sI cn, sR P, sR W, sI 0, sI 0] [(.int (0 : Int32)), (.ref W), (.int (0 : Int32)), (.ref W)])) rfl rfl (hb hby dp21_1_149) _ ?_
    show Sg p e below (T11.setTop (mkF m 150 #[sR a1, sR l1, sI sv, sR mb, sI cn, sR P, sR W, sI 0, sI 0] [(.long y), (.int (0 : Int32)), (.ref W)])) _
    refine XS.lconst X11.here hx rfl (hb hby dp21_1_150) ?_
    refine XS.aloadN X11.here hx rfl (hb hby dp21_1_151) rfl rfl ?_
    refine XS.iload X11.here hx rfl (hb hby dp21_1_152) rfl ?_
    show Sg p e below (T11.setTop (mkF m 154 #[sR a1, sR l1, sI sv, sR mb, sI cn, sR P, sR W, sI 0, sI 0] [(.int (0 : Int32)), (.ref mb), (.long (1 : Int64)), (.long y), (.int (0 : Int32)), (.ref W)])) _
    refine X11.iaload hx (j := (0 : Int32)) (v := (.int x)) (by rw [e11]; exact Ar20.1) (State.isArrayOf_alike hZ.alike Ar20.2.1) Ar20.2.2 hin20 (H20.at hin20 e1) (g := (mkF m 154 #[sR a1, sR l1, sI sv, sR mb, sI cn, sR P, sR W, sI 0, sI 0] [(.int (0 : Int32)), (.ref mb), (.long (1 : Int64)), (.long y), (.int (0 : Int32)), (.ref W)])) rfl rfl (hb hby dp21_1_154) _ ?_
    show Sg p e below (T11.setTop (mkF m 155 #[sR a1, sR l1, sI sv, sR mb, sI cn, sR P, sR W, sI 0, sI 0] [(.int x), (.long (1 : Int64)), (.long y), (.int (0 : Int32)), (.ref W)])) _
    refine XS.lshl X11.here hx rfl (hb hby dp21_1_155) rfl ?_
    refine XS.lor X11.here hx rfl (hb hby dp21_1_156) rfl ?_
    show Sg p e below (T11.setTop (mkF m 157 #[sR a1, sR l1, sI sv, sR mb, sI cn, sR P, sR W, sI 0, sI 0] [(.long (y ||| ((1 : Int64) <<< (x &&& 0x3f).toInt64))), (.int (0 : Int32)), (.ref W)])) _
    exact st21 _ k)
  have N24 := Fr.snoc X21 N14 g_W
  have Z25 : n0 ≤ h21.size := Nat.le_trans Z15 (Keep.of_wr W21).1
  have K26 : Keep h0 h21 [P, W] := K16.wr W21 (Or.inl (List.mem_of_getElem? (i := 1) rfl))
  have f27 := (v12.other W21 nPW)
  have P28 : ∀ t, Sg p e below (T21.setTop (mkF m 98 #[sR a1, sR l1, sI sv, sR mb, sI cn, sR P, sR W, sI 0, sI 1] [])) t → Sg p e below (T0.setTop (mkF m 98 #[sR a1, sR l1, sI sv, sR mb, sI cn, sR P, sR W, sI (-1), sI 0] [])) t := fun t k => P23 t (by
    refine XS.iinc X21.here hx rfl (hb hby dp21_1_158) rfl (l' := #[sR a1, sR l1, sI sv, sR mb, sI cn, sR P, sR W, sI 0, sI 1]) rfl ?_
    refine XS.goto X21.here hx rfl (pc0 := 161) (pc' := 98) rfl (hb hby dp21_1_161) (by decide) (by decide) ?_
    show Sg p e below (T21.setTop (mkF m 98 #[sR a1, sR l1, sI sv, sR mb, sI cn, sR P, sR W, sI 0, sI 1] [])) _
    exact k)
  exact ⟨T21, h21, _, X21.more (by omega) (by omega), e21, N24, K26, f27, v22, P28⟩
theorem dp21_1_110 : decode prog_21_method_1_code 110 = .ok (.aload_n 3, 1) := by decide +kernel
theorem dp21_1_111 : decode prog_21_method_1_code 111 = .ok (.iload 8, 2) := by decide +kernel
theorem dp21_1_113 : decode prog_21_method_1_code 113 = .ok (.iaload, 1) := by decide +kernel
theorem dp21_1_114 : decode prog_21_method_1_code 114 = .ok (.bipush 6, 2) := by decide +kernel
theorem dp21_1_116 : decode prog_21_method_1_code 116 = .ok (.iushr, 1) := by decide +kernel
theorem dp21_1_117 : decode prog_21_method_1_code 117 = .ok (.aload_n 3, 1) := by decide +kernel
theorem dp21_1_118 : decode prog_21_method_1_code 118 = .ok (.iload 8, 2) := by decide +kernel
theorem dp21_1_120 : decode prog_21_method_1_code 120 = .ok (.iconst 1, 1) := by decide +kernel
theorem dp21_1_121 : decode prog_21_method_1_code 121 = .ok (.isub, 1) := by decide +kernel
theorem dp21_1_122 : decode prog_21_method_1_code 122 = .ok (.iaload, 1) := by decide +kernel
theorem dp21_1_123 : decode prog_21_method_1_code 123 = .ok (.bipush 6, 2) := by decide +kernel
theorem dp21_1_125 : decode prog_21_method_1_code 125 = .ok (.iushr, 1) := by decide +kernel
theorem dp21_1_126 : decode prog_21_method_1_code 126 = .ok (.if_icmp .eq 18, 3) := by decide +kernel
set_option maxRecDepth 65536 in
set_option maxHeartbeats 40000000 in
theorem pc_t2n {p : Program} {l : Launch} {e : Env} {R : Room} {s : State} {m : MethodId} {args : Array Value} {below : List Frame} {meth : Method} {c : Code} {T0 : State} {locs : List Loc} {cells slots : Nat} {Z : State} {a0 : Array Value} {h0 : Heap} {n0 : Nat} (a1 l1 mb P W : Addr) (kM kP kW : ClassId) (sv N M cn x : Int32) (av iv x' : Int32) (y : Int64) (vs vp vw : List Value) (kk : Nat) (X0 : Stand p l e R s m args below meth c T0 locs cells slots) (hx : p.tables.exec = Jvm.exec) (hZ : Z.Warmed39 s.vm) (hw : ∀ d ∈ tables_1, d.before a0 Z = true) (hby : c.code = prog_21_method_1_code) (hml : c.maxLocals = 9) (hown : s.vm.findClass "com/example/whittle/whittle/engine/WordSets" = some m.cls) (e0 : T0.heap = h0) (N0 : Fr n0 locs) (Z0 : n0 ≤ h0.size) (hcc : cells + 0 ≤ R.cells) (hcs : slots + 0 ≤ R.slots) (hfr : 0 ≤ R.frames) (hlo : 0 ≤ R.locals) (AM : Arv Z h0 mb kM .int N vs (.int (0 : Int32))) (hlt : iv < N) (h1 : ¬ iv < 0 ∧ iv < N) (e1 : vs.getD iv.toNatClampNeg (.int (0 : Int32)) = .int x) (hz : ¬ iv = (0 : Int32)) (h2 : ¬ (iv - (1 : Int32)) < 0 ∧ (iv - (1 : Int32)) < N) (e2 : vs.getD (iv - (1 : Int32)).toNatClampNeg (.int (0 : Int32)) = .int x') (hd : ¬ own_sh x = own_sh x') (g_P : n0 ≤ P) (g_W : n0 ≤ W) (nMP : mb ≠ P) (nPW : P ≠ W) (AP : Arv Z h0 P kP .int M vp (.int (0 : Int32))) (AW : Arv Z h0 W kW .long M vw (.long (0 : Int64))) (hin : ¬ (av + (1 : Int32)) < 0 ∧ (av + (1 : Int32)) < M) (hk : (av + (1 : Int32)).toNatClampNeg = kk) (hlp : kk < vp.length) (hlw : kk < vw.length) (ew : vw.getD (av + (1 : Int32)).toNatClampNeg (.long (0 : Int64)) = .long y) :
    ∃ (T' : State) (h' : Heap) (locs' : List Loc), Stand p l e R s m args below meth c T' locs' (cells + 0) (slots + 0) ∧ T'.heap = h' ∧ Fr n0 locs' ∧ Keep h0 h' [P, W] ∧ Arv Z h' P kP .int M (vp.set kk (.int (own_sh x))) (.int (0 : Int32)) ∧ Arv Z h' W kW .long M (vw.set kk (.long (y ||| own_bit x))) (.long (0 : Int64)) ∧ ∀ t, Sg p e below (T'.setTop (mkF m 98 #[sR a1, sR l1, sI sv, sR mb, sI cn, sR P, sR W, .val (.int (av + (1 : Int32))), .val (.int (iv + (1 : Int32)))] [])) t → Sg p e below (T0.setTop (mkF m 98 #[sR a1, sR l1, sI sv, sR mb, sI cn, sR P, sR W, sI av, sI iv] [])) t := by
  have P0 : ∀ t, Sg p e below (T0.setTop (mkF m 98 #[sR a1, sR l1, sI sv, sR mb, sI cn, sR P, sR W, sI av, sI iv] [])) t → Sg p e below (T0.setTop (mkF m 98 #[sR a1, sR l1, sI sv, sR mb, sI cn, sR P, sR W, sI av, sI iv] [])) t := fun t k => k
  obtain ⟨cl29, Ar29, -, S29, N29, -, -⟩ := id AM
  obtain ⟨cl30, Ar30, -, S30, N30, H30, -⟩ := id AM
  have hin30 : ¬ (iv < 0 ∨ cl30.slots.size ≤ (iv).toNatClampNeg) := inb_of S30 h1
  obtain ⟨cl31, Ar31, -, S31, N31, H31, -⟩ := id AM
  have hin31 : ¬ ((iv - (1 : Int32)) < 0 ∨ cl31.slots.size ≤ ((iv - (1 : Int32))).toNatClampNeg) := inb_of S31 h2
  obtain ⟨cl32, Ar32, -, S32, N32, H32, -⟩ := id AM
  have hin32 : ¬ (iv < 0 ∨ cl32.slots.size ≤ (iv).toNatClampNeg) := inb_of S32 h1
  obtain ⟨cl33, Ar33, q33, S33, N33, H33, G33⟩ := id AP
  obtain ⟨T33, h33, X33, e33, W33, st33⟩ := stI X0 hx hZ e0 Ar33 (j := (av + (1 : Int32))) (inb_of S33 hin) (g := (mkF m 143 #[sR a1, sR l1, sI sv, sR mb, sI cn, sR P, sR W, .val (.int (av + (1 : Int32))), sI iv] [(.int ((x.toUInt32 >>> ((6 : Int32) &&& 31).toUInt32).toInt32)), (.int (av + (1 : Int32))), (.ref P)])) rfl rfl (hb hby dp21_1_143)
  have v34 : Arv Z h33 P kP .int M (vp.set kk (.int ((x.toUInt32 >>> ((6 : Int32) &&& 31).toUInt32).toInt32))) (.int (0 : Int32)) := Arv.set Ar33 q33 S33 N33 H33 G33 rfl W33 kk hk hlp
  have P35 : ∀ t, Sg p e below (T33.setTop (mkF m 144 #[sR a1, sR l1, sI sv, sR mb, sI cn, sR P, sR W, .val (.int (av + (1 : Int32))), sI iv] [])) t → Sg p e below (T0.setTop (mkF m 98 #[sR a1, sR l1, sI sv, sR mb, sI cn, sR P, sR W, sI av, sI iv] [])) t := fun t k => P0 t (by
    refine XS.iload X0.here hx rfl (hb hby dp21_1_98) rfl ?_
    refine XS.aloadN X0.here hx rfl (hb hby dp21_1_100) rfl rfl ?_
    show Sg p e below (T0.setTop (mkF m 101 #[sR a1, sR l1, sI sv, sR mb, sI cn, sR P, sR W, sI av, sI iv] [(.ref mb), (.int iv)])) _
    refine X0.arraylength hx (by rw [e0]; exact Ar29.1) (State.isArrayOf_alike hZ.alike Ar29.2.1) (g := (mkF m 101 #[sR a1, sR l1, sI sv, sR mb, sI cn, sR P, sR W, sI av, sI iv] [(.ref mb), (.int iv)])) rfl rfl (hb hby dp21_1_101) _ ?_
    rw [len_of S29 N29]
    show Sg p e below (T0.setTop (mkF m 102 #[sR a1, sR l1, sI sv, sR mb, sI cn, sR P, sR W, sI av, sI iv] [(.int N), (.int iv)])) _
    refine XS.icmpNo X0.here hx rfl (hb hby dp21_1_102) rfl (tlt (show iv < N from hlt)).2.1 ?_
    refine XS.iload X0.here hx rfl (hb hby dp21_1_105) rfl ?_
    refine XS.ifNo X0.here hx rfl (hb hby dp21_1_107) rfl ((if0 _ _).trans (feq (show ¬ (iv = (0 : Int32)) from hz)).1) ?_
    refine XS.aloadN X0.here hx rfl (hb hby dp21_1_110) rfl rfl ?_
    refine XS.iload X0.here hx rfl (hb hby dp21_1_111) rfl ?_
    show Sg p e below (T0.setTop (mkF m 113 #[sR a1, sR l1, sI sv, sR mb, sI cn, sR P, sR W, sI av, sI iv] [(.int iv), (.ref mb)])) _
    refine X0.iaload hx (j := iv) (v := (.int x)) (by rw [e0]; exact Ar30.1) (State.isArrayOf_alike hZ.alike Ar30.2.1) Ar30.2.2 hin30 (H30.at hin30 e1) (g := (mkF m 113 #[sR a1, sR l1, sI sv, sR mb, sI cn, sR P, sR W, sI av, sI iv] [(.int iv), (.ref mb)])) rfl rfl (hb hby dp21_1_113) _ ?_
    show Sg p e below (T0.setTop (mkF m 114 #[sR a1, sR l1, sI sv, sR mb, sI cn, sR P, sR W, sI av, sI iv] [(.int x)])) _
    refine XS.bipush X0.here hx rfl (hb hby dp21_1_114) ?_
    refine XS.iushr X0.here hx rfl (hb hby dp21_1_116) rfl ?_
    refine XS.aloadN X0.here hx rfl (hb hby dp21_1_117) rfl rfl ?_
    refine XS.iload X0.here hx rfl (hb hby dp21_1_118) rfl ?_
    refine XS.iconst X0.here hx rfl (hb hby dp21_1_120) ?_
    refine XS.isub X0.here hx rfl (hb hby dp21_1_121) rfl ?_
    show Sg p e below (T0.setTop (mkF m 122 #[sR a1, sR l1, sI sv, sR mb, sI cn, sR P, sR W, sI av, sI iv] [(.int (iv - (1 : Int32))), (.ref mb), (.int ((x.toUInt32 >>> ((6 : Int32) &&& 31).toUInt32).toInt32))])) _
    refine X0.iaload hx (j := (iv - (1 : Int32))) (v := (.int x')) (by rw [e0]; exact Ar31.1) (State.isArrayOf_alike hZ.alike Ar31.2.1) Ar31.2.2 hin31 (H31.at hin31 e2) (g := (mkF m 122 #[sR a1, sR l1, sI sv, sR mb, sI cn, sR P, sR W, sI av, sI iv] [(.int (iv - (1 : Int32))), (.ref mb), (.int ((x.toUInt32 >>> ((6 : Int32) &&& 31).toUInt32).toInt32))])) rfl rfl (hb hby dp21_1_122) _ ?_
    show Sg p e below (T0.setTop (mkF m 123 #[sR a1, sR l1, sI sv, sR mb, sI cn, sR P, sR W, sI av, sI iv] [(.int x'), (.int ((x.toUInt32 >>> ((6 : Int32) &&& 31).toUInt32).toInt32))])) _
    refine XS.bipush X0.here hx rfl (hb hby dp21_1_123) ?_
    refine XS.iushr X0.here hx rfl (hb hby dp21_1_125) rfl ?_
    refine XS.icmpNo X0.here hx rfl (hb hby dp21_1_126) rfl (feq (show ¬ (((x.toUInt32 >>> ((6 : Int32) &&& 31).toUInt32).toInt32) = ((x'.toUInt32 >>> ((6 : Int32) &&& 31).toUInt32).toInt32)) from hd)).1 ?_
    refine XS.aload X0.here hx rfl (hb hby dp21_1_129) rfl rfl ?_
    refine XS.iinc X0.here hx rfl (hb hby dp21_1_131) rfl (l' := #[sR a1, sR l1, sI sv, sR mb, sI cn, sR P, sR W, .val (.int (av + (1 : Int32))), sI iv]) rfl ?_
    refine XS.iload X0.here hx rfl (hb hby dp21_1_134) rfl ?_
    refine XS.aloadN X0.here hx rfl (hb hby dp21_1_136) rfl rfl ?_
    refine XS.iload X0.here hx rfl (hb hby dp21_1_137) rfl ?_
    show Sg p e below (T0.setTop (mkF m 139 #[sR a1, sR l1, sI sv, sR mb, sI cn, sR P, sR W, .val (.int (av + (1 : Int32))), sI iv] [(.int iv), (.ref mb), (.int (av + (1 : Int32))), (.ref P)])) _
    refine X0.iaload hx (j := iv) (v := (.int x)) (by rw [e0]; exact Ar32.1) (State.isArrayOf_alike hZ.alike Ar32.2.1) Ar32.2.2 hin32 (H32.at hin32 e1) (g := (mkF m 139 #[sR a1, sR l1, sI sv, sR mb, sI cn, sR P, sR W, .val (.int (av + (1 : Int32))), sI iv] [(.int iv), (.ref mb), (.int (av + (1 : Int32))), (.ref P)])) rfl rfl (hb hby dp21_1_139) _ ?_
    show Sg p e below (T0.setTop (mkF m 140 #[sR a1, sR l1, sI sv, sR mb, sI cn, sR P, sR W, .val (.int (av + (1 : Int32))), sI iv] [(.int x), (.int (av + (1 : Int32))), (.ref P)])) _
    refine XS.bipush X0.here hx rfl (hb hby dp21_1_140) ?_
    refine XS.iushr X0.here hx rfl (hb hby dp21_1_142) rfl ?_
    show Sg p e below (T0.setTop (mkF m 143 #[sR a1, sR l1, sI sv, sR mb, sI cn, sR P, sR W, .val (.int (av + (1 : Int32))), sI iv] [(.int ((x.toUInt32 >>> ((6 : Int32) &&& 31).toUInt32).toInt32)), (.int (av + (1 : Int32))), (.ref P)])) _
    exact st33 _ k)
  have N36 := Fr.snoc X33 N0 g_P
  have Z37 : n0 ≤ h33.size := Nat.le_trans Z0 (Keep.of_wr W33).1
  have K38 : Keep h0 h33 [P, W] := (Keep.refl h0 [P, W]).wr W33 (Or.inl (List.mem_of_getElem? (i := 0) rfl))
  have f39 := (AW.other W33 (Ne.symm nPW))
  obtain ⟨cl40, Ar40, -, S40, N40, H40, -⟩ := id f39
  have hin40 : ¬ ((av + (1 : Int32)) < 0 ∨ cl40.slots.size ≤ ((av + (1 : Int32))).toNatClampNeg) := inb_of S40 hin
  have f41 := (AM.other W33 nMP)
  obtain ⟨cl42, Ar42, -, S42, N42, H42, -⟩ := id f41
  have hin42 : ¬ (iv < 0 ∨ cl42.slots.size ≤ (iv).toNatClampNeg) := inb_of S42 h1
  obtain ⟨cl43, Ar43, q43, S43, N43, H43, G43⟩ := id f39
  obtain ⟨T43, h43, X43, e43, W43, st43⟩ := stJ X33 hx hZ e33 Ar43 (j := (av + (1 : Int32))) (inb_of S43 hin) (g := (mkF m 157 #[sR a1, sR l1, sI sv, sR mb, sI cn, sR P, sR W, .val (.int (av + (1 : Int32))), sI iv] [(.long (y ||| ((1 : Int64) <<< (x &&& 0x3f).toInt64))), (.int (av + (1 : Int32))), (.ref W)])) rfl rfl (hb hby dp21_1_157)
  have v44 : Arv Z h43 W kW .long M (vw.set kk (.long (y ||| ((1 : Int64) <<< (x &&& 0x3f).toInt64)))) (.long (0 : Int64)) := Arv.set Ar43 q43 S43 N43 H43 G43 rfl W43 kk hk hlw
  have P45 : ∀ t, Sg p e below (T43.setTop (mkF m 158 #[sR a1, sR l1, sI sv, sR mb, sI cn, sR P, sR W, .val (.int (av + (1 : Int32))), sI iv] [])) t → Sg p e below (T0.setTop (mkF m 98 #[sR a1, sR l1, sI sv, sR mb, sI cn, sR P, sR W, sI av, sI iv] [])) t := fun t k => P35 t (by
    refine XS.aload X33.here hx rfl (hb hby dp21_1_144) rfl rfl ?_
    refine XS.iload X33.here hx rfl (hb hby dp21_1_146) rfl ?_
    refine XT.dup2 X33.here hx rfl (hb hby dp21_1_148) rfl rfl rfl ?_
    show Sg p e below (T33.setTop (mkF m 149 #[sR a1, sR l1, sI sv, sR mb, sI cn, sR P, sR W, .val (.int (av + (1 : Int32))), sI iv] [(.int (av + (1 : Int32))), (.ref W), (.int (av + (1 : Int32))), (.ref W)])) _
    refine X33.laload hx (j := (av + (1 : Int32))) (v := (.long y)) (by rw [e33]; exact Ar40.1) (State.isArrayOf_alike hZ.alike Ar40.2.1) Ar40.2.2 hin40 (H40.at hin40 ew) (g := (mkF m 149 #[sR a1, sR l1, sI sv, sR mb, sI cn, sR P, sR W, .val (.int (av + (1 : Int32))), sI iv] [(.int (av + (1 : Int32))), (.ref W), (.int (av + (1 : Int32))), (.ref W)])) rfl rfl (hb hby dp21_1_149) _ ?_
    show Sg p e below (T33.setTop (mkF m 150 #[sR a1, sR l1, sI sv, sR mb, sI cn, sR P, sR W, .val (.int (av + (1 : Int32))), sI iv] [(.long y), (.int (av + (1 : Int32))), (.ref W)])) _
    refine XS.lconst X33.here hx rfl (hb hby dp21_1_150) ?_
    refine XS.aloadN X33.here hx rfl (hb hby dp21_1_151) rfl rfl ?_
    refine XS.iload X33.here hx rfl (hb hby dp21_1_152) rfl ?_
    show Sg p e below (T33.setTop (mkF m 154 #[sR a1, sR l1, sI sv, sR mb, sI cn, sR P, sR W, .val (.int (av + (1 : Int32))), sI iv] [(.int iv), (.ref mb), (.long (1 : Int64)), (.long y), (.int (av + (1 : Int32))), (.ref W)])) _
    refine X33.iaload hx (j := iv) (v := (.int x)) (by rw [e33]; exact Ar42.1) (State.isArrayOf_alike hZ.alike Ar42.2.1) Ar42.2.2 hin42 (H42.at hin42 e1) (g := (mkF m 154 #[sR a1, sR l1, sI sv, sR mb, sI cn, sR P, sR W, .val (.int (av + (1 : Int32))), sI iv] [(.int iv), (.ref mb), (.long (1 : Int64)), (.long y), (.int (av + (1 : Int32))), (.ref W)])) rfl rfl (hb hby dp21_1_154) _ ?_
    show Sg p e below (T33.setTop (mkF m 155 #[sR a1, sR l1, sI sv, sR mb, sI cn, sR P, sR W, .val (.int (av + (1 : Int32))), sI iv] [(.int x), (.long (1 : Int64)), (.long y), (.int (av + (1 : Int32))), (.ref W)])) _
    refine XS.lshl X33.here hx rfl (hb hby dp21_1_155) rfl ?_
    refine XS.lor X33.here hx rfl (hb hby dp21_1_156) rfl ?_
    show Sg p e below (T33.setTop (mkF m 157 #[sR a1, sR l1, sI sv, sR mb, sI cn, sR P, sR W, .val (.int (av + (1 : Int32))), sI iv] [(.long (y ||| ((1 : Int64) <<< (x &&& 0x3f).toInt64))), (.int (av + (1 : Int32))), (.ref W)])) _
    exact st43 _ k)
  have N46 := Fr.snoc X43 N36 g_W
  have Z47 : n0 ≤ h43.size := Nat.le_trans Z37 (Keep.of_wr W43).1
  have K48 : Keep h0 h43 [P, W] := K38.wr W43 (Or.inl (List.mem_of_getElem? (i := 1) rfl))
  have f49 := (v34.other W43 nPW)
  have P50 : ∀ t, Sg p e below (T43.setTop (mkF m 98 #[sR a1, sR l1, sI sv, sR mb, sI cn, sR P, sR W, .val (.int (av + (1 : Int32))), .val (.int (iv + (1 : Int32)))] [])) t → Sg p e below (T0.setTop (mkF m 98 #[sR a1, sR l1, sI sv, sR mb, sI cn, sR P, sR W, sI av, sI iv] [])) t := fun t k => P45 t (by
    refine XS.iinc X43.here hx rfl (hb hby dp21_1_158) rfl (l' := #[sR a1, sR l1, sI sv, sR mb, sI cn, sR P, sR W, .val (.int (av + (1 : Int32))), .val (.int (iv + (1 : Int32)))]) rfl ?_
    refine XS.goto X43.here hx rfl (pc0 := 161) (pc' := 98) rfl (hb hby dp21_1_161) (by decide) (by decide) ?_
    show Sg p e below (T43.setTop (mkF m 98 #[sR a1, sR l1, sI sv, sR mb, sI cn, sR P, sR W, .val (.int (av + (1 : Int32))), .val (.int (iv + (1 : Int32)))] [])) _
    exact k)
  exact ⟨T43, h43, _, X43.more (by omega) (by omega), e43, N46, K48, f49, v44, P50⟩
set_option maxRecDepth 65536 in
set_option maxHeartbeats 40000000 in
theorem pc_t2s {p : Program} {l : Launch} {e : Env} {R : Room} {s : State} {m : MethodId} {args : Array Value} {below : List Frame} {meth : Method} {c : Code} {T0 : State} {locs : List Loc} {cells slots : Nat} {Z : State} {a0 : Array Value} {h0 : Heap} {n0 : Nat} (a1 l1 mb P W : Addr) (kM kP kW : ClassId) (sv N M cn x : Int32) (av iv x' : Int32) (y : Int64) (vs vp vw : List Value) (kk : Nat) (X0 : Stand p l e R s m args below meth c T0 locs cells slots) (hx : p.tables.exec = Jvm.exec) (hZ : Z.Warmed39 s.vm) (hw : ∀ d ∈ tables_1, d.before a0 Z = true) (hby : c.code = prog_21_method_1_code) (hml : c.maxLocals = 9) (hown : s.vm.findClass "com/example/whittle/whittle/engine/WordSets" = some m.cls) (e0 : T0.heap = h0) (N0 : Fr n0 locs) (Z0 : n0 ≤ h0.size) (hcc : cells + 0 ≤ R.cells) (hcs : slots + 0 ≤ R.slots) (hfr : 0 ≤ R.frames) (hlo : 0 ≤ R.locals) (AM : Arv Z h0 mb kM .int N vs (.int (0 : Int32))) (hlt : iv < N) (h1 : ¬ iv < 0 ∧ iv < N) (e1 : vs.getD iv.toNatClampNeg (.int (0 : Int32)) = .int x) (hz : ¬ iv = (0 : Int32)) (h2 : ¬ (iv - (1 : Int32)) < 0 ∧ (iv - (1 : Int32)) < N) (e2 : vs.getD (iv - (1 : Int32)).toNatClampNeg (.int (0 : Int32)) = .int x') (hd : own_sh x = own_sh x') (g_P : n0 ≤ P) (g_W : n0 ≤ W) (nMP : mb ≠ P) (nPW : P ≠ W) (AP : Arv Z h0 P kP .int M vp (.int (0 : Int32))) (AW : Arv Z h0 W kW .long M vw (.long (0 : Int64))) (hin : ¬ av < 0 ∧ av < M) (hk : av.toNatClampNeg = kk) (hlp : kk < vp.length) (hlw : kk < vw.length) (ew : vw.getD av.toNatClampNeg (.long (0 : Int64)) = .long y) :
    ∃ (T' : State) (h' : Heap) (locs' : List Loc), Stand p l e R s m args below meth c T' locs' (cells + 0) (slots + 0) ∧ T'.heap = h' ∧ Fr n0 locs' ∧ Keep h0 h' [W] ∧ Arv Z h' W kW .long M (vw.set kk (.long (y ||| own_bit x))) (.long (0 : Int64)) ∧ ∀ t, Sg p e below (T'.setTop (mkF m 98 #[sR a1, sR l1, sI sv, sR mb, sI cn, sR P, sR W, sI av, .val (.int (iv + (1 : Int32)))] [])) t → Sg p e below (T0.setTop (mkF m 98 #[sR a1, sR l1, sI sv, sR mb, sI cn, sR P, sR W, sI av, sI iv] [])) t := by
  have P0 : ∀ t, Sg p e below (T0.setTop (mkF m 98 #[sR a1, sR l1, sI sv, sR mb, sI cn, sR P, sR W, sI av, sI iv] [])) t → Sg p e below (T0.setTop (mkF m 98 #[sR a1, sR l1, sI sv, sR mb, sI cn, sR P, sR W, sI av, sI iv] [])) t := fun t k => k
  obtain ⟨cl51, Ar51, -, S51, N51, -, -⟩ := id AM
  obtain ⟨cl52, Ar52, -, S52, N52, H52, -⟩ := id AM
  have hin52 : ¬ (iv < 0 ∨ cl52.slots.size ≤ (iv).toNatClampNeg) := inb_of S52 h1
  obtain ⟨cl53, Ar53, -, S53, N53, H53, -⟩ := id AM
  have hin53 : ¬ ((iv - (1 : Int32)) < 0 ∨ cl53.slots.size ≤ ((iv - (1 : Int32))).toNatClampNeg) := inb_of S53 h2
  obtain ⟨cl54, Ar54, -, S54, N54, H54, -⟩ := id AW
  have hin54 : ¬ (av < 0 ∨ cl54.slots.size ≤ (av).toNatClampNeg) := inb_of S54 hin
  obtain ⟨cl55, Ar55, -, S55, N55, H55, -⟩ := id AM
  have hin55 : ¬ (iv < 0 ∨ cl55.slots.size ≤ (iv).toNatClampNeg) := inb_of S55 h1
  obtain ⟨cl56, Ar56, q56, S56, N56, H56, G56⟩ := id AW
  obtain ⟨T56, h56, X56, e56, W56, st56⟩ := stJ X0 hx hZ e0 Ar56 (j := av) (inb_of S56 hin) (g := (mkF m 157 #[sR a1, sR l1, sI sv, sR mb, sI cn, sR P, sR W, sI av, sI iv] [(.long (y ||| ((1 : Int64) <<< (x &&& 0x3f).toInt64))), (.int av), (.ref W)])) rfl rfl (hb hby dp21_1_157)
  have v57 : Arv Z h56 W kW .long M (vw.set kk (.long (y ||| ((1 : Int64) <<< (x &&& 0x3f).toInt64)))) (.long (0 : Int64)) := Arv.set Ar56 q56 S56 N56 H56 G56 rfl W56 kk hk hlw
  have P58 : ∀ t, Sg p e below (T56.setTop (mkF m 158 #[sR a1, sR l1, sI sv, sR mb, sI cn, sR P, sR W, sI av, sI iv] [])) t → Sg p e below (T0.setTop (mkF m 98 #[sR a1, sR l1, sI sv, sR mb, sI cn, sR P, sR W, sI av, sI iv] [])) t := fun t k => P0 t (by
    refine XS.iload X0.here hx rfl (hb hby dp21_1_98) rfl ?_
    refine XS.aloadN X0.here hx rfl (hb hby dp21_1_100) rfl rfl ?_
    show Sg p e below (T0.setTop (mkF m 101 #[sR a1, sR l1, sI sv, sR mb, sI cn, sR P, sR W, sI av, sI iv] [(.ref mb), (.int iv)])) _
    refine X0.arraylength hx (by rw [e0]; exact Ar51.1) (State.isArrayOf_alike hZ.alike Ar51.2.1) (g := (mkF m 101 #[sR a1, sR l1, sI sv, sR mb, sI cn, sR P, sR W, sI av, sI iv] [(.ref mb), (.int iv)])) rfl rfl (hb hby dp21_1_101) _ ?_
    rw [len_of S51 N51]
    show Sg p e below (T0.setTop (mkF m 102 #[sR a1, sR l1, sI sv, sR mb, sI cn, sR P, sR W, sI av, sI iv] [(.int N), (.int iv)])) _
    refine XS.icmpNo X0.here hx rfl (hb hby dp21_1_102) rfl (tlt (show iv < N from hlt)).2.1 ?_
    refine XS.iload X0.here hx rfl (hb hby dp21_1_105) rfl ?_
    refine XS.ifNo X0.here hx rfl (hb hby dp21_1_107) rfl ((if0 _ _).trans (feq (show ¬ (iv = (0 : Int32)) from hz)).1) ?_
    refine XS.aloadN X0.here hx rfl (hb hby dp21_1_110) rfl rfl ?_
    refine XS.iload X0.here hx rfl (hb hby dp21_1_111) rfl ?_
    show Sg p e below (T0.setTop (mkF m 113 #[sR a1, sR l1, sI sv, sR mb, sI cn, sR P, sR W, sI av, sI iv] [(.int iv), (.ref mb)])) _
    refine X0.iaload hx (j := iv) (v := (.int x)) (by rw [e0]; exact Ar52.1) (State.isArrayOf_alike hZ.alike Ar52.2.1) Ar52.2.2 hin52 (H52.at hin52 e1) (g := (mkF m 113 #[sR a1, sR l1, sI sv, sR mb, sI cn, sR P, sR W, sI av, sI iv] [(.int iv), (.ref mb)])) rfl rfl (hb hby dp21_1_113) _ ?_
    show Sg p e below (T0.setTop (mkF m 114 #[sR a1, sR l1, sI sv, sR mb, sI cn, sR P, sR W, sI av, sI iv] [(.int x)])) _
    refine XS.bipush X0.here hx rfl (hb hby dp21_1_114) ?_
    refine XS.iushr X0.here hx rfl (hb hby dp21_1_116) rfl ?_
    refine XS.aloadN X0.here hx rfl (hb hby dp21_1_117) rfl rfl ?_
    refine XS.iload X0.here hx rfl (hb hby dp21_1_118) rfl ?_
    refine XS.iconst X0.here hx rfl (hb hby dp21_1_120) ?_
    refine XS.isub X0.here hx rfl (hb hby dp21_1_121) rfl ?_
    show Sg p e below (T0.setTop (mkF m 122 #[sR a1, sR l1, sI sv, sR mb, sI cn, sR P, sR W, sI av, sI iv] [(.int (iv - (1 : Int32))), (.ref mb), (.int ((x.toUInt32 >>> ((6 : Int32) &&& 31).toUInt32).toInt32))])) _
    refine X0.iaload hx (j := (iv - (1 : Int32))) (v := (.int x')) (by rw [e0]; exact Ar53.1) (State.isArrayOf_alike hZ.alike Ar53.2.1) Ar53.2.2 hin53 (H53.at hin53 e2) (g := (mkF m 122 #[sR a1, sR l1, sI sv, sR mb, sI cn, sR P, sR W, sI av, sI iv] [(.int (iv - (1 : Int32))), (.ref mb), (.int ((x.toUInt32 >>> ((6 : Int32) &&& 31).toUInt32).toInt32))])) rfl rfl (hb hby dp21_1_122) _ ?_
    show Sg p e below (T0.setTop (mkF m 123 #[sR a1, sR l1, sI sv, sR mb, sI cn, sR P, sR W, sI av, sI iv] [(.int x'), (.int ((x.toUInt32 >>> ((6 : Int32) &&& 31).toUInt32).toInt32))])) _
    refine XS.bipush X0.here hx rfl (hb hby dp21_1_123) ?_
    refine XS.iushr X0.here hx rfl (hb hby dp21_1_125) rfl ?_
    refine XS.icmpYes X0.here hx rfl (pc0 := 126) (pc' := 144) rfl (hb hby dp21_1_126) rfl (teq (show ((x.toUInt32 >>> ((6 : Int32) &&& 31).toUInt32).toInt32) = ((x'.toUInt32 >>> ((6 : Int32) &&& 31).toUInt32).toInt32) from hd)).1 (by decide) (by decide) ?_
    refine XS.aload X0.here hx rfl (hb hby dp21_1_144) rfl rfl ?_
    refine XS.iload X0.here hx rfl (hb hby dp21_1_146) rfl ?_
    refine XT.dup2 X0.here hx rfl (hb hby dp21_1_148) rfl rfl rfl ?_
    show Sg p e below (T0.setTop (mkF m 149 #[sR a1, sR l1, sI sv, sR mb, sI cn, sR P, sR W, sI av, sI iv] [(.int av), (.ref W), (.int av), (.ref W)])) _
    refine X0.laload hx (j := av) (v := (.long y)) (by rw [e0]; exact Ar54.1) (State.isArrayOf_alike hZ.alike Ar54.2.1) Ar54.2.2 hin54 (H54.at hin54 ew) (g := (mkF m 149 #[sR a1, sR l1, sI sv, sR mb, sI cn, sR P, sR W, sI av, sI iv] [(.int av), (.ref W), (.int av), (.ref W)])) rfl rfl (hb hby dp21_1_149) _ ?_
    show Sg p e below (T0.setTop (mkF m 150 #[sR a1, sR l1, sI sv, sR mb, sI cn, sR P, sR W, sI av, sI iv] [(.long y), (.int av), (.ref W)])) _
    refine XS.lconst X0.here hx rfl (hb hby dp21_1_150) ?_
    refine XS.aloadN X0.here hx rfl (hb hby dp21_1_151) rfl rfl ?_
    refine XS.iload X0.here hx rfl (hb hby dp21_1_152) rfl ?_
    show Sg p e below (T0.setTop (mkF m 154 #[sR a1, sR l1, sI sv, sR mb, sI cn, sR P, sR W, sI av, sI iv] [(.int iv), (.ref mb), (.long (1 : Int64)), (.long y), (.int av), (.ref W)])) _
    refine X0.iaload hx (j := iv) (v := (.int x)) (by rw [e0]; exact Ar55.1) (State.isArrayOf_alike hZ.alike Ar55.2.1) Ar55.2.2 hin55 (H55.at hin55 e1) (g := (mkF m 154 #[sR a1, sR l1, sI sv, sR mb, sI cn, sR P, sR W, sI av, sI iv] [(.int iv), (.ref mb), (.long (1 : Int64)), (.long y), (.int av), (.ref W)])) rfl rfl (hb hby dp21_1_154) _ ?_
    show Sg p e below (T0.setTop (mkF m 155 #[sR a1, sR l1, sI sv, sR mb, sI cn, sR P, sR W, sI av, sI iv] [(.int x), (.long (1 : Int64)), (.long y), (.int av), (.ref W)])) _
    refine XS.lshl X0.here hx rfl (hb hby dp21_1_155) rfl ?_
    refine XS.lor X0.here hx rfl (hb hby dp21_1_156) rfl ?_
    show Sg p e below (T0.setTop (mkF m 157 #[sR a1, sR l1, sI sv, sR mb, sI cn, sR P, sR W, sI av, sI iv] [(.long (y ||| ((1 : Int64) <<< (x &&& 0x3f).toInt64))), (.int av), (.ref W)])) _
    exact st56 _ k)
  have N59 := Fr.snoc X56 N0 g_W
  have Z60 : n0 ≤ h56.size := Nat.le_trans Z0 (Keep.of_wr W56).1
  have K61 : Keep h0 h56 [W] := (Keep.refl h0 [W]).wr W56 (Or.inl (List.mem_of_getElem? (i := 0) rfl))
  have P62 : ∀ t, Sg p e below (T56.setTop (mkF m 98 #[sR a1, sR l1, sI sv, sR mb, sI cn, sR P, sR W, sI av, .val (.int (iv + (1 : Int32)))] [])) t → Sg p e below (T0.setTop (mkF m 98 #[sR a1, sR l1, sI sv, sR mb, sI cn, sR P, sR W, sI av, sI iv] [])) t := fun t k => P58 t (by
    refine XS.iinc X56.here hx rfl (hb hby dp21_1_158) rfl (l' := #[sR a1, sR l1, sI sv, sR mb, sI cn, sR P, sR W, sI av, .val (.int (iv + (1 : Int32)))]) rfl ?_
    refine XS.goto X56.here hx rfl (pc0 := 161) (pc' := 98) rfl (hb hby dp21_1_161) (by decide) (by decide) ?_
    show Sg p e below (T56.setTop (mkF m 98 #[sR a1, sR l1, sI sv, sR mb, sI cn, sR P, sR W, sI av, .val (.int (iv + (1 : Int32)))] [])) _
    exact k)
  exact ⟨T56, h56, _, X56.more (by omega) (by omega), e56, N59, K61, v57, P62⟩
theorem dp21_1_34 : decode prog_21_method_1_code 34 = .ok (.iconst 0, 1) := by decide +kernel
theorem dp21_1_35 : decode prog_21_method_1_code 35 = .ok (.istore 4, 2) := by decide +kernel
theorem dp21_1_37 : decode prog_21_method_1_code 37 = .ok (.iconst 0, 1) := by decide +kernel
theorem dp21_1_38 : decode prog_21_method_1_code 38 = .ok (.istore 5, 2) := by decide +kernel
theorem dp21_1_80 : decode prog_21_method_1_code 80 = .ok (.iload 4, 2) := by decide +kernel
theorem dp21_1_82 : decode prog_21_method_1_code 82 = .ok (.newarray .int, 2) := by decide +kernel
theorem dp21_1_84 : decode prog_21_method_1_code 84 = .ok (.astore 5, 2) := by decide +kernel
theorem dp21_1_86 : decode prog_21_method_1_code 86 = .ok (.iload 4, 2) := by decide +kernel
theorem dp21_1_88 : decode prog_21_method_1_code 88 = .ok (.newarray .long, 2) := by decide +kernel
theorem dp21_1_90 : decode prog_21_method_1_code 90 = .ok (.astore 6, 2) := by decide +kernel
theorem dp21_1_92 : decode prog_21_method_1_code 92 = .ok (.iconst (-1), 1) := by decide +kernel
theorem dp21_1_93 : decode prog_21_method_1_code 93 = .ok (.istore 7, 2) := by decide +kernel
theorem dp21_1_95 : decode prog_21_method_1_code 95 = .ok (.iconst 0, 1) := by decide +kernel
theorem dp21_1_96 : decode prog_21_method_1_code 96 = .ok (.istore 8, 2) := by decide +kernel
set_option maxRecDepth 65536 in
set_option maxHeartbeats 40000000 in
theorem pc_cbd {p : Program} {l : Launch} {e : Env} {R : Room} {s : State} {m : MethodId} {args : Array Value} {below : List Frame} {meth : Method} {c : Code} {T0 : State} {locs : List Loc} {cells slots : Nat} {Z : State} {a0 : Array Value} {h0 : Heap} {n0 : Nat} (a1 l1 mb : Addr) (kM : ClassId) (sv N : Int32) (xs : List Int32) (g4 g5 g6 g7 g8 : Slot) (X0 : Stand p l e R s m args below meth c T0 locs cells slots) (hx : p.tables.exec = Jvm.exec) (hZ : Z.Warmed39 s.vm) (hw : ∀ d ∈ tables_1, d.before a0 Z = true) (hby : c.code = prog_21_method_1_code) (hml : c.maxLocals = 9) (hown : s.vm.findClass "com/example/whittle/whittle/engine/WordSets" = some m.cls) (e0 : T0.heap = h0) (N0 : Fr n0 locs) (Z0 : n0 ≤ h0.size) (hcc : cells + 2 ≤ R.cells) (hcs : slots + 4 ≤ R.slots) (hfr : 0 ≤ R.frames) (hlo : 0 ≤ R.locals) (AM : Arv Z h0 mb kM .int N (xs.map Value.int) (.int (0 : Int32))) (hN : N = Int32.ofNat xs.length) (hx3 : xs.length ≤ 2) (ho4 : g4 = sU ∨ ∃ w, g4 = .val w ∧ w.category = 1) (ho5 : g5 = sU ∨ ∃ w, g5 = .val w ∧ w.category = 1) (ho6 : g6 = sU ∨ ∃ w, g6 = .val w ∧ w.category = 1) (ho7 : g7 = sU ∨ ∃ w, g7 = .val w ∧ w.category = 1) (ho8 : g8 = sU ∨ ∃ w, g8 = .val w ∧ w.category = 1) :
    ∃ (T' : State) (h' : Heap) (locs' : List Loc) (P2 W2 : Addr) (k5 k6 : ClassId) (pl : List Int32) (wl : List Int64) (N2 at2 iv2 : Int32), Stand p l e R s m args below meth c T' locs' (cells + 2) (slots + 4) ∧ T'.heap = h' ∧ Fr n0 locs' ∧ Keep h0 h' [] ∧ pl = own_pl xs ∧ wl = own_wl xs ∧ N2 = Int32.ofNat pl.length ∧ Arv Z h' P2 k5 .int N2 (pl.map Value.int) (.int (0 : Int32)) ∧ Arv Z h' W2 k6 .long N2 (wl.map Value.long) (.long (0 : Int64)) ∧ Exa Z h' P2 "[I" ∧ Exa Z h' W2 "[J" ∧ h0.size ≤ P2 ∧ h0.size ≤ W2 ∧ ∀ t, Sg p e below (T'.setTop (mkF m 164 #[sR a1, sR l1, sI sv, sR mb, sI N2, sR P2, sR W2, sI at2, sI iv2] [])) t → Sg p e below (T0.setTop (mkF m 34 #[sR a1, sR l1, sI sv, sR mb, g4, g5, g6, g7, g8] [])) t := by
  have P0 : ∀ t, Sg p e below (T0.setTop (mkF m 34 #[sR a1, sR l1, sI sv, sR mb, g4, g5, g6, g7, g8] [])) t → Sg p e below (T0.setTop (mkF m 34 #[sR a1, sR l1, sI sv, sR mb, g4, g5, g6, g7, g8] [])) t := fun t k => k
  rcases xs with _ | ⟨x0, _ | ⟨x1, _ | ⟨x2, xs⟩⟩⟩
  · skip
    have hN' : N = (0 : Int32) := hN
    subst hN'
    obtain ⟨cl63, Ar63, -, S63, N63, -, -⟩ := id AM
    obtain ⟨T64, h64, k64, X64, e64, E64, A64, B64, st64⟩ := newPE X0 hx hZ (own_hw hw 10 rfl) e0 (g := (mkF m 82 #[sR a1, sR l1, sI sv, sR mb, sI 0, sI 0, g6, g7, g8] [(.int (0 : Int32))])) rfl (hb hby dp21_1_82) rfl (by decide) (cap := 0) (by decide) (by decide) (by omega) (by omega) (ad := "[I") (by decide)
    obtain ⟨b64, g64⟩ : ∃ z, z = h0.size := ⟨_, rfl⟩
    rw [← g64] at A64 B64 st64
    have g_b64 : n0 ≤ b64 := Nat.le_trans Z0 (Nat.le_of_eq g64.symm)
    have sz_b64 : h0.size ≤ b64 := Nat.le_trans (Keep.refl h0 []).1 (Nat.le_of_eq g64.symm)
    have P65 : ∀ t, Sg p e below (T64.setTop (mkF m 84 #[sR a1, sR l1, sI sv, sR mb, sI 0, sI 0, g6, g7, g8] [(.ref b64)])) t → Sg p e below (T0.setTop (mkF m 34 #[sR a1, sR l1, sI sv, sR mb, g4, g5, g6, g7, g8] [])) t := fun t k => P0 t (by
      refine XS.iconst X0.here hx rfl (hb hby dp21_1_34) ?_
      refine XS.istoreS X0.here hx rfl (hb hby dp21_1_35) rfl rfl ho4 ?_
      show Sg p e below (T0.setTop (mkF m 37 #[sR a1, sR l1, sI sv, sR mb, sI 0, g5, g6, g7, g8] [])) _
      refine XS.iconst X0.here hx rfl (hb hby dp21_1_37) ?_
      refine XS.istoreS X0.here hx rfl (hb hby dp21_1_38) rfl rfl ho5 ?_
      show Sg p e below (T0.setTop (mkF m 40 #[sR a1, sR l1, sI sv, sR mb, sI 0, sI 0, g6, g7, g8] [])) _
      refine XS.iload X0.here hx rfl (hb hby dp21_1_40) rfl ?_
      refine XS.aloadN X0.here hx rfl (hb hby dp21_1_42) rfl rfl ?_
      show Sg p e below (T0.setTop (mkF m 43 #[sR a1, sR l1, sI sv, sR mb, sI 0, sI 0, g6, g7, g8] [(.ref mb), (.int (0 : Int32))])) _
      refine X0.arraylength hx (by rw [e0]; exact Ar63.1) (State.isArrayOf_alike hZ.alike Ar63.2.1) (g := (mkF m 43 #[sR a1, sR l1, sI sv, sR mb, sI 0, sI 0, g6, g7, g8] [(.ref mb), (.int (0 : Int32))])) rfl rfl (hb hby dp21_1_43) _ ?_
      rw [len_of S63 N63]
      show Sg p e below (T0.setTop (mkF m 44 #[sR a1, sR l1, sI sv, sR mb, sI 0, sI 0, g6, g7, g8] [(.int (0 : Int32)), (.int (0 : Int32))])) _
      refine XS.icmpYes X0.here hx rfl (pc0 := 44) (pc' := 80) rfl (hb hby dp21_1_44) rfl (flt (show ¬ ((0 : Int32) < (0 : Int32)) from (by decide))).2.1 (by decide) (by decide) ?_
      refine XS.iload X0.here hx rfl (hb hby dp21_1_80) rfl ?_
      show Sg p e below (T0.setTop (mkF m 82 #[sR a1, sR l1, sI sv, sR mb, sI 0, sI 0, g6, g7, g8] [(.int (0 : Int32))])) _
      exact st64 _ k)
    have Z66 : n0 ≤ h64.size := Nat.le_trans Z0 E64.1
    have K67 : Keep h0 h64 [] := (Keep.refl h0 []).ext E64
    have v68 : Arv Z h64 b64 k64 .int (0 : Int32) ([] : List Value) (.int (0 : Int32)) := Arv.new A64 (by decide)
    obtain ⟨T69, h69, k69, X69, e69, E69, A69, B69, st69⟩ := newPE X64 hx hZ (own_hw hw 28 rfl) e64 (g := (mkF m 88 #[sR a1, sR l1, sI sv, sR mb, sI 0, sR b64, g6, g7, g8] [(.int (0 : Int32))])) rfl (hb hby dp21_1_88) rfl (by decide) (cap := 0) (by decide) (by decide) (by omega) (by omega) (ad := "[J") (by decide)
    obtain ⟨b69, g69⟩ : ∃ z, z = h64.size := ⟨_, rfl⟩
    rw [← g69] at A69 B69 st69
    have g_b69 : n0 ≤ b69 := Nat.le_trans Z66 (Nat.le_of_eq g69.symm)
    have sz_b69 : h0.size ≤ b69 := Nat.le_trans K67.1 (Nat.le_of_eq g69.symm)
    have P70 : ∀ t, Sg p e below (T69.setTop (mkF m 90 #[sR a1, sR l1, sI sv, sR mb, sI 0, sR b64, g6, g7, g8] [(.ref b69)])) t → Sg p e below (T0.setTop (mkF m 34 #[sR a1, sR l1, sI sv, sR mb, g4, g5, g6, g7, g8] [])) t := fun t k => P65 t (by
      refine XS.astore X64.here hx rfl (hb hby dp21_1_84) rfl rfl (l' := #[sR a1, sR l1, sI sv, sR mb, sI 0, sR b64, g6, g7, g8]) rfl ?_
      refine XS.iload X64.here hx rfl (hb hby dp21_1_86) rfl ?_
      show Sg p e below (T64.setTop (mkF m 88 #[sR a1, sR l1, sI sv, sR mb, sI 0, sR b64, g6, g7, g8] [(.int (0 : Int32))])) _
      exact st69 _ k)
    have Z71 : n0 ≤ h69.size := Nat.le_trans Z66 E69.1
    have K72 : Keep h0 h69 [] := K67.ext E69
    have v73 : Arv Z h69 b69 k69 .long (0 : Int32) ([] : List Value) (.long (0 : Int64)) := Arv.new A69 (by decide)
    have f74 := ((AM.ext E64).ext E69)
    obtain ⟨cl75, Ar75, -, S75, N75, -, -⟩ := id f74
    have f76 := (v68.ext E69)
    have f77 := (B64.ext E69)
    have P78 : ∀ t, Sg p e below (T69.setTop (mkF m 164 #[sR a1, sR l1, sI sv, sR mb, sI 0, sR b64, sR b69, sI (-1), sI 0] [])) t → Sg p e below (T0.setTop (mkF m 34 #[sR a1, sR l1, sI sv, sR mb, g4, g5, g6, g7, g8] [])) t := fun t k => P70 t (by
      refine XS.astoreS X69.here hx rfl (hb hby dp21_1_90) rfl rfl rfl rfl ho6 ?_
      show Sg p e below (T69.setTop (mkF m 92 #[sR a1, sR l1, sI sv, sR mb, sI 0, sR b64, sR b69, g7, g8] [])) _
      refine XS.iconst X69.here hx rfl (hb hby dp21_1_92) ?_
      refine XS.istoreS X69.here hx rfl (hb hby dp21_1_93) rfl rfl ho7 ?_
      show Sg p e below (T69.setTop (mkF m 95 #[sR a1, sR l1, sI sv, sR mb, sI 0, sR b64, sR b69, sI (-1), g8] [])) _
      refine XS.iconst X69.here hx rfl (hb hby dp21_1_95) ?_
      refine XS.istoreS X69.here hx rfl (hb hby dp21_1_96) rfl rfl ho8 ?_
      show Sg p e below (T69.setTop (mkF m 98 #[sR a1, sR l1, sI sv, sR mb, sI 0, sR b64, sR b69, sI (-1), sI 0] [])) _
      refine XS.iload X69.here hx rfl (hb hby dp21_1_98) rfl ?_
      refine XS.aloadN X69.here hx rfl (hb hby dp21_1_100) rfl rfl ?_
      show Sg p e below (T69.setTop (mkF m 101 #[sR a1, sR l1, sI sv, sR mb, sI 0, sR b64, sR b69, sI (-1), sI 0] [(.ref mb), (.int (0 : Int32))])) _
      refine X69.arraylength hx (by rw [e69]; exact Ar75.1) (State.isArrayOf_alike hZ.alike Ar75.2.1) (g := (mkF m 101 #[sR a1, sR l1, sI sv, sR mb, sI 0, sR b64, sR b69, sI (-1), sI 0] [(.ref mb), (.int (0 : Int32))])) rfl rfl (hb hby dp21_1_101) _ ?_
      rw [len_of S75 N75]
      show Sg p e below (T69.setTop (mkF m 102 #[sR a1, sR l1, sI sv, sR mb, sI 0, sR b64, sR b69, sI (-1), sI 0] [(.int (0 : Int32)), (.int (0 : Int32))])) _
      refine XS.icmpYes X69.here hx rfl (pc0 := 102) (pc' := 164) rfl (hb hby dp21_1_102) rfl (flt (show ¬ ((0 : Int32) < (0 : Int32)) from (by decide))).2.1 (by decide) (by decide) ?_
      show Sg p e below (T69.setTop (mkF m 164 #[sR a1, sR l1, sI sv, sR mb, sI 0, sR b64, sR b69, sI (-1), sI 0] [])) _
      exact k)
    exact ⟨T69, h69, _, b64, b69, k64, k69, ([] : List Int32), ([] : List Int64), (0 : Int32), (-1 : Int32), (0 : Int32), X69.more (by omega) (by omega), e69, N0, K72, rfl, rfl, rfl, f76, v73, f77, B69, sz_b64, sz_b69, P78⟩
  · skip
    have hN' : N = (1 : Int32) := hN
    subst hN'
    obtain ⟨cl79, Ar79, -, S79, N79, -, -⟩ := id AM
    obtain ⟨cl80, Ar80, -, S80, N80, -, -⟩ := id AM
    obtain ⟨T81, h81, k81, X81, e81, E81, A81, B81, st81⟩ := newPE X0 hx hZ (own_hw hw 10 rfl) e0 (g := (mkF m 82 #[sR a1, sR l1, sI sv, sR mb, sI 1, sI 1, g6, g7, g8] [(.int (1 : Int32))])) rfl (hb hby dp21_1_82) rfl (by decide) (cap := 1) (by decide) (by decide) (by omega) (by omega) (ad := "[I") (by decide)
    obtain ⟨b81, g81⟩ : ∃ z, z = h0.size := ⟨_, rfl⟩
    rw [← g81] at A81 B81 st81
    have g_b81 : n0 ≤ b81 := Nat.le_trans Z0 (Nat.le_of_eq g81.symm)
    have sz_b81 : h0.size ≤ b81 := Nat.le_trans (Keep.refl h0 []).1 (Nat.le_of_eq g81.symm)
    have P82 : ∀ t, Sg p e below (T81.setTop (mkF m 84 #[sR a1, sR l1, sI sv, sR mb, sI 1, sI 1, g6, g7, g8] [(.ref b81)])) t → Sg p e below (T0.setTop (mkF m 34 #[sR a1, sR l1, sI sv, sR mb, g4, g5, g6, g7, g8] [])) t := fun t k => P0 t (by
      refine XS.iconst X0.here hx rfl (hb hby dp21_1_34) ?_
      refine XS.istoreS X0.here hx rfl (hb hby dp21_1_35) rfl rfl ho4 ?_
      show Sg p e below (T0.setTop (mkF m 37 #[sR a1, sR l1, sI sv, sR mb, sI 0, g5, g6, g7, g8] [])) _
      refine XS.iconst X0.here hx rfl (hb hby dp21_1_37) ?_
      refine XS.istoreS X0.here hx rfl (hb hby dp21_1_38) rfl rfl ho5 ?_
      show Sg p e below (T0.setTop (mkF m 40 #[sR a1, sR l1, sI sv, sR mb, sI 0, sI 0, g6, g7, g8] [])) _
      refine XS.iload X0.here hx rfl (hb hby dp21_1_40) rfl ?_
      refine XS.aloadN X0.here hx rfl (hb hby dp21_1_42) rfl rfl ?_
      show Sg p e below (T0.setTop (mkF m 43 #[sR a1, sR l1, sI sv, sR mb, sI 0, sI 0, g6, g7, g8] [(.ref mb), (.int (0 : Int32))])) _
      refine X0.arraylength hx (by rw [e0]; exact Ar79.1) (State.isArrayOf_alike hZ.alike Ar79.2.1) (g := (mkF m 43 #[sR a1, sR l1, sI sv, sR mb, sI 0, sI 0, g6, g7, g8] [(.ref mb), (.int (0 : Int32))])) rfl rfl (hb hby dp21_1_43) _ ?_
      rw [len_of S79 N79]
      show Sg p e below (T0.setTop (mkF m 44 #[sR a1, sR l1, sI sv, sR mb, sI 0, sI 0, g6, g7, g8] [(.int (1 : Int32)), (.int (0 : Int32))])) _
      refine XS.icmpNo X0.here hx rfl (hb hby dp21_1_44) rfl (tlt (show (0 : Int32) < (1 : Int32) from (by decide))).2.1 ?_
      refine XS.iload X0.here hx rfl (hb hby dp21_1_47) rfl ?_
      refine XS.ifYes X0.here hx rfl (pc0 := 49) (pc' := 71) rfl (hb hby dp21_1_49) rfl ((if0 _ _).trans (teq (show (0 : Int32) = (0 : Int32) from (by decide))).1) (by decide) (by decide) ?_
      refine XS.iinc X0.here hx rfl (hb hby dp21_1_71) rfl (l' := #[sR a1, sR l1, sI sv, sR mb, sI 1, sI 0, g6, g7, g8]) rfl ?_
      refine XS.iinc X0.here hx rfl (hb hby dp21_1_74) rfl (l' := #[sR a1, sR l1, sI sv, sR mb, sI 1, sI 1, g6, g7, g8]) rfl ?_
      refine XS.goto X0.here hx rfl (pc0 := 77) (pc' := 40) rfl (hb hby dp21_1_77) (by decide) (by decide) ?_
      refine XS.iload X0.here hx rfl (hb hby dp21_1_40) rfl ?_
      refine XS.aloadN X0.here hx rfl (hb hby dp21_1_42) rfl rfl ?_
      show Sg p e below (T0.setTop (mkF m 43 #[sR a1, sR l1, sI sv, sR mb, sI 1, sI 1, g6, g7, g8] [(.ref mb), (.int (1 : Int32))])) _
      refine X0.arraylength hx (by rw [e0]; exact Ar80.1) (State.isArrayOf_alike hZ.alike Ar80.2.1) (g := (mkF m 43 #[sR a1, sR l1, sI sv, sR mb, sI 1, sI 1, g6, g7, g8] [(.ref mb), (.int (1 : Int32))])) rfl rfl (hb hby dp21_1_43) _ ?_
      rw [len_of S80 N80]
      show Sg p e below (T0.setTop (mkF m 44 #[sR a1, sR l1, sI sv, sR mb, sI 1, sI 1, g6, g7, g8] [(.int (1 : Int32)), (.int (1 : Int32))])) _
      refine XS.icmpYes X0.here hx rfl (pc0 := 44) (pc' := 80) rfl (hb hby dp21_1_44) rfl (flt (show ¬ ((1 : Int32) < (1 : Int32)) from (by decide))).2.1 (by decide) (by decide) ?_
      refine XS.iload X0.here hx rfl (hb hby dp21_1_80) rfl ?_
      show Sg p e below (T0.setTop (mkF m 82 #[sR a1, sR l1, sI sv, sR mb, sI 1, sI 1, g6, g7, g8] [(.int (1 : Int32))])) _
      exact st81 _ k)
    have Z83 : n0 ≤ h81.size := Nat.le_trans Z0 E81.1
    have K84 : Keep h0 h81 [] := (Keep.refl h0 []).ext E81
    have v85 : Arv Z h81 b81 k81 .int (1 : Int32) [(.int (0 : Int32))] (.int (0 : Int32)) := (Arv.new A81 (by decide)).pad (pad_rep [] (.int (0 : Int32)) 1)
    obtain ⟨T86, h86, k86, X86, e86, E86, A86, B86, st86⟩ := newPE X81 hx hZ (own_hw hw 28 rfl) e81 (g := (mkF m 88 #[sR a1, sR l1, sI sv, sR mb, sI 1, sR b81, g6, g7, g8] [(.int (1 : Int32))])) rfl (hb hby dp21_1_88) rfl (by decide) (cap := 1) (by decide) (by decide) (by omega) (by omega) (ad := "[J") (by decide)
    obtain ⟨b86, g86⟩ : ∃ z, z = h81.size := ⟨_, rfl⟩
    rw [← g86] at A86 B86 st86
    have g_b86 : n0 ≤ b86 := Nat.le_trans Z83 (Nat.le_of_eq g86.symm)
    have sz_b86 : h0.size ≤ b86 := Nat.le_trans K84.1 (Nat.le_of_eq g86.symm)
    have P87 : ∀ t, Sg p e below (T86.setTop (mkF m 90 #[sR a1, sR l1, sI sv, sR mb, sI 1, sR b81, g6, g7, g8] [(.ref b86)])) t → Sg p e below (T0.setTop (mkF m 34 #[sR a1, sR l1, sI sv, sR mb, g4, g5, g6, g7, g8] [])) t := fun t k => P82 t (by
      refine XS.astore X81.here hx rfl (hb hby dp21_1_84) rfl rfl (l' := #[sR a1, sR l1, sI sv, sR mb, sI 1, sR b81, g6, g7, g8]) rfl ?_
      refine XS.iload X81.here hx rfl (hb hby dp21_1_86) rfl ?_
      show Sg p e below (T81.setTop (mkF m 88 #[sR a1, sR l1, sI sv, sR mb, sI 1, sR b81, g6, g7, g8] [(.int (1 : Int32))])) _
      exact st86 _ k)
    have Z88 : n0 ≤ h86.size := Nat.le_trans Z83 E86.1
    have K89 : Keep h0 h86 [] := K84.ext E86
    have v90 : Arv Z h86 b86 k86 .long (1 : Int32) [(.long (0 : Int64))] (.long (0 : Int64)) := (Arv.new A86 (by decide)).pad (pad_rep [] (.long (0 : Int64)) 1)
    have f91 := ((AM.ext E81).ext E86)
    have f92 := (v85.ext E86)
    have P93 : ∀ t, Sg p e below (T86.setTop (mkF m 98 #[sR a1, sR l1, sI sv, sR mb, sI 1, sR b81, sR b86, sI (-1), sI 0] [])) t → Sg p e below (T0.setTop (mkF m 34 #[sR a1, sR l1, sI sv, sR mb, g4, g5, g6, g7, g8] [])) t := fun t k => P87 t (by
      refine XS.astoreS X86.here hx rfl (hb hby dp21_1_90) rfl rfl rfl rfl ho6 ?_
      show Sg p e below (T86.setTop (mkF m 92 #[sR a1, sR l1, sI sv, sR mb, sI 1, sR b81, sR b86, g7, g8] [])) _
      refine XS.iconst X86.here hx rfl (hb hby dp21_1_92) ?_
      refine XS.istoreS X86.here hx rfl (hb hby dp21_1_93) rfl rfl ho7 ?_
      show Sg p e below (T86.setTop (mkF m 95 #[sR a1, sR l1, sI sv, sR mb, sI 1, sR b81, sR b86, sI (-1), g8] [])) _
      refine XS.iconst X86.here hx rfl (hb hby dp21_1_95) ?_
      refine XS.istoreS X86.here hx rfl (hb hby dp21_1_96) rfl rfl ho8 ?_
      show Sg p e below (T86.setTop (mkF m 98 #[sR a1, sR l1, sI sv, sR mb, sI 1, sR b81, sR b86, sI (-1), sI 0] [])) _
      exact k)
    obtain ⟨T94, h94, L94, X94, e94, Nq94, K94, u94_0, u94_1, st94⟩ := pc_t2f a1 l1 mb b81 b86 kM k81 k86 sv (1 : Int32) (1 : Int32) (1 : Int32) x0 (0 : Int64) [(.int x0)] [(.int (0 : Int32))] [(.long (0 : Int64))] X86 hx hZ hw hby hml hown e86 N0 Z88 (by omega) (by omega) (Nat.le_trans (Nat.le_of_ble_eq_true rfl) hfr) (Nat.le_trans (Nat.le_of_ble_eq_true rfl) hlo) f91 (by decide) ⟨by decide, by decide⟩ rfl g_b81 g_b86 (Nat.ne_of_lt (Nat.lt_of_lt_of_le AM.lt (Nat.le_of_eq g81.symm))) (Nat.ne_of_lt (Nat.lt_of_lt_of_le B81.lt (Nat.le_of_eq g86.symm))) f92 v90 ⟨by decide, by decide⟩ rfl (Nat.le_of_ble_eq_true rfl) (Nat.le_of_ble_eq_true rfl) rfl
    have P95 : ∀ t, Sg p e below (T94.setTop (mkF m 98 #[sR a1, sR l1, sI sv, sR mb, sI 1, sR b81, sR b86, sI 0, sI 1] [])) t → Sg p e below (T0.setTop (mkF m 34 #[sR a1, sR l1, sI sv, sR mb, g4, g5, g6, g7, g8] [])) t := fun t k => P93 t (by
      exact st94 _ k)
    have Z96 : n0 ≤ h94.size := Nat.le_trans Z88 K94.1
    have K97 : Keep h0 h94 [] := K89.trans K94 ((allS (Or.inr sz_b81) (allS (Or.inr sz_b86) all0)))
    have AP94 : Arv Z h94 b81 k81 .int (1 : Int32) [(.int (own_sh x0))] (.int (0 : Int32)) := u94_0
    have AW94 : Arv Z h94 b86 k86 .long (1 : Int32) [(.long ((0 : Int64) ||| own_bit x0))] (.long (0 : Int64)) := u94_1
    have f98 := (f91.keep K94 (ninS (Nat.ne_of_lt (Nat.lt_of_lt_of_le AM.lt (Nat.le_of_eq g81.symm))) (ninS (Nat.ne_of_lt (Nat.lt_of_lt_of_le (AM.ext E81).lt (Nat.le_of_eq g86.symm))) nin0)))
    obtain ⟨cl99, Ar99, -, S99, N99, -, -⟩ := id f98
    have f100 := ((B81.ext E86).keep K94)
    have f101 := (B86.keep K94)
    have P102 : ∀ t, Sg p e below (T94.setTop (mkF m 164 #[sR a1, sR l1, sI sv, sR mb, sI 1, sR b81, sR b86, sI 0, sI 1] [])) t → Sg p e below (T0.setTop (mkF m 34 #[sR a1, sR l1, sI sv, sR mb, g4, g5, g6, g7, g8] [])) t := fun t k => P95 t (by
      refine XS.iload X94.here hx rfl (hb hby dp21_1_98) rfl ?_
      refine XS.aloadN X94.here hx rfl (hb hby dp21_1_100) rfl rfl ?_
      show Sg p e below (T94.setTop (mkF m 101 #[sR a1, sR l1, sI sv, sR mb, sI 1, sR b81, sR b86, sI 0, sI 1] [(.ref mb), (.int (1 : Int32))])) _
      refine X94.arraylength hx (by rw [e94]; exact Ar99.1) (State.isArrayOf_alike hZ.alike Ar99.2.1) (g := (mkF m 101 #[sR a1, sR l1, sI sv, sR mb, sI 1, sR b81, sR b86, sI 0, sI 1] [(.ref mb), (.int (1 : Int32))])) rfl rfl (hb hby dp21_1_101) _ ?_
      rw [len_of S99 N99]
      show Sg p e below (T94.setTop (mkF m 102 #[sR a1, sR l1, sI sv, sR mb, sI 1, sR b81, sR b86, sI 0, sI 1] [(.int (1 : Int32)), (.int (1 : Int32))])) _
      refine XS.icmpYes X94.here hx rfl (pc0 := 102) (pc' := 164) rfl (hb hby dp21_1_102) rfl (flt (show ¬ ((1 : Int32) < (1 : Int32)) from (by decide))).2.1 (by decide) (by decide) ?_
      show Sg p e below (T94.setTop (mkF m 164 #[sR a1, sR l1, sI sv, sR mb, sI 1, sR b81, sR b86, sI 0, sI 1] [])) _
      exact k)
    exact ⟨T94, h94, _, b81, b86, k81, k86, ([(own_sh x0)] : List Int32), ([((0 : Int64) ||| own_bit x0)] : List Int64), (1 : Int32), (0 : Int32), (1 : Int32), X94.more (by omega) (by omega), e94, Nq94, K97, rfl, rfl, rfl, AP94, AW94, f100, f101, sz_b81, sz_b86, P102⟩
  · skip
    have hN' : N = (2 : Int32) := hN
    subst hN'
    obtain ⟨cl103, Ar103, -, S103, N103, -, -⟩ := id AM
    have P104 : ∀ t, Sg p e below (T0.setTop (mkF m 40 #[sR a1, sR l1, sI sv, sR mb, sI 1, sI 1, g6, g7, g8] [])) t → Sg p e below (T0.setTop (mkF m 34 #[sR a1, sR l1, sI sv, sR mb, g4, g5, g6, g7, g8] [])) t := fun t k => P0 t (by
      refine XS.iconst X0.here hx rfl (hb hby dp21_1_34) ?_
      refine XS.istoreS X0.here hx rfl (hb hby dp21_1_35) rfl rfl ho4 ?_
      show Sg p e below (T0.setTop (mkF m 37 #[sR a1, sR l1, sI sv, sR mb, sI 0, g5, g6, g7, g8] [])) _
      refine XS.iconst X0.here hx rfl (hb hby dp21_1_37) ?_
      refine XS.istoreS X0.here hx rfl (hb hby dp21_1_38) rfl rfl ho5 ?_
      show Sg p e below (T0.setTop (mkF m 40 #[sR a1, sR l1, sI sv, sR mb, sI 0, sI 0, g6, g7, g8] [])) _
      refine XS.iload X0.here hx rfl (hb hby dp21_1_40) rfl ?_
      refine XS.aloadN X0.here hx rfl (hb hby dp21_1_42) rfl rfl ?_
      show Sg p e below (T0.setTop (mkF m 43 #[sR a1, sR l1, sI sv, sR mb, sI 0, sI 0, g6, g7, g8] [(.ref mb), (.int (0 : Int32))])) _
      refine X0.arraylength hx (by rw [e0]; exact Ar103.1) (State.isArrayOf_alike hZ.alike Ar103.2.1) (g := (mkF m 43 #[sR a1, sR l1, sI sv, sR mb, sI 0, sI 0, g6, g7, g8] [(.ref mb), (.int (0 : Int32))])) rfl rfl (hb hby dp21_1_43) _ ?_
      rw [len_of S103 N103]
      show Sg p e below (T0.setTop (mkF m 44 #[sR a1, sR l1, sI sv, sR mb, sI 0, sI 0, g6, g7, g8] [(.int (2 : Int32)), (.int (0 : Int32))])) _
      refine XS.icmpNo X0.here hx rfl (hb hby dp21_1_44) rfl (tlt (show (0 : Int32) < (2 : Int32) from (by decide))).2.1 ?_
      refine XS.iload X0.here hx rfl (hb hby dp21_1_47) rfl ?_
      refine XS.ifYes X0.here hx rfl (pc0 := 49) (pc' := 71) rfl (hb hby dp21_1_49) rfl ((if0 _ _).trans (teq (show (0 : Int32) = (0 : Int32) from (by decide))).1) (by decide) (by decide) ?_
      refine XS.iinc X0.here hx rfl (hb hby dp21_1_71) rfl (l' := #[sR a1, sR l1, sI sv, sR mb, sI 1, sI 0, g6, g7, g8]) rfl ?_
      refine XS.iinc X0.here hx rfl (hb hby dp21_1_74) rfl (l' := #[sR a1, sR l1, sI sv, sR mb, sI 1, sI 1, g6, g7, g8]) rfl ?_
      refine XS.goto X0.here hx rfl (pc0 := 77) (pc' := 40) rfl (hb hby dp21_1_77) (by decide) (by decide) ?_
      show Sg p e below (T0.setTop (mkF m 40 #[sR a1, sR l1, sI sv, sR mb, sI 1, sI 1, g6, g7, g8] [])) _
      exact k)
    by_cases q105 : own_sh x1 = own_sh x0
    · skip
      obtain ⟨T106, h106, L106, X106, e106, Nq106, K106, st106⟩ := pc_t1s a1 l1 mb kM sv (2 : Int32) (1 : Int32) (1 : Int32) x1 x0 [(.int x0), (.int x1)] g6 g7 g8 X0 hx hZ hw hby hml hown e0 N0 Z0 (by omega) (by omega) (Nat.le_trans (Nat.le_of_ble_eq_true rfl) hfr) (Nat.le_trans (Nat.le_of_ble_eq_true rfl) hlo) AM (by decide) ⟨by decide, by decide⟩ rfl (by decide) ⟨by decide, by decide⟩ rfl q105
      have P107 : ∀ t, Sg p e below (T106.setTop (mkF m 40 #[sR a1, sR l1, sI sv, sR mb, sI 1, sI 2, g6, g7, g8] [])) t → Sg p e below (T0.setTop (mkF m 34 #[sR a1, sR l1, sI sv, sR mb, g4, g5, g6, g7, g8] [])) t := fun t k => P104 t (by
        exact st106 _ k)
      have Z108 : n0 ≤ h106.size := Nat.le_trans Z0 K106.1
      have K109 : Keep h0 h106 [] := (Keep.refl h0 []).trans K106 (all0)
      have f110 := (AM.keep K106 nin0)
      obtain ⟨cl111, Ar111, -, S111, N111, -, -⟩ := id f110
      obtain ⟨T112, h112, k112, X112, e112, E112, A112, B112, st112⟩ := newPE X106 hx hZ (own_hw hw 10 rfl) e106 (g := (mkF m 82 #[sR a1, sR l1, sI sv, sR mb, sI 1, sI 2, g6, g7, g8] [(.int (1 : Int32))])) rfl (hb hby dp21_1_82) rfl (by decide) (cap := 1) (by decide) (by decide) (by omega) (by omega) (ad := "[I") (by decide)
      obtain ⟨b112, g112⟩ : ∃ z, z = h106.size := ⟨_, rfl⟩
      rw [← g112] at A112 B112 st112
      have g_b112 : n0 ≤ b112 := Nat.le_trans Z108 (Nat.le_of_eq g112.symm)
      have sz_b112 : h0.size ≤ b112 := Nat.le_trans K109.1 (Nat.le_of_eq g112.symm)
      have P113 : ∀ t, Sg p e below (T112.setTop (mkF m 84 #[sR a1, sR l1, sI sv, sR mb, sI 1, sI 2, g6, g7, g8] [(.ref b112)])) t → Sg p e below (T0.setTop (mkF m 34 #[sR a1, sR l1, sI sv, sR mb, g4, g5, g6, g7, g8] [])) t := fun t k => P107 t (by
        refine XS.iload X106.here hx rfl (hb hby dp21_1_40) rfl ?_
        refine XS.aloadN X106.here hx rfl (hb hby dp21_1_42) rfl rfl ?_
        show Sg p e below (T106.setTop (mkF m 43 #[sR a1, sR l1, sI sv, sR mb, sI 1, sI 2, g6, g7, g8] [(.ref mb), (.int (2 : Int32))])) _
        refine X106.arraylength hx (by rw [e106]; exact Ar111.1) (State.isArrayOf_alike hZ.alike Ar111.2.1) (g := (mkF m 43 #[sR a1, sR l1, sI sv, sR mb, sI 1, sI 2, g6, g7, g8] [(.ref mb), (.int (2 : Int32))])) rfl rfl (hb hby dp21_1_43) _ ?_
        rw [len_of S111 N111]
        show Sg p e below (T106.setTop (mkF m 44 #[sR a1, sR l1, sI sv, sR mb, sI 1, sI 2, g6, g7, g8] [(.int (2 : Int32)), (.int (2 : Int32))])) _
        refine XS.icmpYes X106.here hx rfl (pc0 := 44) (pc' := 80) rfl (hb hby dp21_1_44) rfl (flt (show ¬ ((2 : Int32) < (2 : Int32)) from (by decide))).2.1 (by decide) (by decide) ?_
        refine XS.iload X106.here hx rfl (hb hby dp21_1_80) rfl ?_
        show Sg p e below (T106.setTop (mkF m 82 #[sR a1, sR l1, sI sv, sR mb, sI 1, sI 2, g6, g7, g8] [(.int (1 : Int32))])) _
        exact st112 _ k)
      have Z114 : n0 ≤ h112.size := Nat.le_trans Z108 E112.1
      have K115 : Keep h0 h112 [] := K109.ext E112
      have v116 : Arv Z h112 b112 k112 .int (1 : Int32) [(.int (0 : Int32))] (.int (0 : Int32)) := (Arv.new A112 (by decide)).pad (pad_rep [] (.int (0 : Int32)) 1)
      obtain ⟨T117, h117, k117, X117, e117, E117, A117, B117, st117⟩ := newPE X112 hx hZ (own_hw hw 28 rfl) e112 (g := (mkF m 88 #[sR a1, sR l1, sI sv, sR mb, sI 1, sR b112, g6, g7, g8] [(.int (1 : Int32))])) rfl (hb hby dp21_1_88) rfl (by decide) (cap := 1) (by decide) (by decide) (by omega) (by omega) (ad := "[J") (by decide)
      obtain ⟨b117, g117⟩ : ∃ z, z = h112.size := ⟨_, rfl⟩
      rw [← g117] at A117 B117 st117
      have g_b117 : n0 ≤ b117 := Nat.le_trans Z114 (Nat.le_of_eq g117.symm)
      have sz_b117 : h0.size ≤ b117 := Nat.le_trans K115.1 (Nat.le_of_eq g117.symm)
      have P118 : ∀ t, Sg p e below (T117.setTop (mkF m 90 #[sR a1, sR l1, sI sv, sR mb, sI 1, sR b112, g6, g7, g8] [(.ref b117)])) t → Sg p e below (T0.setTop (mkF m 34 #[sR a1, sR l1, sI sv, sR mb, g4, g5, g6, g7, g8] [])) t := fun t k => P113 t (by
        refine XS.astore X112.here hx rfl (hb hby dp21_1_84) rfl rfl (l' := #[sR a1, sR l1, sI sv, sR mb, sI 1, sR b112, g6, g7, g8]) rfl ?_
        refine XS.iload X112.here hx rfl (hb hby dp21_1_86) rfl ?_
        show Sg p e below (T112.setTop (mkF m 88 #[sR a1, sR l1, sI sv, sR mb, sI 1, sR b112, g6, g7, g8] [(.int (1 : Int32))])) _
        exact st117 _ k)
      have Z119 : n0 ≤ h117.size := Nat.le_trans Z114 E117.1
      have K120 : Keep h0 h117 [] := K115.ext E117
      have v121 : Arv Z h117 b117 k117 .long (1 : Int32) [(.long (0 : Int64))] (.long (0 : Int64)) := (Arv.new A117 (by decide)).pad (pad_rep [] (.long (0 : Int64)) 1)
      have f122 := ((f110.ext E112).ext E117)
      have f123 := (v116.ext E117)
      have P124 : ∀ t, Sg p e below (T117.setTop (mkF m 98 #[sR a1, sR l1, sI sv, sR mb, sI 1, sR b112, sR b117, sI (-1), sI 0] [])) t → Sg p e below (T0.setTop (mkF m 34 #[sR a1, sR l1, sI sv, sR mb, g4, g5, g6, g7, g8] [])) t := fun t k => P118 t (by
        refine XS.astoreS X117.here hx rfl (hb hby dp21_1_90) rfl rfl rfl rfl ho6 ?_
        show Sg p e below (T117.setTop (mkF m 92 #[sR a1, sR l1, sI sv, sR mb, sI 1, sR b112, sR b117, g7, g8] [])) _
        refine XS.iconst X117.here hx rfl (hb hby dp21_1_92) ?_
        refine XS.istoreS X117.here hx rfl (hb hby dp21_1_93) rfl rfl ho7 ?_
        show Sg p e below (T117.setTop (mkF m 95 #[sR a1, sR l1, sI sv, sR mb, sI 1, sR b112, sR b117, sI (-1), g8] [])) _
        refine XS.iconst X117.here hx rfl (hb hby dp21_1_95) ?_
        refine XS.istoreS X117.here hx rfl (hb hby dp21_1_96) rfl rfl ho8 ?_
        show Sg p e below (T117.setTop (mkF m 98 #[sR a1, sR l1, sI sv, sR mb, sI 1, sR b112, sR b117, sI (-1), sI 0] [])) _
        exact k)
      obtain ⟨T125, h125, L125, X125, e125, Nq125, K125, u125_0, u125_1, st125⟩ := pc_t2f a1 l1 mb b112 b117 kM k112 k117 sv (2 : Int32) (1 : Int32) (1 : Int32) x0 (0 : Int64) [(.int x0), (.int x1)] [(.int (0 : Int32))] [(.long (0 : Int64))] X117 hx hZ hw hby hml hown e117 Nq106 Z119 (by omega) (by omega) (Nat.le_trans (Nat.le_of_ble_eq_true rfl) hfr) (Nat.le_trans (Nat.le_of_ble_eq_true rfl) hlo) f122 (by decide) ⟨by decide, by decide⟩ rfl g_b112 g_b117 (Nat.ne_of_lt (Nat.lt_of_lt_of_le f110.lt (Nat.le_of_eq g112.symm))) (Nat.ne_of_lt (Nat.lt_of_lt_of_le B112.lt (Nat.le_of_eq g117.symm))) f123 v121 ⟨by decide, by decide⟩ rfl (Nat.le_of_ble_eq_true rfl) (Nat.le_of_ble_eq_true rfl) rfl
      have P126 : ∀ t, Sg p e below (T125.setTop (mkF m 98 #[sR a1, sR l1, sI sv, sR mb, sI 1, sR b112, sR b117, sI 0, sI 1] [])) t → Sg p e below (T0.setTop (mkF m 34 #[sR a1, sR l1, sI sv, sR mb, g4, g5, g6, g7, g8] [])) t := fun t k => P124 t (by
        exact st125 _ k)
      have Z127 : n0 ≤ h125.size := Nat.le_trans Z119 K125.1
      have K128 : Keep h0 h125 [] := K120.trans K125 ((allS (Or.inr sz_b112) (allS (Or.inr sz_b117) all0)))
      have AP125 : Arv Z h125 b112 k112 .int (1 : Int32) [(.int (own_sh x0))] (.int (0 : Int32)) := u125_0
      have AW125 : Arv Z h125 b117 k117 .long (1 : Int32) [(.long ((0 : Int64) ||| own_bit x0))] (.long (0 : Int64)) := u125_1
      have f129 := (f122.keep K125 (ninS (Nat.ne_of_lt (Nat.lt_of_lt_of_le f110.lt (Nat.le_of_eq g112.symm))) (ninS (Nat.ne_of_lt (Nat.lt_of_lt_of_le (f110.ext E112).lt (Nat.le_of_eq g117.symm))) nin0)))
      obtain ⟨T130, h130, L130, X130, e130, Nq130, K130, u130_0, st130⟩ := pc_t2s a1 l1 mb b112 b117 kM k112 k117 sv (2 : Int32) (1 : Int32) (1 : Int32) x1 (0 : Int32) (1 : Int32) x0 ((0 : Int64) ||| own_bit x0) [(.int x0), (.int x1)] [(.int (own_sh x0))] [(.long ((0 : Int64) ||| own_bit x0))] 0 X125 hx hZ hw hby hml hown e125 Nq125 Z127 (by omega) (by omega) (Nat.le_trans (Nat.le_of_ble_eq_true rfl) hfr) (Nat.le_trans (Nat.le_of_ble_eq_true rfl) hlo) f129 (by decide) ⟨by decide, by decide⟩ rfl (by decide) ⟨by decide, by decide⟩ rfl q105 g_b112 g_b117 (Nat.ne_of_lt (Nat.lt_of_lt_of_le f110.lt (Nat.le_of_eq g112.symm))) (Nat.ne_of_lt (Nat.lt_of_lt_of_le B112.lt (Nat.le_of_eq g117.symm))) AP125 AW125 ⟨by decide, by decide⟩ rfl (Nat.le_of_ble_eq_true rfl) (Nat.le_of_ble_eq_true rfl) rfl
      have P131 : ∀ t, Sg p e below (T130.setTop (mkF m 98 #[sR a1, sR l1, sI sv, sR mb, sI 1, sR b112, sR b117, sI 0, sI 2] [])) t → Sg p e below (T0.setTop (mkF m 34 #[sR a1, sR l1, sI sv, sR mb, g4, g5, g6, g7, g8] [])) t := fun t k => P126 t (by
        exact st130 _ k)
      have Z132 : n0 ≤ h130.size := Nat.le_trans Z127 K130.1
      have K133 : Keep h0 h130 [] := K128.trans K130 ((allS (Or.inr sz_b117) all0))
      have AW130 : Arv Z h130 b117 k117 .long (1 : Int32) [(.long (((0 : Int64) ||| own_bit x0) ||| own_bit x1))] (.long (0 : Int64)) := u130_0
      have f134 := (f129.keep K130 (ninS (Nat.ne_of_lt (Nat.lt_of_lt_of_le (f110.ext E112).lt (Nat.le_of_eq g117.symm))) nin0))
      obtain ⟨cl135, Ar135, -, S135, N135, -, -⟩ := id f134
      have f136 := (AP125.keep K130 (ninS (Nat.ne_of_lt (Nat.lt_of_lt_of_le B112.lt (Nat.le_of_eq g117.symm))) nin0))
      have f137 := (((B112.ext E117).keep K125).keep K130)
      have f138 := ((B117.keep K125).keep K130)
      have P139 : ∀ t, Sg p e below (T130.setTop (mkF m 164 #[sR a1, sR l1, sI sv, sR mb, sI 1, sR b112, sR b117, sI 0, sI 2] [])) t → Sg p e below (T0.setTop (mkF m 34 #[sR a1, sR l1, sI sv, sR mb, g4, g5, g6, g7, g8] [])) t := fun t k => P131 t (by
        refine XS.iload X130.here hx rfl (hb hby dp21_1_98) rfl ?_
        refine XS.aloadN X130.here hx rfl (hb hby dp21_1_100) rfl rfl ?_
        show Sg p e below (T130.setTop (mkF m 101 #[sR a1, sR l1, sI sv, sR mb, sI 1, sR b112, sR b117, sI 0, sI 2] [(.ref mb), (.int (2 : Int32))])) _
        refine X130.arraylength hx (by rw [e130]; exact Ar135.1) (State.isArrayOf_alike hZ.alike Ar135.2.1) (g := (mkF m 101 #[sR a1, sR l1, sI sv, sR mb, sI 1, sR b112, sR b117, sI 0, sI 2] [(.ref mb), (.int (2 : Int32))])) rfl rfl (hb hby dp21_1_101) _ ?_
        rw [len_of S135 N135]
        show Sg p e below (T130.setTop (mkF m 102 #[sR a1, sR l1, sI sv, sR mb, sI 1, sR b112, sR b117, sI 0, sI 2] [(.int (2 : Int32)), (.int (2 : Int32))])) _
        refine XS.icmpYes X130.here hx rfl (pc0 := 102) (pc' := 164) rfl (hb hby dp21_1_102) rfl (flt (show ¬ ((2 : Int32) < (2 : Int32)) from (by decide))).2.1 (by decide) (by decide) ?_
        show Sg p e below (T130.setTop (mkF m 164 #[sR a1, sR l1, sI sv, sR mb, sI 1, sR b112, sR b117, sI 0, sI 2] [])) _
        exact k)
      exact ⟨T130, h130, _, b112, b117, k112, k117, ([(own_sh x0)] : List Int32), ([(((0 : Int64) ||| own_bit x0) ||| own_bit x1)] : List Int64), (1 : Int32), (0 : Int32), (2 : Int32), X130.more (by omega) (by omega), e130, Nq130, K133, ((if_pos q105)).symm, ((if_pos q105)).symm, rfl, f136, AW130, f137, f138, sz_b112, sz_b117, P139⟩
    · skip
      obtain ⟨T140, h140, L140, X140, e140, Nq140, K140, st140⟩ := pc_t1n a1 l1 mb kM sv (2 : Int32) (1 : Int32) (1 : Int32) x1 x0 [(.int x0), (.int x1)] g6 g7 g8 X0 hx hZ hw hby hml hown e0 N0 Z0 (by omega) (by omega) (Nat.le_trans (Nat.le_of_ble_eq_true rfl) hfr) (Nat.le_trans (Nat.le_of_ble_eq_true rfl) hlo) AM (by decide) ⟨by decide, by decide⟩ rfl (by decide) ⟨by decide, by decide⟩ rfl q105
      have P141 : ∀ t, Sg p e below (T140.setTop (mkF m 40 #[sR a1, sR l1, sI sv, sR mb, sI 2, sI 2, g6, g7, g8] [])) t → Sg p e below (T0.setTop (mkF m 34 #[sR a1, sR l1, sI sv, sR mb, g4, g5, g6, g7, g8] [])) t := fun t k => P104 t (by
        exact st140 _ k)
      have Z142 : n0 ≤ h140.size := Nat.le_trans Z0 K140.1
      have K143 : Keep h0 h140 [] := (Keep.refl h0 []).trans K140 (all0)
      have f144 := (AM.keep K140 nin0)
      obtain ⟨cl145, Ar145, -, S145, N145, -, -⟩ := id f144
      obtain ⟨T146, h146, k146, X146, e146, E146, A146, B146, st146⟩ := newPE X140 hx hZ (own_hw hw 10 rfl) e140 (g := (mkF m 82 #[sR a1, sR l1, sI sv, sR mb, sI 2, sI 2, g6, g7, g8] [(.int (2 : Int32))])) rfl (hb hby dp21_1_82) rfl (by decide) (cap := 2) (by decide) (by decide) (by omega) (by omega) (ad := "[I") (by decide)
      obtain ⟨b146, g146⟩ : ∃ z, z = h140.size := ⟨_, rfl⟩
      rw [← g146] at A146 B146 st146
      have g_b146 : n0 ≤ b146 := Nat.le_trans Z142 (Nat.le_of_eq g146.symm)
      have sz_b146 : h0.size ≤ b146 := Nat.le_trans K143.1 (Nat.le_of_eq g146.symm)
      have P147 : ∀ t, Sg p e below (T146.setTop (mkF m 84 #[sR a1, sR l1, sI sv, sR mb, sI 2, sI 2, g6, g7, g8] [(.ref b146)])) t → Sg p e below (T0.setTop (mkF m 34 #[sR a1, sR l1, sI sv, sR mb, g4, g5, g6, g7, g8] [])) t := fun t k => P141 t (by
        refine XS.iload X140.here hx rfl (hb hby dp21_1_40) rfl ?_
        refine XS.aloadN X140.here hx rfl (hb hby dp21_1_42) rfl rfl ?_
        show Sg p e below (T140.setTop (mkF m 43 #[sR a1, sR l1, sI sv, sR mb, sI 2, sI 2, g6, g7, g8] [(.ref mb), (.int (2 : Int32))])) _
        refine X140.arraylength hx (by rw [e140]; exact Ar145.1) (State.isArrayOf_alike hZ.alike Ar145.2.1) (g := (mkF m 43 #[sR a1, sR l1, sI sv, sR mb, sI 2, sI 2, g6, g7, g8] [(.ref mb), (.int (2 : Int32))])) rfl rfl (hb hby dp21_1_43) _ ?_
        rw [len_of S145 N145]
        show Sg p e below (T140.setTop (mkF m 44 #[sR a1, sR l1, sI sv, sR mb, sI 2, sI 2, g6, g7, g8] [(.int (2 : Int32)), (.int (2 : Int32))])) _
        refine XS.icmpYes X140.here hx rfl (pc0 := 44) (pc' := 80) rfl (hb hby dp21_1_44) rfl (flt (show ¬ ((2 : Int32) < (2 : Int32)) from (by decide))).2.1 (by decide) (by decide) ?_
        refine XS.iload X140.here hx rfl (hb hby dp21_1_80) rfl ?_
        show Sg p e below (T140.setTop (mkF m 82 #[sR a1, sR l1, sI sv, sR mb, sI 2, sI 2, g6, g7, g8] [(.int (2 : Int32))])) _
        exact st146 _ k)
      have Z148 : n0 ≤ h146.size := Nat.le_trans Z142 E146.1
      have K149 : Keep h0 h146 [] := K143.ext E146
      have v150 : Arv Z h146 b146 k146 .int (2 : Int32) [(.int (0 : Int32)), (.int (0 : Int32))] (.int (0 : Int32)) := (Arv.new A146 (by decide)).pad (pad_rep [] (.int (0 : Int32)) 2)
      obtain ⟨T151, h151, k151, X151, e151, E151, A151, B151, st151⟩ := newPE X146 hx hZ (own_hw hw 28 rfl) e146 (g := (mkF m 88 #[sR a1, sR l1, sI sv, sR mb, sI 2, sR b146, g6, g7, g8] [(.int (2 : Int32))])) rfl (hb hby dp21_1_88) rfl (by decide) (cap := 2) (by decide) (by decide) (by omega) (by omega) (ad := "[J") (by decide)
      obtain ⟨b151, g151⟩ : ∃ z, z = h146.size := ⟨_, rfl⟩
      rw [← g151] at A151 B151 st151
      have g_b151 : n0 ≤ b151 := Nat.le_trans Z148 (Nat.le_of_eq g151.symm)
      have sz_b151 : h0.size ≤ b151 := Nat.le_trans K149.1 (Nat.le_of_eq g151.symm)
      have P152 : ∀ t, Sg p e below (T151.setTop (mkF m 90 #[sR a1, sR l1, sI sv, sR mb, sI 2, sR b146, g6, g7, g8] [(.ref b151)])) t → Sg p e below (T0.setTop (mkF m 34 #[sR a1, sR l1, sI sv, sR mb, g4, g5, g6, g7, g8] [])) t := fun t k => P147 t (by
        refine XS.astore X146.here hx rfl (hb hby dp21_1_84) rfl rfl (l' := #[sR a1, sR l1, sI sv, sR mb, sI 2, sR b146, g6, g7, g8]) rfl ?_
        refine XS.iload X146.here hx rfl (hb hby dp21_1_86) rfl ?_
        show Sg p e below (T146.setTop (mkF m 88 #[sR a1, sR l1, sI sv, sR mb, sI 2, sR b146, g6, g7, g8] [(.int (2 : Int32))])) _
        exact st151 _ k)
      have Z153 : n0 ≤ h151.size := Nat.le_trans Z148 E151.1
      have K154 : Keep h0 h151 [] := K149.ext E151
      have v155 : Arv Z h151 b151 k151 .long (2 : Int32) [(.long (0 : Int64)), (.long (0 : Int64))] (.long (0 : Int64)) := (Arv.new A151 (by decide)).pad (pad_rep [] (.long (0 : Int64)) 2)
      have f156 := ((f144.ext E146).ext E151)
      have f157 := (v150.ext E151)
      have P158 : ∀ t, Sg p e below (T151.setTop (mkF m 98 #[sR a1, sR l1, sI sv, sR mb, sI 2, sR b146, sR b151, sI (-1), sI 0] [])) t → Sg p e below (T0.setTop (mkF m 34 #[sR a1, sR l1, sI sv, sR mb, g4, g5, g6, g7, g8] [])) t := fun t k => P152 t (by
        refine XS.astoreS X151.here hx rfl (hb hby dp21_1_90) rfl rfl rfl rfl ho6 ?_
        show Sg p e below (T151.setTop (mkF m 92 #[sR a1, sR l1, sI sv, sR mb, sI 2, sR b146, sR b151, g7, g8] [])) _
        refine XS.iconst X151.here hx rfl (hb hby dp21_1_92) ?_
        refine XS.istoreS X151.here hx rfl (hb hby dp21_1_93) rfl rfl ho7 ?_
        show Sg p e below (T151.setTop (mkF m 95 #[sR a1, sR l1, sI sv, sR mb, sI 2, sR b146, sR b151, sI (-1), g8] [])) _
        refine XS.iconst X151.here hx rfl (hb hby dp21_1_95) ?_
        refine XS.istoreS X151.here hx rfl (hb hby dp21_1_96) rfl rfl ho8 ?_
        show Sg p e below (T151.setTop (mkF m 98 #[sR a1, sR l1, sI sv, sR mb, sI 2, sR b146, sR b151, sI (-1), sI 0] [])) _
        exact k)
      obtain ⟨T159, h159, L159, X159, e159, Nq159, K159, u159_0, u159_1, st159⟩ := pc_t2f a1 l1 mb b146 b151 kM k146 k151 sv (2 : Int32) (2 : Int32) (2 : Int32) x0 (0 : Int64) [(.int x0), (.int x1)] [(.int (0 : Int32)), (.int (0 : Int32))] [(.long (0 : Int64)), (.long (0 : Int64))] X151 hx hZ hw hby hml hown e151 Nq140 Z153 (by omega) (by omega) (Nat.le_trans (Nat.le_of_ble_eq_true rfl) hfr) (Nat.le_trans (Nat.le_of_ble_eq_true rfl) hlo) f156 (by decide) ⟨by decide, by decide⟩ rfl g_b146 g_b151 (Nat.ne_of_lt (Nat.lt_of_lt_of_le f144.lt (Nat.le_of_eq g146.symm))) (Nat.ne_of_lt (Nat.lt_of_lt_of_le B146.lt (Nat.le_of_eq g151.symm))) f157 v155 ⟨by decide, by decide⟩ rfl (Nat.le_of_ble_eq_true rfl) (Nat.le_of_ble_eq_true rfl) rfl
      have P160 : ∀ t, Sg p e below (T159.setTop (mkF m 98 #[sR a1, sR l1, sI sv, sR mb, sI 2, sR b146, sR b151, sI 0, sI 1] [])) t → Sg p e below (T0.setTop (mkF m 34 #[sR a1, sR l1, sI sv, sR mb, g4, g5, g6, g7, g8] [])) t := fun t k => P158 t (by
        exact st159 _ k)
      have Z161 : n0 ≤ h159.size := Nat.le_trans Z153 K159.1
      have K162 : Keep h0 h159 [] := K154.trans K159 ((allS (Or.inr sz_b146) (allS (Or.inr sz_b151) all0)))
      have AP159 : Arv Z h159 b146 k146 .int (2 : Int32) [(.int (own_sh x0)), (.int (0 : Int32))] (.int (0 : Int32)) := u159_0
      have AW159 : Arv Z h159 b151 k151 .long (2 : Int32) [(.long ((0 : Int64) ||| own_bit x0)), (.long (0 : Int64))] (.long (0 : Int64)) := u159_1
      have f163 := (f156.keep K159 (ninS (Nat.ne_of_lt (Nat.lt_of_lt_of_le f144.lt (Nat.le_of_eq g146.symm))) (ninS (Nat.ne_of_lt (Nat.lt_of_lt_of_le (f144.ext E146).lt (Nat.le_of_eq g151.symm))) nin0)))
      obtain ⟨T164, h164, L164, X164, e164, Nq164, K164, u164_0, u164_1, st164⟩ := pc_t2n a1 l1 mb b146 b151 kM k146 k151 sv (2 : Int32) (2 : Int32) (2 : Int32) x1 (0 : Int32) (1 : Int32) x0 (0 : Int64) [(.int x0), (.int x1)] [(.int (own_sh x0)), (.int (0 : Int32))] [(.long ((0 : Int64) ||| own_bit x0)), (.long (0 : Int64))] 1 X159 hx hZ hw hby hml hown e159 Nq159 Z161 (by omega) (by omega) (Nat.le_trans (Nat.le_of_ble_eq_true rfl) hfr) (Nat.le_trans (Nat.le_of_ble_eq_true rfl) hlo) f163 (by decide) ⟨by decide, by decide⟩ rfl (by decide) ⟨by decide, by decide⟩ rfl q105 g_b146 g_b151 (Nat.ne_of_lt (Nat.lt_of_lt_of_le f144.lt (Nat.le_of_eq g146.symm))) (Nat.ne_of_lt (Nat.lt_of_lt_of_le B146.lt (Nat.le_of_eq g151.symm))) AP159 AW159 ⟨by decide, by decide⟩ rfl (Nat.le_of_ble_eq_true rfl) (Nat.le_of_ble_eq_true rfl) rfl
      have P165 : ∀ t, Sg p e below (T164.setTop (mkF m 98 #[sR a1, sR l1, sI sv, sR mb, sI 2, sR b146, sR b151, sI 1, sI 2] [])) t → Sg p e below (T0.setTop (mkF m 34 #[sR a1, sR l1, sI sv, sR mb, g4, g5, g6, g7, g8] [])) t := fun t k => P160 t (by
        exact st164 _ k)
      have Z166 : n0 ≤ h164.size := Nat.le_trans Z161 K164.1
      have K167 : Keep h0 h164 [] := K162.trans K164 ((allS (Or.inr sz_b146) (allS (Or.inr sz_b151) all0)))
      have AP164 : Arv Z h164 b146 k146 .int (2 : Int32) [(.int (own_sh x0)), (.int (own_sh x1))] (.int (0 : Int32)) := u164_0
      have AW164 : Arv Z h164 b151 k151 .long (2 : Int32) [(.long ((0 : Int64) ||| own_bit x0)), (.long ((0 : Int64) ||| own_bit x1))] (.long (0 : Int64)) := u164_1
      have f168 := (f163.keep K164 (ninS (Nat.ne_of_lt (Nat.lt_of_lt_of_le f144.lt (Nat.le_of_eq g146.symm))) (ninS (Nat.ne_of_lt (Nat.lt_of_lt_of_le (f144.ext E146).lt (Nat.le_of_eq g151.symm))) nin0)))
      obtain ⟨cl169, Ar169, -, S169, N169, -, -⟩ := id f168
      have f170 := (((B146.ext E151).keep K159).keep K164)
      have f171 := ((B151.keep K159).keep K164)
      have P172 : ∀ t, Sg p e below (T164.setTop (mkF m 164 #[sR a1, sR l1, sI sv, sR mb, sI 2, sR b146, sR b151, sI 1, sI 2] [])) t → Sg p e below (T0.setTop (mkF m 34 #[sR a1, sR l1, sI sv, sR mb, g4, g5, g6, g7, g8] [])) t := fun t k => P165 t (by
        refine XS.iload X164.here hx rfl (hb hby dp21_1_98) rfl ?_
        refine XS.aloadN X164.here hx rfl (hb hby dp21_1_100) rfl rfl ?_
        show Sg p e below (T164.setTop (mkF m 101 #[sR a1, sR l1, sI sv, sR mb, sI 2, sR b146, sR b151, sI 1, sI 2] [(.ref mb), (.int (2 : Int32))])) _
        refine X164.arraylength hx (by rw [e164]; exact Ar169.1) (State.isArrayOf_alike hZ.alike Ar169.2.1) (g := (mkF m 101 #[sR a1, sR l1, sI sv, sR mb, sI 2, sR b146, sR b151, sI 1, sI 2] [(.ref mb), (.int (2 : Int32))])) rfl rfl (hb hby dp21_1_101) _ ?_
        rw [len_of S169 N169]
        show Sg p e below (T164.setTop (mkF m 102 #[sR a1, sR l1, sI sv, sR mb, sI 2, sR b146, sR b151, sI 1, sI 2] [(.int (2 : Int32)), (.int (2 : Int32))])) _
        refine XS.icmpYes X164.here hx rfl (pc0 := 102) (pc' := 164) rfl (hb hby dp21_1_102) rfl (flt (show ¬ ((2 : Int32) < (2 : Int32)) from (by decide))).2.1 (by decide) (by decide) ?_
        show Sg p e below (T164.setTop (mkF m 164 #[sR a1, sR l1, sI sv, sR mb, sI 2, sR b146, sR b151, sI 1, sI 2] [])) _
        exact k)
      exact ⟨T164, h164, _, b146, b151, k146, k151, ([(own_sh x0), (own_sh x1)] : List Int32), ([((0 : Int64) ||| own_bit x0), ((0 : Int64) ||| own_bit x1)] : List Int64), (2 : Int32), (1 : Int32), (2 : Int32), X164.more (by omega) (by omega), e164, Nq164, K167, ((if_neg q105)).symm, ((if_neg q105)).symm, rfl, AP164, AW164, f170, f171, sz_b146, sz_b151, P172⟩
  · exact absurd hx3 (by simp)
theorem dp21_1_0 : decode prog_21_method_1_code 0 = .ok (.aload_n 0, 1) := by decide +kernel
theorem dp21_1_1 : decode prog_21_method_1_code 1 = .ok (.invokespecial 1, 3) := by decide +kernel
theorem dp21_1_4 : decode prog_21_method_1_code 4 = .ok (.aload_n 0, 1) := by decide +kernel
theorem dp21_1_5 : decode prog_21_method_1_code 5 = .ok (.aload_n 1, 1) := by decide +kernel
theorem dp21_1_6 : decode prog_21_method_1_code 6 = .ok (.arraylength, 1) := by decide +kernel
theorem dp21_1_7 : decode prog_21_method_1_code 7 = .ok (.anewarray 7, 3) := by decide +kernel
theorem dp21_1_10 : decode prog_21_method_1_code 10 = .ok (.putfield 9, 3) := by decide +kernel
theorem dp21_1_13 : decode prog_21_method_1_code 13 = .ok (.aload_n 0, 1) := by decide +kernel
theorem dp21_1_14 : decode prog_21_method_1_code 14 = .ok (.aload_n 1, 1) := by decide +kernel
theorem dp21_1_15 : decode prog_21_method_1_code 15 = .ok (.arraylength, 1) := by decide +kernel
theorem dp21_1_16 : decode prog_21_method_1_code 16 = .ok (.anewarray 15, 3) := by decide +kernel
theorem dp21_1_19 : decode prog_21_method_1_code 19 = .ok (.putfield 17, 3) := by decide +kernel
theorem dp21_1_22 : decode prog_21_method_1_code 22 = .ok (.iconst 0, 1) := by decide +kernel
theorem dp21_1_23 : decode prog_21_method_1_code 23 = .ok (.istore_n 2, 1) := by decide +kernel
theorem dp21_1_24 : decode prog_21_method_1_code 24 = .ok (.iload_n 2, 1) := by decide +kernel
theorem dp21_1_25 : decode prog_21_method_1_code 25 = .ok (.aload_n 1, 1) := by decide +kernel
theorem dp21_1_26 : decode prog_21_method_1_code 26 = .ok (.arraylength, 1) := by decide +kernel
theorem dp21_1_27 : decode prog_21_method_1_code 27 = .ok (.if_icmp .ge 159, 3) := by decide +kernel
theorem dp21_1_30 : decode prog_21_method_1_code 30 = .ok (.aload_n 1, 1) := by decide +kernel
theorem dp21_1_31 : decode prog_21_method_1_code 31 = .ok (.iload_n 2, 1) := by decide +kernel
theorem dp21_1_32 : decode prog_21_method_1_code 32 = .ok (.aaload, 1) := by decide +kernel
theorem dp21_1_33 : decode prog_21_method_1_code 33 = .ok (.astore_n 3, 1) := by decide +kernel
theorem dp21_1_164 : decode prog_21_method_1_code 164 = .ok (.aload_n 0, 1) := by decide +kernel
theorem dp21_1_165 : decode prog_21_method_1_code 165 = .ok (.getfield 9, 3) := by decide +kernel
theorem dp21_1_168 : decode prog_21_method_1_code 168 = .ok (.iload_n 2, 1) := by decide +kernel
theorem dp21_1_169 : decode prog_21_method_1_code 169 = .ok (.aload 5, 2) := by decide +kernel
theorem dp21_1_171 : decode prog_21_method_1_code 171 = .ok (.aastore, 1) := by decide +kernel
theorem dp21_1_172 : decode prog_21_method_1_code 172 = .ok (.aload_n 0, 1) := by decide +kernel
theorem dp21_1_173 : decode prog_21_method_1_code 173 = .ok (.getfield 17, 3) := by decide +kernel
theorem dp21_1_176 : decode prog_21_method_1_code 176 = .ok (.iload_n 2, 1) := by decide +kernel
theorem dp21_1_177 : decode prog_21_method_1_code 177 = .ok (.aload 6, 2) := by decide +kernel
theorem dp21_1_179 : decode prog_21_method_1_code 179 = .ok (.aastore, 1) := by decide +kernel
theorem dp21_1_180 : decode prog_21_method_1_code 180 = .ok (.iinc 2 1, 3) := by decide +kernel
theorem dp21_1_183 : decode prog_21_method_1_code 183 = .ok (.goto (-159), 3) := by decide +kernel
theorem dp21_1_186 : decode prog_21_method_1_code 186 = .ok (.return_, 1) := by decide +kernel
theorem pn_com_example_whittle_whittle_engine_WordSets : plainName "com/example/whittle/whittle/engine/WordSets" = true := by first | (simp [plainName, overriddenIn]; done) | decide +kernel
theorem ef_wsInit (m : MethodId) (x0 : Addr) (x1 : Addr) : entryFrame m #[(.ref x0), (.ref x1)] 9 = mkF m 0 #[sR x0, sR x1, sU, sU, sU, sU, sU, sU, sU] [] := by (first | (simp [entryFrame, mkF, argsToLocals, Value.category]; done) | rfl)
def Q_wsInit (Z : State) (a1 : Addr) (xs0 xs1 : List Int32) (h0 : Heap) (n0 : Nat) (v : Option Value) (h : Heap) (L : List Loc) : Prop := v = none ∧ Fr n0 L ∧ Keep h0 h [a1] ∧ Exa Z h a1 sW ∧ ∃ (PP WW : Addr) (kP kW : ClassId) (P0 P1 W0 W1 : Addr), Fld Z h a1 sW "places" "[[I" (.ref PP) ∧ Fld Z h a1 sW "words" "[[J" (.ref WW) ∧ Arv Z h PP kP (.array .int) (2 : Int32) [(.ref P0), (.ref P1)] .null ∧ Arv Z h WW kW (.array .long) (2 : Int32) [(.ref W0), (.ref W1)] .null ∧ h0.size ≤ PP ∧ h0.size ≤ WW ∧ (∃ (k k2 : ClassId) (pl : List Int32) (wl : List Int64) (N : Int32), pl = own_pl xs0 ∧ wl = own_wl xs0 ∧ N = Int32.ofNat pl.length ∧ Arv Z h P0 k .int N (pl.map Value.int) (.int (0 : Int32)) ∧ Arv Z h W0 k2 .long N (wl.map Value.long) (.long (0 : Int64)) ∧ Exa Z h P0 "[I" ∧ Exa Z h W0 "[J" ∧ h0.size ≤ P0 ∧ h0.size ≤ W0) ∧ (∃ (k k2 : ClassId) (pl : List Int32) (wl : List Int64) (N : Int32), pl = own_pl xs1 ∧ wl = own_wl xs1 ∧ N = Int32.ofNat pl.length ∧ Arv Z h P1 k .int N (pl.map Value.int) (.int (0 : Int32)) ∧ Arv Z h W1 k2 .long N (wl.map Value.long) (.long (0 : Int64)) ∧ Exa Z h P1 "[I" ∧ Exa Z h W1 "[J" ∧ h0.size ≤ P1 ∧ h0.size ≤ W1)
set_option maxRecDepth 65536 in
set_option maxHeartbeats 40000000 in
theorem rm_wsInit (l : Launch) (Z : State) (a0 : Array Value) (hw : ∀ d ∈ tables_1, d.before a0 Z = true) (ws : List Jvm.Cond) (a1 l1 : Addr) (kl : ClassId) (f0 f1 : Addr) (kf0 kf1 : ClassId) (M0 M1 : Int32) (xs0 xs1 : List Int32) (h0 : Heap) (n0 : Nat) (Z0 : n0 ≤ h0.size) (g_a1 : n0 ≤ a1) (E1 : Exa Z h0 a1 sW) (Fp : Fld Z h0 a1 sW "places" "[[I" .null) (Fw : Fld Z h0 a1 sW "words" "[[J" .null) (Al : Arv Z h0 l1 kl (.array .int) (2 : Int32) [(.ref f0), (.ref f1)] .null) (A_f0 : Arv Z h0 f0 kf0 .int M0 (xs0.map Value.int) (.int (0 : Int32))) (hM0 : M0 = Int32.ofNat xs0.length) (hx0 : xs0.length ≤ 2) (A_f1 : Arv Z h0 f1 kf1 .int M1 (xs1.map Value.int) (.int (0 : Int32))) (hM1 : M1 = Int32.ofNat xs1.length) (hx1 : xs1.length ≤ 2) :
    MetFree l (⟨"com/example/whittle/whittle/engine/WordSets", "<init>", "([[I)V"⟩ : MethodName) (head1 (Jvm.Cond.code (⟨"com/example/whittle/whittle/engine/WordSets", "<init>", "([[I)V"⟩ : MethodName) prog_21_method_1_code 9 none :: ws) ({ frames := 1, cells := 6, slots := 12, locals := 12 } : Room)) (fun a U => a = #[(.ref a1), (.ref l1)] ∧ Z.Warmed39 U.vm ∧ U.heap = h0) (fun _ _ _ _ _ => True) (fun _ U o U' => ∃ v L, o = .returned v ∧ Q_wsInit Z a1 xs0 xs1 h0 n0 v U'.heap L ∧ FrameEnd U o U' L ({ frames := 1, cells := 6, slots := 12, locals := 12 } : Room).cells ({ frames := 1, cells := 6, slots := 12, locals := 12 } : Room).slots) := by
  refine MetFree.of_bodySF (plainFor_of_name pn_com_example_whittle_whittle_engine_WordSets) hisR ?_
  intro p e s m args below meth c s₁ Bd hml0 hP hK
  obtain ⟨rfl, hZ, hh⟩ := hP
  have hx := Bd.exec
  have hby := Bd.bytes
  have hml : c.maxLocals = 9 := hml0
  have hown : s.vm.findClass "com/example/whittle/whittle/engine/WordSets" = some m.cls := findClass_of_methodNamed Bd.named
  have hnm := (name_of_methodNamed Bd.named Bd.method).1
  have X0 : Stand p l e ({ frames := 1, cells := 6, slots := 12, locals := 12 } : Room) s m #[(.ref a1), (.ref l1)] below meth c s₁ [] 0 0 := Stand.of_body Bd
  have e0 : s₁.heap = h0 := by rw [← hh, Bd.state]; rfl
  have N0 := Fr.nil n0
  have pre0 : ∀ t, Sg p e below (s₁.setTop (mkF m 0 #[sR a1, sR l1, sU, sU, sU, sU, sU, sU, sU] [])) t → Steps p.tables e below (s₁.setTop (entryFrame m #[(.ref a1), (.ref l1)] 9)) t := fun t k => castTop (ef_wsInit m a1 l1) k
  have P0 : ∀ t, Sg p e below (s₁.setTop (mkF m 0 #[sR a1, sR l1, sU, sU, sU, sU, sU, sU, sU] [])) t → Sg p e below (s₁.setTop (mkF m 0 #[sR a1, sR l1, sU, sU, sU, sU, sU, sU, sU] [])) t := fun t k => k
  obtain ⟨B0, pre0, P0⟩ : ∃ B : State, (∀ t, Steps p.tables e below B t → Steps p.tables e below (s₁.setTop (entryFrame m #[(.ref a1), (.ref l1)] 9)) t) ∧ Rg p e below (s₁.setTop (mkF m 0 #[sR a1, sR l1, sU, sU, sU, sU, sU, sU, sU] [])) B := ⟨_, pre0, P0⟩
  obtain ⟨T173, X173, e173, st173⟩ := initO X0 hx hZ hown (own_hw hw 18 rfl) (own_hw hw 19 rfl) (own_hw hw 20 rfl) e0 (g := (mkF m 1 #[sR a1, sR l1, sU, sU, sU, sU, sU, sU, sU] [(.ref a1)])) rfl (by rw [hml]; rfl) rfl (hb hby dp21_1_1) (by decide) (W := 0) (by show 2 * 0 + _ ≤ _; exact Nat.le_of_eq rfl) (by decide)
  have P174 : Rg p e below (T173.setTop (mkF m 4 #[sR a1, sR l1, sU, sU, sU, sU, sU, sU, sU] [])) B0 := fun t k => P0 t (by
    refine XS.aloadN X0.here hx rfl (hb hby dp21_1_0) rfl rfl ?_
    show Sg p e below (s₁.setTop (mkF m 1 #[sR a1, sR l1, sU, sU, sU, sU, sU, sU, sU] [(.ref a1)])) _
    exact st173 _ k)
  obtain ⟨cl175, Ar175, -, S175, N175, -, -⟩ := id Al
  obtain ⟨T176, h176, k176, X176, e176, E176, A176, B176, O176, st176⟩ := newRA X173 hx hZ hown (C := "[I") (ty := .int) (by decide) (own_hw hw 21 rfl) (own_hw hw 9 rfl) e173 (g := (mkF m 7 #[sR a1, sR l1, sU, sU, sU, sU, sU, sU, sU] [(.int (2 : Int32)), (.ref a1)])) rfl (hb hby dp21_1_7) rfl (by decide) (cap := 2) (by decide) (by decide) (by decide) (by decide) (ad := "[[I") (by decide)
  obtain ⟨b176, g176⟩ : ∃ z, z = h0.size := ⟨_, rfl⟩
  rw [← g176] at A176 B176 st176
  have g_b176 : n0 ≤ b176 := Nat.le_trans Z0 (Nat.le_of_eq g176.symm)
  have sz_b176 : h0.size ≤ b176 := Nat.le_trans (Keep.refl h0 [a1]).1 (Nat.le_of_eq g176.symm)
  have P177 : Rg p e below (T176.setTop (mkF m 10 #[sR a1, sR l1, sU, sU, sU, sU, sU, sU, sU] [(.ref b176), (.ref a1)])) B0 := fun t k => P174 t (by
    refine XS.aloadN X173.here hx rfl (hb hby dp21_1_4) rfl rfl ?_
    refine XS.aloadN X173.here hx rfl (hb hby dp21_1_5) rfl rfl ?_
    show Sg p e below (T173.setTop (mkF m 6 #[sR a1, sR l1, sU, sU, sU, sU, sU, sU, sU] [(.ref l1), (.ref a1)])) _
    refine X173.arraylength hx (by rw [e173]; exact Ar175.1) (State.isArrayOf_alike hZ.alike Ar175.2.1) (g := (mkF m 6 #[sR a1, sR l1, sU, sU, sU, sU, sU, sU, sU] [(.ref l1), (.ref a1)])) rfl rfl (hb hby dp21_1_6) _ ?_
    rw [len_of S175 N175]
    show Sg p e below (T173.setTop (mkF m 7 #[sR a1, sR l1, sU, sU, sU, sU, sU, sU, sU] [(.int (2 : Int32)), (.ref a1)])) _
    exact st176 _ k)
  have Z178 : n0 ≤ h176.size := Nat.le_trans Z0 E176.1
  have K179 : Keep h0 h176 [a1] := (Keep.refl h0 [a1]).ext E176
  have v180 : Arv Z h176 b176 k176 (.array .int) (2 : Int32) [.null, .null] .null := (Arv.new A176 (by decide)).pad (pad_rep [] .null 2)
  have f181 := (Fp.ext E176)
  have f182 := (E1.ext E176)
  obtain ⟨T183, h183, X183, e183, W183, st183⟩ := putF X176 hx hZ hown (host := "") (Or.inl (own_hw hw 22 rfl)) Via.refl e176 f181 f182 (Or.inr ⟨(own_hw hw 23 rfl), rfl, hnm⟩) (own_hw hw 13 rfl) (ty := (.array (.array .int))) (by decide) rfl rfl (g := (mkF m 10 #[sR a1, sR l1, sU, sU, sU, sU, sU, sU, sU] [(.ref b176), (.ref a1)])) rfl rfl (hb hby dp21_1_10)
  have P184 : Rg p e below (T183.setTop (mkF m 13 #[sR a1, sR l1, sU, sU, sU, sU, sU, sU, sU] [])) B0 := fun t k => P177 t (by
    exact st183 _ k)
  have f185 := f181.same W183
  have N186 := Fr.snoc X183 N0 g_a1
  have Z187 : n0 ≤ h183.size := Nat.le_trans Z178 (Keep.of_wr W183).1
  have K188 : Keep h0 h183 [a1] := K179.wr W183 (Or.inl (List.mem_of_getElem? (i := 0) rfl))
  have f189 := ((Al.ext E176).other W183 (Ne.symm (Exa.neArv E1 Al (own_hw hw 13 rfl))))
  obtain ⟨cl190, Ar190, -, S190, N190, -, -⟩ := id f189
  obtain ⟨T191, h191, k191, X191, e191, E191, A191, B191, O191, st191⟩ := newRA X183 hx hZ hown (C := "[J") (ty := .long) (by decide) (own_hw hw 24 rfl) (own_hw hw 25 rfl) e183 (g := (mkF m 16 #[sR a1, sR l1, sU, sU, sU, sU, sU, sU, sU] [(.int (2 : Int32)), (.ref a1)])) rfl (hb hby dp21_1_16) rfl (by decide) (cap := 2) (by decide) (by decide) (by decide) (by decide) (ad := "[[J") (by decide)
  obtain ⟨b191, g191⟩ : ∃ z, z = h183.size := ⟨_, rfl⟩
  rw [← g191] at A191 B191 st191
  have g_b191 : n0 ≤ b191 := Nat.le_trans Z187 (Nat.le_of_eq g191.symm)
  have sz_b191 : h0.size ≤ b191 := Nat.le_trans K188.1 (Nat.le_of_eq g191.symm)
  have P192 : Rg p e below (T191.setTop (mkF m 19 #[sR a1, sR l1, sU, sU, sU, sU, sU, sU, sU] [(.ref b191), (.ref a1)])) B0 := fun t k => P184 t (by
    refine XS.aloadN X183.here hx rfl (hb hby dp21_1_13) rfl rfl ?_
    refine XS.aloadN X183.here hx rfl (hb hby dp21_1_14) rfl rfl ?_
    show Sg p e below (T183.setTop (mkF m 15 #[sR a1, sR l1, sU, sU, sU, sU, sU, sU, sU] [(.ref l1), (.ref a1)])) _
    refine X183.arraylength hx (by rw [e183]; exact Ar190.1) (State.isArrayOf_alike hZ.alike Ar190.2.1) (g := (mkF m 15 #[sR a1, sR l1, sU, sU, sU, sU, sU, sU, sU] [(.ref l1), (.ref a1)])) rfl rfl (hb hby dp21_1_15) _ ?_
    rw [len_of S190 N190]
    show Sg p e below (T183.setTop (mkF m 16 #[sR a1, sR l1, sU, sU, sU, sU, sU, sU, sU] [(.int (2 : Int32)), (.ref a1)])) _
    exact st191 _ k)
  have Z193 : n0 ≤ h191.size := Nat.le_trans Z187 E191.1
  have K194 : Keep h0 h191 [a1] := K188.ext E191
  have v195 : Arv Z h191 b191 k191 (.array .long) (2 : Int32) [.null, .null] .null := (Arv.new A191 (by decide)).pad (pad_rep [] .null 2)
  have f196 := (((Fw.ext E176).other W183 (Or.inr (slot_ne (Or.inr (own_hw hw 27 rfl)) (Or.inr (own_hw hw 23 rfl)) (by decide) (t := (.array (.array .long))) (t' := (.array (.array .int))) (by decide) (by decide)))).ext E191)
  have f197 := ((f182.wr W183).ext E191)
  obtain ⟨T198, h198, X198, e198, W198, st198⟩ := putF X191 hx hZ hown (host := "") (Or.inl (own_hw hw 26 rfl)) Via.refl e191 f196 f197 (Or.inr ⟨(own_hw hw 27 rfl), rfl, hnm⟩) (own_hw hw 13 rfl) (ty := (.array (.array .long))) (by decide) rfl rfl (g := (mkF m 19 #[sR a1, sR l1, sU, sU, sU, sU, sU, sU, sU] [(.ref b191), (.ref a1)])) rfl rfl (hb hby dp21_1_19)
  have P199 : Rg p e below (T198.setTop (mkF m 22 #[sR a1, sR l1, sU, sU, sU, sU, sU, sU, sU] [])) B0 := fun t k => P192 t (by
    exact st198 _ k)
  have f200 := f196.same W198
  have N201 := Fr.snoc X198 N186 g_a1
  have Z202 : n0 ≤ h198.size := Nat.le_trans Z193 (Keep.of_wr W198).1
  have K203 : Keep h0 h198 [a1] := K194.wr W198 (Or.inl (List.mem_of_getElem? (i := 0) rfl))
  have f204 := ((f189.ext E191).other W198 (Ne.symm (Exa.neArv E1 Al (own_hw hw 13 rfl))))
  obtain ⟨cl205, Ar205, -, S205, N205, -, -⟩ := id f204
  obtain ⟨cl206, Ar206, -, S206, N206, H206, -⟩ := id f204
  have hin206 : ¬ ((0 : Int32) < 0 ∨ cl206.slots.size ≤ ((0 : Int32)).toNatClampNeg) := inb_of S206 ⟨by decide, by decide⟩
  have f207 := ((((A_f0.ext E176).other W183 (Ne.symm (Exa.neArv E1 A_f0 (own_hw hw 13 rfl)))).ext E191).other W198 (Ne.symm (Exa.neArv E1 A_f0 (own_hw hw 13 rfl))))
  have P208 : Rg p e below (T198.setTop (mkF m 34 #[sR a1, sR l1, sI 0, sR f0, sU, sU, sU, sU, sU] [])) B0 := fun t k => P199 t (by
    refine XS.iconst X198.here hx rfl (hb hby dp21_1_22) ?_
    refine XS.istoreN X198.here hx rfl (hb hby dp21_1_23) rfl (l' := #[sR a1, sR l1, sI 0, sU, sU, sU, sU, sU, sU]) rfl ?_
    refine XS.iloadN X198.here hx rfl (hb hby dp21_1_24) rfl ?_
    refine XS.aloadN X198.here hx rfl (hb hby dp21_1_25) rfl rfl ?_
    show Sg p e below (T198.setTop (mkF m 26 #[sR a1, sR l1, sI 0, sU, sU, sU, sU, sU, sU] [(.ref l1), (.int (0 : Int32))])) _
    refine X198.arraylength hx (by rw [e198]; exact Ar205.1) (State.isArrayOf_alike hZ.alike Ar205.2.1) (g := (mkF m 26 #[sR a1, sR l1, sI 0, sU, sU, sU, sU, sU, sU] [(.ref l1), (.int (0 : Int32))])) rfl rfl (hb hby dp21_1_26) _ ?_
    rw [len_of S205 N205]
    show Sg p e below (T198.setTop (mkF m 27 #[sR a1, sR l1, sI 0, sU, sU, sU, sU, sU, sU] [(.int (2 : Int32)), (.int (0 : Int32))])) _
    refine XS.icmpNo X198.here hx rfl (hb hby dp21_1_27) rfl (tlt (show (0 : Int32) < (2 : Int32) from (by decide))).2.1 ?_
    refine XS.aloadN X198.here hx rfl (hb hby dp21_1_30) rfl rfl ?_
    refine XS.iloadN X198.here hx rfl (hb hby dp21_1_31) rfl ?_
    show Sg p e below (T198.setTop (mkF m 32 #[sR a1, sR l1, sI 0, sU, sU, sU, sU, sU, sU] [(.int (0 : Int32)), (.ref l1)])) _
    refine X198.aaload hx (j := (0 : Int32)) (v := (.ref f0)) (by rw [e198]; exact Ar206.1) (State.isArrayOf_alike hZ.alike Ar206.2.1) rfl Ar206.2.2 hin206 (H206.at hin206 rfl) (g := (mkF m 32 #[sR a1, sR l1, sI 0, sU, sU, sU, sU, sU, sU] [(.int (0 : Int32)), (.ref l1)])) rfl rfl (hb hby dp21_1_32) _ ?_
    show Sg p e below (T198.setTop (mkF m 33 #[sR a1, sR l1, sI 0, sU, sU, sU, sU, sU, sU] [(.ref f0)])) _
    refine XS.astoreN X198.here hx rfl (hb hby dp21_1_33) rfl rfl (l' := #[sR a1, sR l1, sI 0, sR f0, sU, sU, sU, sU, sU]) rfl ?_
    show Sg p e below (T198.setTop (mkF m 34 #[sR a1, sR l1, sI 0, sR f0, sU, sU, sU, sU, sU] [])) _
    exact k)
  obtain ⟨T209, h209, L209, P2209, W2209, k5209, k6209, pl209, wl209, N2209, at2209, iv2209, X209, e209, Nq209, K209, u209_0, u209_1, u209_2, u209_3, u209_4, u209_5, u209_6, u209_7, u209_8, st209⟩ := pc_cbd a1 l1 f0 kf0 (0 : Int32) M0 xs0 sU sU sU sU sU X198 hx hZ hw hby hml hown e198 N201 Z202 (Nat.le_of_ble_eq_true rfl) (Nat.le_of_ble_eq_true rfl) (by decide) (by decide) f207 hM0 hx0 (Or.inl rfl) (Or.inl rfl) (Or.inl rfl) (Or.inl rfl) (Or.inl rfl)
  have P210 : Rg p e below (T209.setTop (mkF m 164 #[sR a1, sR l1, sI 0, sR f0, sI N2209, sR P2209, sR W2209, sI at2209, sI iv2209] [])) B0 := fun t k => P208 t (by
    exact st209 _ k)
  have Z211 : n0 ≤ h209.size := Nat.le_trans Z202 K209.1
  have K212 : Keep h0 h209 [a1] := K203.trans K209 (all0)
  have g_P2209 : n0 ≤ P2209 := Nat.le_trans Z202 u209_7
  have sz_P2209 : h0.size ≤ P2209 := Nat.le_trans K203.1 u209_7
  have g_W2209 : n0 ≤ W2209 := Nat.le_trans Z202 u209_8
  have sz_W2209 : h0.size ≤ W2209 := Nat.le_trans K203.1 u209_8
  have f213 := (((f185.ext E191).other W198 (Or.inr (slot_ne (Or.inr (own_hw hw 23 rfl)) (Or.inr (own_hw hw 27 rfl)) (by decide) (t := (.array (.array .int))) (t' := (.array (.array .long))) (by decide) (by decide)))).keep K209 nin0)
  obtain ⟨T214, X214, e214, st214⟩ := getF X209 hx hZ hown (host := "") (Or.inl (own_hw hw 22 rfl)) Via.refl e209 f213 (g := (mkF m 165 #[sR a1, sR l1, sI 0, sR f0, sI N2209, sR P2209, sR W2209, sI at2209, sI iv2209] [(.ref a1)])) rfl rfl (hb hby dp21_1_165)
  have P215 : Rg p e below (T214.setTop (mkF m 168 #[sR a1, sR l1, sI 0, sR f0, sI N2209, sR P2209, sR W2209, sI at2209, sI iv2209] [(.ref b176)])) B0 := fun t k => P210 t (by
    refine XS.aloadN X209.here hx rfl (hb hby dp21_1_164) rfl rfl ?_
    show Sg p e below (T209.setTop (mkF m 165 #[sR a1, sR l1, sI 0, sR f0, sI N2209, sR P2209, sR W2209, sI at2209, sI iv2209] [(.ref a1)])) _
    exact st214 _ k)
  have f216 := ((((v180.other W183 (Ne.symm (Nat.ne_of_lt (Nat.lt_of_lt_of_le Fw.lt (Nat.le_of_eq g176.symm))))).ext E191).other W198 (Ne.symm (Nat.ne_of_lt (Nat.lt_of_lt_of_le Fw.lt (Nat.le_of_eq g176.symm))))).keep K209 nin0)
  obtain ⟨cl217, Ar217, q217, S217, N217, H217, G217⟩ := id f216
  obtain ⟨T217, h217, X217, e217, W217, st217⟩ := stR X214 hx hZ e214 Ar217 (j := (0 : Int32)) (inb_of S217 ⟨by decide, by decide⟩) rfl (Sto.ofVA Ar217 q217 O176 (Ins.self u209_5)) (g := (mkF m 171 #[sR a1, sR l1, sI 0, sR f0, sI N2209, sR P2209, sR W2209, sI at2209, sI iv2209] [(.ref P2209), (.int (0 : Int32)), (.ref b176)])) rfl rfl (hb hby dp21_1_171)
  have v218 : Arv Z h217 b176 k176 (.array .int) (2 : Int32) [(.ref P2209), .null] .null := Arv.set Ar217 q217 S217 N217 H217 G217 rfl W217 0 rfl (Nat.le_of_ble_eq_true rfl)
  have P219 : Rg p e below (T217.setTop (mkF m 172 #[sR a1, sR l1, sI 0, sR f0, sI N2209, sR P2209, sR W2209, sI at2209, sI iv2209] [])) B0 := fun t k => P215 t (by
    refine XS.iloadN X214.here hx rfl (hb hby dp21_1_168) rfl ?_
    refine XS.aload X214.here hx rfl (hb hby dp21_1_169) rfl rfl ?_
    show Sg p e below (T214.setTop (mkF m 171 #[sR a1, sR l1, sI 0, sR f0, sI N2209, sR P2209, sR W2209, sI at2209, sI iv2209] [(.ref P2209), (.int (0 : Int32)), (.ref b176)])) _
    exact st217 _ k)
  have N220 := Fr.snoc X217 Nq209 g_b176
  have Z221 : n0 ≤ h217.size := Nat.le_trans Z211 (Keep.of_wr W217).1
  have K222 : Keep h0 h217 [a1] := K212.wr W217 (Or.inr sz_b176)
  have f223 := ((f200.keep K209 nin0).other W217 (Or.inl (Nat.ne_of_lt (Nat.lt_of_lt_of_le Fw.lt (Nat.le_of_eq g176.symm)))))
  obtain ⟨T224, X224, e224, st224⟩ := getF X217 hx hZ hown (host := "") (Or.inl (own_hw hw 26 rfl)) Via.refl e217 f223 (g := (mkF m 173 #[sR a1, sR l1, sI 0, sR f0, sI N2209, sR P2209, sR W2209, sI at2209, sI iv2209] [(.ref a1)])) rfl rfl (hb hby dp21_1_173)
  have P225 : Rg p e below (T224.setTop (mkF m 176 #[sR a1, sR l1, sI 0, sR f0, sI N2209, sR P2209, sR W2209, sI at2209, sI iv2209] [(.ref b191)])) B0 := fun t k => P219 t (by
    refine XS.aloadN X217.here hx rfl (hb hby dp21_1_172) rfl rfl ?_
    show Sg p e below (T217.setTop (mkF m 173 #[sR a1, sR l1, sI 0, sR f0, sI N2209, sR P2209, sR W2209, sI at2209, sI iv2209] [(.ref a1)])) _
    exact st224 _ k)
  have f226 := (((v195.other W198 (Ne.symm (Nat.ne_of_lt (Nat.lt_of_lt_of_le f185.lt (Nat.le_of_eq g191.symm))))).keep K209 nin0).other W217 (Ne.symm (Nat.ne_of_lt (Nat.lt_of_lt_of_le (v180.other W183 (Ne.symm (Nat.ne_of_lt (Nat.lt_of_lt_of_le Fw.lt (Nat.le_of_eq g176.symm))))).lt (Nat.le_of_eq g191.symm)))))
  have f228 := (u209_6.wr W217)
  obtain ⟨cl227, Ar227, q227, S227, N227, H227, G227⟩ := id f226
  obtain ⟨T227, h227, X227, e227, W227, st227⟩ := stR X224 hx hZ e224 Ar227 (j := (0 : Int32)) (inb_of S227 ⟨by decide, by decide⟩) rfl (Sto.ofVA Ar227 q227 O191 (Ins.self f228)) (g := (mkF m 179 #[sR a1, sR l1, sI 0, sR f0, sI N2209, sR P2209, sR W2209, sI at2209, sI iv2209] [(.ref W2209), (.int (0 : Int32)), (.ref b191)])) rfl rfl (hb hby dp21_1_179)
  have v229 : Arv Z h227 b191 k191 (.array .long) (2 : Int32) [(.ref W2209), .null] .null := Arv.set Ar227 q227 S227 N227 H227 G227 rfl W227 0 rfl (Nat.le_of_ble_eq_true rfl)
  have P230 : Rg p e below (T227.setTop (mkF m 180 #[sR a1, sR l1, sI 0, sR f0, sI N2209, sR P2209, sR W2209, sI at2209, sI iv2209] [])) B0 := fun t k => P225 t (by
    refine XS.iloadN X224.here hx rfl (hb hby dp21_1_176) rfl ?_
    refine XS.aload X224.here hx rfl (hb hby dp21_1_177) rfl rfl ?_
    show Sg p e below (T224.setTop (mkF m 179 #[sR a1, sR l1, sI 0, sR f0, sI N2209, sR P2209, sR W2209, sI at2209, sI iv2209] [(.ref W2209), (.int (0 : Int32)), (.ref b191)])) _
    exact st227 _ k)
  have N231 := Fr.snoc X227 N220 g_b191
  have Z232 : n0 ≤ h227.size := Nat.le_trans Z221 (Keep.of_wr W227).1
  have K233 : Keep h0 h227 [a1] := K222.wr W227 (Or.inr sz_b191)
  have f234 := (((f204.keep K209 nin0).other W217 (Nat.ne_of_lt (Nat.lt_of_lt_of_le Al.lt (Nat.le_of_eq g176.symm)))).other W227 (Nat.ne_of_lt (Nat.lt_of_lt_of_le f189.lt (Nat.le_of_eq g191.symm))))
  obtain ⟨cl235, Ar235, -, S235, N235, -, -⟩ := id f234
  obtain ⟨cl236, Ar236, -, S236, N236, H236, -⟩ := id f234
  have hin236 : ¬ ((1 : Int32) < 0 ∨ cl236.slots.size ≤ ((1 : Int32)).toNatClampNeg) := inb_of S236 ⟨by decide, by decide⟩
  have f237 := (((((((A_f1.ext E176).other W183 (Ne.symm (Exa.neArv E1 A_f1 (own_hw hw 13 rfl)))).ext E191).other W198 (Ne.symm (Exa.neArv E1 A_f1 (own_hw hw 13 rfl)))).keep K209 nin0).other W217 (Nat.ne_of_lt (Nat.lt_of_lt_of_le A_f1.lt (Nat.le_of_eq g176.symm)))).other W227 (Nat.ne_of_lt (Nat.lt_of_lt_of_le ((A_f1.ext E176).other W183 (Ne.symm (Exa.neArv E1 A_f1 (own_hw hw 13 rfl)))).lt (Nat.le_of_eq g191.symm))))
  have P238 : Rg p e below (T227.setTop (mkF m 34 #[sR a1, sR l1, sI 1, sR f1, sI N2209, sR P2209, sR W2209, sI at2209, sI iv2209] [])) B0 := fun t k => P230 t (by
    refine XS.iinc X227.here hx rfl (hb hby dp21_1_180) rfl (l' := #[sR a1, sR l1, sI 1, sR f0, sI N2209, sR P2209, sR W2209, sI at2209, sI iv2209]) rfl ?_
    refine XS.goto X227.here hx rfl (pc0 := 183) (pc' := 24) rfl (hb hby dp21_1_183) (by decide) (by decide) ?_
    refine XS.iloadN X227.here hx rfl (hb hby dp21_1_24) rfl ?_
    refine XS.aloadN X227.here hx rfl (hb hby dp21_1_25) rfl rfl ?_
    show Sg p e below (T227.setTop (mkF m 26 #[sR a1, sR l1, sI 1, sR f0, sI N2209, sR P2209, sR W2209, sI at2209, sI iv2209] [(.ref l1), (.int (1 : Int32))])) _
    refine X227.arraylength hx (by rw [e227]; exact Ar235.1) (State.isArrayOf_alike hZ.alike Ar235.2.1) (g := (mkF m 26 #[sR a1, sR l1, sI 1, sR f0, sI N2209, sR P2209, sR W2209, sI at2209, sI iv2209] [(.ref l1), (.int (1 : Int32))])) rfl rfl (hb hby dp21_1_26) _ ?_
    rw [len_of S235 N235]
    show Sg p e below (T227.setTop (mkF m 27 #[sR a1, sR l1, sI 1, sR f0, sI N2209, sR P2209, sR W2209, sI at2209, sI iv2209] [(.int (2 : Int32)), (.int (1 : Int32))])) _
    refine XS.icmpNo X227.here hx rfl (hb hby dp21_1_27) rfl (tlt (show (1 : Int32) < (2 : Int32) from (by decide))).2.1 ?_
    refine XS.aloadN X227.here hx rfl (hb hby dp21_1_30) rfl rfl ?_
    refine XS.iloadN X227.here hx rfl (hb hby dp21_1_31) rfl ?_
    show Sg p e below (T227.setTop (mkF m 32 #[sR a1, sR l1, sI 1, sR f0, sI N2209, sR P2209, sR W2209, sI at2209, sI iv2209] [(.int (1 : Int32)), (.ref l1)])) _
    refine X227.aaload hx (j := (1 : Int32)) (v := (.ref f1)) (by rw [e227]; exact Ar236.1) (State.isArrayOf_alike hZ.alike Ar236.2.1) rfl Ar236.2.2 hin236 (H236.at hin236 rfl) (g := (mkF m 32 #[sR a1, sR l1, sI 1, sR f0, sI N2209, sR P2209, sR W2209, sI at2209, sI iv2209] [(.int (1 : Int32)), (.ref l1)])) rfl rfl (hb hby dp21_1_32) _ ?_
    show Sg p e below (T227.setTop (mkF m 33 #[sR a1, sR l1, sI 1, sR f0, sI N2209, sR P2209, sR W2209, sI at2209, sI iv2209] [(.ref f1)])) _
    refine XS.astoreN X227.here hx rfl (hb hby dp21_1_33) rfl rfl (l' := #[sR a1, sR l1, sI 1, sR f1, sI N2209, sR P2209, sR W2209, sI at2209, sI iv2209]) rfl ?_
    show Sg p e below (T227.setTop (mkF m 34 #[sR a1, sR l1, sI 1, sR f1, sI N2209, sR P2209, sR W2209, sI at2209, sI iv2209] [])) _
    exact k)
  obtain ⟨T239, h239, L239, P2239, W2239, k5239, k6239, pl239, wl239, N2239, at2239, iv2239, X239, e239, Nq239, K239, u239_0, u239_1, u239_2, u239_3, u239_4, u239_5, u239_6, u239_7, u239_8, st239⟩ := pc_cbd a1 l1 f1 kf1 (1 : Int32) M1 xs1 (sI N2209) (sR P2209) (sR W2209) (sI at2209) (sI iv2209) X227 hx hZ hw hby hml hown e227 N231 Z232 (Nat.le_of_ble_eq_true rfl) (Nat.le_of_ble_eq_true rfl) (by decide) (by decide) f237 hM1 hx1 (Or.inr ⟨_, rfl, rfl⟩) (Or.inr ⟨_, rfl, rfl⟩) (Or.inr ⟨_, rfl, rfl⟩) (Or.inr ⟨_, rfl, rfl⟩) (Or.inr ⟨_, rfl, rfl⟩)
  have P240 : Rg p e below (T239.setTop (mkF m 164 #[sR a1, sR l1, sI 1, sR f1, sI N2239, sR P2239, sR W2239, sI at2239, sI iv2239] [])) B0 := fun t k => P238 t (by
    exact st239 _ k)
  have Z241 : n0 ≤ h239.size := Nat.le_trans Z232 K239.1
  have K242 : Keep h0 h239 [a1] := K233.trans K239 (all0)
  have g_P2239 : n0 ≤ P2239 := Nat.le_trans Z232 u239_7
  have sz_P2239 : h0.size ≤ P2239 := Nat.le_trans K233.1 u239_7
  have g_W2239 : n0 ≤ W2239 := Nat.le_trans Z232 u239_8
  have sz_W2239 : h0.size ≤ W2239 := Nat.le_trans K233.1 u239_8
  have f243 := (((f213.other W217 (Or.inl (Nat.ne_of_lt (Nat.lt_of_lt_of_le Fw.lt (Nat.le_of_eq g176.symm))))).other W227 (Or.inl (Nat.ne_of_lt (Nat.lt_of_lt_of_le f185.lt (Nat.le_of_eq g191.symm))))).keep K239 nin0)
  obtain ⟨T244, X244, e244, st244⟩ := getF X239 hx hZ hown (host := "") (Or.inl (own_hw hw 22 rfl)) Via.refl e239 f243 (g := (mkF m 165 #[sR a1, sR l1, sI 1, sR f1, sI N2239, sR P2239, sR W2239, sI at2239, sI iv2239] [(.ref a1)])) rfl rfl (hb hby dp21_1_165)
  have P245 : Rg p e below (T244.setTop (mkF m 168 #[sR a1, sR l1, sI 1, sR f1, sI N2239, sR P2239, sR W2239, sI at2239, sI iv2239] [(.ref b176)])) B0 := fun t k => P240 t (by
    refine XS.aloadN X239.here hx rfl (hb hby dp21_1_164) rfl rfl ?_
    show Sg p e below (T239.setTop (mkF m 165 #[sR a1, sR l1, sI 1, sR f1, sI N2239, sR P2239, sR W2239, sI at2239, sI iv2239] [(.ref a1)])) _
    exact st244 _ k)
  have f246 := ((v218.other W227 (Nat.ne_of_lt (Nat.lt_of_lt_of_le (v180.other W183 (Ne.symm (Nat.ne_of_lt (Nat.lt_of_lt_of_le Fw.lt (Nat.le_of_eq g176.symm))))).lt (Nat.le_of_eq g191.symm)))).keep K239 nin0)
  obtain ⟨cl247, Ar247, q247, S247, N247, H247, G247⟩ := id f246
  obtain ⟨T247, h247, X247, e247, W247, st247⟩ := stR X244 hx hZ e244 Ar247 (j := (1 : Int32)) (inb_of S247 ⟨by decide, by decide⟩) rfl (Sto.ofVA Ar247 q247 O176 (Ins.self u239_5)) (g := (mkF m 171 #[sR a1, sR l1, sI 1, sR f1, sI N2239, sR P2239, sR W2239, sI at2239, sI iv2239] [(.ref P2239), (.int (1 : Int32)), (.ref b176)])) rfl rfl (hb hby dp21_1_171)
  have v248 : Arv Z h247 b176 k176 (.array .int) (2 : Int32) [(.ref P2209), (.ref P2239)] .null := Arv.set Ar247 q247 S247 N247 H247 G247 rfl W247 1 rfl (Nat.le_of_ble_eq_true rfl)
  have P249 : Rg p e below (T247.setTop (mkF m 172 #[sR a1, sR l1, sI 1, sR f1, sI N2239, sR P2239, sR W2239, sI at2239, sI iv2239] [])) B0 := fun t k => P245 t (by
    refine XS.iloadN X244.here hx rfl (hb hby dp21_1_168) rfl ?_
    refine XS.aload X244.here hx rfl (hb hby dp21_1_169) rfl rfl ?_
    show Sg p e below (T244.setTop (mkF m 171 #[sR a1, sR l1, sI 1, sR f1, sI N2239, sR P2239, sR W2239, sI at2239, sI iv2239] [(.ref P2239), (.int (1 : Int32)), (.ref b176)])) _
    exact st247 _ k)
  have N250 := Fr.snoc X247 Nq239 g_b176
  have Z251 : n0 ≤ h247.size := Nat.le_trans Z241 (Keep.of_wr W247).1
  have K252 : Keep h0 h247 [a1] := K242.wr W247 (Or.inr sz_b176)
  have f253 := (((f223.other W227 (Or.inl (Nat.ne_of_lt (Nat.lt_of_lt_of_le f185.lt (Nat.le_of_eq g191.symm))))).keep K239 nin0).other W247 (Or.inl (Nat.ne_of_lt (Nat.lt_of_lt_of_le Fw.lt (Nat.le_of_eq g176.symm)))))
  obtain ⟨T254, X254, e254, st254⟩ := getF X247 hx hZ hown (host := "") (Or.inl (own_hw hw 26 rfl)) Via.refl e247 f253 (g := (mkF m 173 #[sR a1, sR l1, sI 1, sR f1, sI N2239, sR P2239, sR W2239, sI at2239, sI iv2239] [(.ref a1)])) rfl rfl (hb hby dp21_1_173)
  have P255 : Rg p e below (T254.setTop (mkF m 176 #[sR a1, sR l1, sI 1, sR f1, sI N2239, sR P2239, sR W2239, sI at2239, sI iv2239] [(.ref b191)])) B0 := fun t k => P249 t (by
    refine XS.aloadN X247.here hx rfl (hb hby dp21_1_172) rfl rfl ?_
    show Sg p e below (T247.setTop (mkF m 173 #[sR a1, sR l1, sI 1, sR f1, sI N2239, sR P2239, sR W2239, sI at2239, sI iv2239] [(.ref a1)])) _
    exact st254 _ k)
  have f256 := ((v229.keep K239 nin0).other W247 (Ne.symm (Nat.ne_of_lt (Nat.lt_of_lt_of_le (v180.other W183 (Ne.symm (Nat.ne_of_lt (Nat.lt_of_lt_of_le Fw.lt (Nat.le_of_eq g176.symm))))).lt (Nat.le_of_eq g191.symm)))))
  have f258 := (u239_6.wr W247)
  obtain ⟨cl257, Ar257, q257, S257, N257, H257, G257⟩ := id f256
  obtain ⟨T257, h257, X257, e257, W257, st257⟩ := stR X254 hx hZ e254 Ar257 (j := (1 : Int32)) (inb_of S257 ⟨by decide, by decide⟩) rfl (Sto.ofVA Ar257 q257 O191 (Ins.self f258)) (g := (mkF m 179 #[sR a1, sR l1, sI 1, sR f1, sI N2239, sR P2239, sR W2239, sI at2239, sI iv2239] [(.ref W2239), (.int (1 : Int32)), (.ref b191)])) rfl rfl (hb hby dp21_1_179)
  have v259 : Arv Z h257 b191 k191 (.array .long) (2 : Int32) [(.ref W2209), (.ref W2239)] .null := Arv.set Ar257 q257 S257 N257 H257 G257 rfl W257 1 rfl (Nat.le_of_ble_eq_true rfl)
  have P260 : Rg p e below (T257.setTop (mkF m 180 #[sR a1, sR l1, sI 1, sR f1, sI N2239, sR P2239, sR W2239, sI at2239, sI iv2239] [])) B0 := fun t k => P255 t (by
    refine XS.iloadN X254.here hx rfl (hb hby dp21_1_176) rfl ?_
    refine XS.aload X254.here hx rfl (hb hby dp21_1_177) rfl rfl ?_
    show Sg p e below (T254.setTop (mkF m 179 #[sR a1, sR l1, sI 1, sR f1, sI N2239, sR P2239, sR W2239, sI at2239, sI iv2239] [(.ref W2239), (.int (1 : Int32)), (.ref b191)])) _
    exact st257 _ k)
  have N261 := Fr.snoc X257 N250 g_b191
  have Z262 : n0 ≤ h257.size := Nat.le_trans Z251 (Keep.of_wr W257).1
  have K263 : Keep h0 h257 [a1] := K252.wr W257 (Or.inr sz_b191)
  have f264 := (((f234.keep K239 nin0).other W247 (Nat.ne_of_lt (Nat.lt_of_lt_of_le Al.lt (Nat.le_of_eq g176.symm)))).other W257 (Nat.ne_of_lt (Nat.lt_of_lt_of_le f189.lt (Nat.le_of_eq g191.symm))))
  obtain ⟨cl265, Ar265, -, S265, N265, -, -⟩ := id f264
  have f266 := (((((u209_3.other W217 (Ne.symm (Nat.ne_of_lt (Nat.lt_of_lt_of_le (((v180.other W183 (Ne.symm (Nat.ne_of_lt (Nat.lt_of_lt_of_le Fw.lt (Nat.le_of_eq g176.symm))))).ext E191).other W198 (Ne.symm (Nat.ne_of_lt (Nat.lt_of_lt_of_le Fw.lt (Nat.le_of_eq g176.symm))))).lt u209_7)))).other W227 (Ne.symm (Nat.ne_of_lt (Nat.lt_of_lt_of_le (v195.other W198 (Ne.symm (Nat.ne_of_lt (Nat.lt_of_lt_of_le f185.lt (Nat.le_of_eq g191.symm))))).lt u209_7)))).keep K239 nin0).other W247 (Ne.symm (Nat.ne_of_lt (Nat.lt_of_lt_of_le (((v180.other W183 (Ne.symm (Nat.ne_of_lt (Nat.lt_of_lt_of_le Fw.lt (Nat.le_of_eq g176.symm))))).ext E191).other W198 (Ne.symm (Nat.ne_of_lt (Nat.lt_of_lt_of_le Fw.lt (Nat.le_of_eq g176.symm))))).lt u209_7)))).other W257 (Ne.symm (Nat.ne_of_lt (Nat.lt_of_lt_of_le (v195.other W198 (Ne.symm (Nat.ne_of_lt (Nat.lt_of_lt_of_le f185.lt (Nat.le_of_eq g191.symm))))).lt u209_7))))
  have f267 := (((((u209_4.other W217 (Ne.symm (Nat.ne_of_lt (Nat.lt_of_lt_of_le (((v180.other W183 (Ne.symm (Nat.ne_of_lt (Nat.lt_of_lt_of_le Fw.lt (Nat.le_of_eq g176.symm))))).ext E191).other W198 (Ne.symm (Nat.ne_of_lt (Nat.lt_of_lt_of_le Fw.lt (Nat.le_of_eq g176.symm))))).lt u209_8)))).other W227 (Ne.symm (Nat.ne_of_lt (Nat.lt_of_lt_of_le (v195.other W198 (Ne.symm (Nat.ne_of_lt (Nat.lt_of_lt_of_le f185.lt (Nat.le_of_eq g191.symm))))).lt u209_8)))).keep K239 nin0).other W247 (Ne.symm (Nat.ne_of_lt (Nat.lt_of_lt_of_le (((v180.other W183 (Ne.symm (Nat.ne_of_lt (Nat.lt_of_lt_of_le Fw.lt (Nat.le_of_eq g176.symm))))).ext E191).other W198 (Ne.symm (Nat.ne_of_lt (Nat.lt_of_lt_of_le Fw.lt (Nat.le_of_eq g176.symm))))).lt u209_8)))).other W257 (Ne.symm (Nat.ne_of_lt (Nat.lt_of_lt_of_le (v195.other W198 (Ne.symm (Nat.ne_of_lt (Nat.lt_of_lt_of_le f185.lt (Nat.le_of_eq g191.symm))))).lt u209_8))))
  have f268 := (((((u209_5.wr W217).wr W227).keep K239).wr W247).wr W257)
  have f269 := ((((f228.wr W227).keep K239).wr W247).wr W257)
  have f270 := ((u239_3.other W247 (Ne.symm (Nat.ne_of_lt (Nat.lt_of_lt_of_le (v218.other W227 (Nat.ne_of_lt (Nat.lt_of_lt_of_le (v180.other W183 (Ne.symm (Nat.ne_of_lt (Nat.lt_of_lt_of_le Fw.lt (Nat.le_of_eq g176.symm))))).lt (Nat.le_of_eq g191.symm)))).lt u239_7)))).other W257 (Ne.symm (Nat.ne_of_lt (Nat.lt_of_lt_of_le v229.lt u239_7))))
  have f271 := ((u239_4.other W247 (Ne.symm (Nat.ne_of_lt (Nat.lt_of_lt_of_le (v218.other W227 (Nat.ne_of_lt (Nat.lt_of_lt_of_le (v180.other W183 (Ne.symm (Nat.ne_of_lt (Nat.lt_of_lt_of_le Fw.lt (Nat.le_of_eq g176.symm))))).lt (Nat.le_of_eq g191.symm)))).lt u239_8)))).other W257 (Ne.symm (Nat.ne_of_lt (Nat.lt_of_lt_of_le v229.lt u239_8))))
  have f272 := ((u239_5.wr W247).wr W257)
  have f273 := (f258.wr W257)
  have f274 := (((((((f197.wr W198).keep K209).wr W217).wr W227).keep K239).wr W247).wr W257)
  have f275 := ((f243.other W247 (Or.inl (Nat.ne_of_lt (Nat.lt_of_lt_of_le Fw.lt (Nat.le_of_eq g176.symm))))).other W257 (Or.inl (Nat.ne_of_lt (Nat.lt_of_lt_of_le f185.lt (Nat.le_of_eq g191.symm)))))
  have f276 := (f253.other W257 (Or.inl (Nat.ne_of_lt (Nat.lt_of_lt_of_le f185.lt (Nat.le_of_eq g191.symm)))))
  have f277 := (v248.other W257 (Nat.ne_of_lt (Nat.lt_of_lt_of_le (v180.other W183 (Ne.symm (Nat.ne_of_lt (Nat.lt_of_lt_of_le Fw.lt (Nat.le_of_eq g176.symm))))).lt (Nat.le_of_eq g191.symm))))
  obtain ⟨fs278, hr278, hrun278, hended278, hW278, hsame278⟩ := X257.leave (v := none) (fun _ => rfl)
  refine ⟨_, _, pre0 _ (P260 _ ?_), hrun278, hended278, _, _, rfl, ?_, ⟨⟨_, rfl⟩, hW278, hsame278.mono (Nat.le_of_ble_eq_true rfl) (Nat.le_of_ble_eq_true rfl)⟩⟩
  · show Sg p e below (T257.setTop (mkF m 180 #[sR a1, sR l1, sI 1, sR f1, sI N2239, sR P2239, sR W2239, sI at2239, sI iv2239] [])) _
    refine XS.iinc X257.here hx rfl (hb hby dp21_1_180) rfl (l' := #[sR a1, sR l1, sI 2, sR f1, sI N2239, sR P2239, sR W2239, sI at2239, sI iv2239]) rfl ?_
    refine XS.goto X257.here hx rfl (pc0 := 183) (pc' := 24) rfl (hb hby dp21_1_183) (by decide) (by decide) ?_
    refine XS.iloadN X257.here hx rfl (hb hby dp21_1_24) rfl ?_
    refine XS.aloadN X257.here hx rfl (hb hby dp21_1_25) rfl rfl ?_
    show Sg p e below (T257.setTop (mkF m 26 #[sR a1, sR l1, sI 2, sR f1, sI N2239, sR P2239, sR W2239, sI at2239, sI iv2239] [(.ref l1), (.int (2 : Int32))])) _
    refine X257.arraylength hx (by rw [e257]; exact Ar265.1) (State.isArrayOf_alike hZ.alike Ar265.2.1) (g := (mkF m 26 #[sR a1, sR l1, sI 2, sR f1, sI N2239, sR P2239, sR W2239, sI at2239, sI iv2239] [(.ref l1), (.int (2 : Int32))])) rfl rfl (hb hby dp21_1_26) _ ?_
    rw [len_of S265 N265]
    show Sg p e below (T257.setTop (mkF m 27 #[sR a1, sR l1, sI 2, sR f1, sI N2239, sR P2239, sR W2239, sI at2239, sI iv2239] [(.int (2 : Int32)), (.int (2 : Int32))])) _
    refine XS.icmpYes X257.here hx rfl (pc0 := 27) (pc' := 186) rfl (hb hby dp21_1_27) rfl (flt (show ¬ ((2 : Int32) < (2 : Int32)) from (by decide))).2.1 (by decide) (by decide) ?_
    show Sg p e below (T257.setTop (mkF m 186 #[sR a1, sR l1, sI 2, sR f1, sI N2239, sR P2239, sR W2239, sI at2239, sI iv2239] [])) _
    exact X257.returnOut hx Bd.returns (hb hby dp21_1_186) hr278
  · show Q_wsInit Z a1 xs0 xs1 h0 n0 _ T257.heap _
    rw [e257]
    exact ⟨rfl, N261, K263, f274, b176, b191, _, _, P2209, P2239, W2209, W2239, f275, f276, f277, v259, sz_b176, sz_b191, ⟨_, _, pl209, wl209, N2209, u209_0, u209_1, u209_2, f266, f267, f268, f269, sz_P2209, sz_W2209⟩, ⟨_, _, pl239, wl239, N2239, u239_0, u239_1, u239_2, f270, f271, f272, f273, sz_P2239, sz_W2239⟩⟩
theorem dp22_2_49 : decode prog_22_method_2_code 49 = .ok (.iload 5, 2) := by decide +kernel
theorem dp22_2_51 : decode prog_22_method_2_code 51 = .ok (.aload_n 3, 1) := by decide +kernel
theorem dp22_2_52 : decode prog_22_method_2_code 52 = .ok (.arraylength, 1) := by decide +kernel
theorem dp22_2_53 : decode prog_22_method_2_code 53 = .ok (.if_icmp .ge 53, 3) := by decide +kernel
theorem dp22_2_56 : decode prog_22_method_2_code 56 = .ok (.aload 4, 2) := by decide +kernel
theorem dp22_2_58 : decode prog_22_method_2_code 58 = .ok (.iload 5, 2) := by decide +kernel
theorem dp22_2_60 : decode prog_22_method_2_code 60 = .ok (.laload, 1) := by decide +kernel
theorem dp22_2_61 : decode prog_22_method_2_code 61 = .ok (.lconst 0, 1) := by decide +kernel
theorem dp22_2_62 : decode prog_22_method_2_code 62 = .ok (.lcmp, 1) := by decide +kernel
theorem dp22_2_63 : decode prog_22_method_2_code 63 = .ok (.ifCond .eq 37, 3) := by decide +kernel
theorem dp22_2_66 : decode prog_22_method_2_code 66 = .ok (.aload_n 0, 1) := by decide +kernel
theorem dp22_2_67 : decode prog_22_method_2_code 67 = .ok (.getfield 7, 3) := by decide +kernel
theorem dp22_2_70 : decode prog_22_method_2_code 70 = .ok (.aload_n 0, 1) := by decide +kernel
theorem dp22_2_71 : decode prog_22_method_2_code 71 = .ok (.getfield 25, 3) := by decide +kernel
theorem dp22_2_74 : decode prog_22_method_2_code 74 = .ok (.aload_n 3, 1) := by decide +kernel
theorem dp22_2_75 : decode prog_22_method_2_code 75 = .ok (.iload 5, 2) := by decide +kernel
theorem dp22_2_77 : decode prog_22_method_2_code 77 = .ok (.iaload, 1) := by decide +kernel
theorem dp22_2_78 : decode prog_22_method_2_code 78 = .ok (.iastore, 1) := by decide +kernel
theorem dp22_2_79 : decode prog_22_method_2_code 79 = .ok (.aload_n 0, 1) := by decide +kernel
theorem dp22_2_80 : decode prog_22_method_2_code 80 = .ok (.getfield 13, 3) := by decide +kernel
theorem dp22_2_83 : decode prog_22_method_2_code 83 = .ok (.aload_n 0, 1) := by decide +kernel
theorem dp22_2_84 : decode prog_22_method_2_code 84 = .ok (.dup, 1) := by decide +kernel
theorem dp22_2_85 : decode prog_22_method_2_code 85 = .ok (.getfield 25, 3) := by decide +kernel
theorem dp22_2_88 : decode prog_22_method_2_code 88 = .ok (.dup_x1, 1) := by decide +kernel
theorem dp22_2_89 : decode prog_22_method_2_code 89 = .ok (.iconst 1, 1) := by decide +kernel
theorem dp22_2_90 : decode prog_22_method_2_code 90 = .ok (.iadd, 1) := by decide +kernel
theorem dp22_2_91 : decode prog_22_method_2_code 91 = .ok (.putfield 25, 3) := by decide +kernel
theorem dp22_2_94 : decode prog_22_method_2_code 94 = .ok (.aload 4, 2) := by decide +kernel
theorem dp22_2_96 : decode prog_22_method_2_code 96 = .ok (.iload 5, 2) := by decide +kernel
theorem dp22_2_98 : decode prog_22_method_2_code 98 = .ok (.laload, 1) := by decide +kernel
theorem dp22_2_99 : decode prog_22_method_2_code 99 = .ok (.lastore, 1) := by decide +kernel
theorem dp22_2_100 : decode prog_22_method_2_code 100 = .ok (.iinc 5 1, 3) := by decide +kernel
theorem dp22_2_103 : decode prog_22_method_2_code 103 = .ok (.goto (-54), 3) := by decide +kernel
set_option maxRecDepth 65536 in
set_option maxHeartbeats 40000000 in
theorem pc_cpt {p : Program} {l : Launch} {e : Env} {R : Room} {s : State} {m : MethodId} {args : Array Value} {below : List Frame} {meth : Method} {c : Code} {T0 : State} {locs : List Loc} {cells slots : Nat} {Z : State} {a0 : Array Value} {h0 : Heap} {n0 : Nat} (a1 fa f g P W : Addr) (kf kg kP kW : ClassId) (sv N M cn iv px : Int32) (y : Int64) (vf vg vp vw : List Value) (kk : Nat) (X0 : Stand p l e R s m args below meth c T0 locs cells slots) (hx : p.tables.exec = Jvm.exec) (hZ : Z.Warmed39 s.vm) (hw : ∀ d ∈ tables_1, d.before a0 Z = true) (hby : c.code = prog_22_method_2_code) (hml : c.maxLocals = 6) (hown : s.vm.findClass "com/example/whittle/whittle/engine/WordSets$Meet" = some m.cls) (e0 : T0.heap = h0) (N0 : Fr n0 locs) (Z0 : n0 ≤ h0.size) (hcc : cells + 0 ≤ R.cells) (hcs : slots + 0 ≤ R.slots) (hfr : 0 ≤ R.frames) (hlo : 0 ≤ R.locals) (g_a1 : n0 ≤ a1) (g_P : n0 ≤ P) (g_W : n0 ≤ W) (E1 : Exa Z h0 a1 "com/example/whittle/whittle/engine/WordSets$Meet") (EP : Exa Z h0 P "[I") (EW1 : Exa Z h0 W "[J") (Eg : Exa Z h0 g "[J") (Fp : Fld Z h0 a1 "com/example/whittle/whittle/engine/WordSets$Meet" "places" "[I" (.ref P)) (Fw : Fld Z h0 a1 "com/example/whittle/whittle/engine/WordSets$Meet" "words" "[J" (.ref W)) (Fc : Fld Z h0 a1 "com/example/whittle/whittle/engine/WordSets$Meet" "count" "I" (.int cn)) (Af : Arv Z h0 f kf .int N vf (.int (0 : Int32))) (Ag : Arv Z h0 g kg .long N vg (.long (0 : Int64))) (AP : Arv Z h0 P kP .int M vp (.int (0 : Int32))) (AW : Arv Z h0 W kW .long M vw (.long (0 : Int64))) (hlt : iv < N) (h1 : ¬ iv < 0 ∧ iv < N) (ef : vf.getD iv.toNatClampNeg (.int (0 : Int32)) = .int px) (eg : vg.getD iv.toNatClampNeg (.long (0 : Int64)) = .long y) (nz : ¬ y = (0 : Int64)) (hin : ¬ cn < 0 ∧ cn < M) (hk : cn.toNatClampNeg = kk) (hlp : kk < vp.length) (hlw : kk < vw.length) :
    ∃ (T' : State) (h' : Heap) (locs' : List Loc), Stand p l e R s m args below meth c T' locs' (cells + 0) (slots + 0) ∧ T'.heap = h' ∧ Fr n0 locs' ∧ Keep h0 h' [a1, P, W] ∧ Fld Z h' a1 sM "places" "[I" (.ref P) ∧ Fld Z h' a1 sM "words" "[J" (.ref W) ∧ Fld Z h' a1 sM "count" "I" (.int (cn + (1 : Int32))) ∧ Arv Z h' P kP .int M (vp.set kk (.int px)) (.int (0 : Int32)) ∧ Arv Z h' W kW .long M (vw.set kk (.long y)) (.long (0 : Int64)) ∧ ∀ t, Sg p e below (T'.setTop (mkF m 49 #[sR a1, sR fa, sI sv, sR f, sR g, .val (.int (iv + (1 : Int32)))] [])) t → Sg p e below (T0.setTop (mkF m 49 #[sR a1, sR fa, sI sv, sR f, sR g, sI iv] [])) t := by
  have P0 : ∀ t, Sg p e below (T0.setTop (mkF m 49 #[sR a1, sR fa, sI sv, sR f, sR g, sI iv] [])) t → Sg p e below (T0.setTop (mkF m 49 #[sR a1, sR fa, sI sv, sR f, sR g, sI iv] [])) t := fun t k => k
  obtain ⟨cl279, Ar279, -, S279, N279, -, -⟩ := id Af
  obtain ⟨cl280, Ar280, -, S280, N280, H280, -⟩ := id Ag
  have hin280 : ¬ (iv < 0 ∨ cl280.slots.size ≤ (iv).toNatClampNeg) := inb_of S280 h1
  obtain ⟨T281, X281, e281, st281⟩ := getF X0 hx hZ hown (host := "") (Or.inl (own_hw hw 37 rfl)) Via.refl e0 Fp (g := (mkF m 67 #[sR a1, sR fa, sI sv, sR f, sR g, sI iv] [(.ref a1)])) rfl rfl (hb hby dp22_2_67)
  have P282 : ∀ t, Sg p e below (T281.setTop (mkF m 70 #[sR a1, sR fa, sI sv, sR f, sR g, sI iv] [(.ref P)])) t → Sg p e below (T0.setTop (mkF m 49 #[sR a1, sR fa, sI sv, sR f, sR g, sI iv] [])) t := fun t k => P0 t (by
    refine XS.iload X0.here hx rfl (hb hby dp22_2_49) rfl ?_
    refine XS.aloadN X0.here hx rfl (hb hby dp22_2_51) rfl rfl ?_
    show Sg p e below (T0.setTop (mkF m 52 #[sR a1, sR fa, sI sv, sR f, sR g, sI iv] [(.ref f), (.int iv)])) _
    refine X0.arraylength hx (by rw [e0]; exact Ar279.1) (State.isArrayOf_alike hZ.alike Ar279.2.1) (g := (mkF m 52 #[sR a1, sR fa, sI sv, sR f, sR g, sI iv] [(.ref f), (.int iv)])) rfl rfl (hb hby dp22_2_52) _ ?_
    rw [len_of S279 N279]
    show Sg p e below (T0.setTop (mkF m 53 #[sR a1, sR fa, sI sv, sR f, sR g, sI iv] [(.int N), (.int iv)])) _
    refine XS.icmpNo X0.here hx rfl (hb hby dp22_2_53) rfl (tlt (show iv < N from hlt)).2.1 ?_
    refine XS.aload X0.here hx rfl (hb hby dp22_2_56) rfl rfl ?_
    refine XS.iload X0.here hx rfl (hb hby dp22_2_58) rfl ?_
    show Sg p e below (T0.setTop (mkF m 60 #[sR a1, sR fa, sI sv, sR f, sR g, sI iv] [(.int iv), (.ref g)])) _
    refine X0.laload hx (j := iv) (v := (.long y)) (by rw [e0]; exact Ar280.1) (State.isArrayOf_alike hZ.alike Ar280.2.1) Ar280.2.2 hin280 (H280.at hin280 eg) (g := (mkF m 60 #[sR a1, sR fa, sI sv, sR f, sR g, sI iv] [(.int iv), (.ref g)])) rfl rfl (hb hby dp22_2_60) _ ?_
    show Sg p e below (T0.setTop (mkF m 61 #[sR a1, sR fa, sI sv, sR f, sR g, sI iv] [(.long y)])) _
    refine XS.lconst X0.here hx rfl (hb hby dp22_2_61) ?_
    refine XS.lcmp X0.here hx rfl (hb hby dp22_2_62) rfl ?_
    refine XS.ifNo X0.here hx rfl (hb hby dp22_2_63) rfl (XT.ll_eq_f (show ¬ (y = (0 : Int64)) from nz)) ?_
    refine XS.aloadN X0.here hx rfl (hb hby dp22_2_66) rfl rfl ?_
    show Sg p e below (T0.setTop (mkF m 67 #[sR a1, sR fa, sI sv, sR f, sR g, sI iv] [(.ref a1)])) _
    exact st281 _ k)
  obtain ⟨T283, X283, e283, st283⟩ := getF X281 hx hZ hown (host := "") (Or.inl (own_hw hw 48 rfl)) Via.refl e281 Fc (g := (mkF m 71 #[sR a1, sR fa, sI sv, sR f, sR g, sI iv] [(.ref a1), (.ref P)])) rfl rfl (hb hby dp22_2_71)
  have P284 : ∀ t, Sg p e below (T283.setTop (mkF m 74 #[sR a1, sR fa, sI sv, sR f, sR g, sI iv] [(.int cn), (.ref P)])) t → Sg p e below (T0.setTop (mkF m 49 #[sR a1, sR fa, sI sv, sR f, sR g, sI iv] [])) t := fun t k => P282 t (by
    refine XS.aloadN X281.here hx rfl (hb hby dp22_2_70) rfl rfl ?_
    show Sg p e below (T281.setTop (mkF m 71 #[sR a1, sR fa, sI sv, sR f, sR g, sI iv] [(.ref a1), (.ref P)])) _
    exact st283 _ k)
  obtain ⟨cl285, Ar285, -, S285, N285, H285, -⟩ := id Af
  have hin285 : ¬ (iv < 0 ∨ cl285.slots.size ≤ (iv).toNatClampNeg) := inb_of S285 h1
  obtain ⟨cl286, Ar286, q286, S286, N286, H286, G286⟩ := id AP
  obtain ⟨T286, h286, X286, e286, W286, st286⟩ := stI X283 hx hZ e283 Ar286 (j := cn) (inb_of S286 hin) (g := (mkF m 78 #[sR a1, sR fa, sI sv, sR f, sR g, sI iv] [(.int px), (.int cn), (.ref P)])) rfl rfl (hb hby dp22_2_78)
  have v287 : Arv Z h286 P kP .int M (vp.set kk (.int px)) (.int (0 : Int32)) := Arv.set Ar286 q286 S286 N286 H286 G286 rfl W286 kk hk hlp
  have P288 : ∀ t, Sg p e below (T286.setTop (mkF m 79 #[sR a1, sR fa, sI sv, sR f, sR g, sI iv] [])) t → Sg p e below (T0.setTop (mkF m 49 #[sR a1, sR fa, sI sv, sR f, sR g, sI iv] [])) t := fun t k => P284 t (by
    refine XS.aloadN X283.here hx rfl (hb hby dp22_2_74) rfl rfl ?_
    refine XS.iload X283.here hx rfl (hb hby dp22_2_75) rfl ?_
    show Sg p e below (T283.setTop (mkF m 77 #[sR a1, sR fa, sI sv, sR f, sR g, sI iv] [(.int iv), (.ref f), (.int cn), (.ref P)])) _
    refine X283.iaload hx (j := iv) (v := (.int px)) (by rw [e283]; exact Ar285.1) (State.isArrayOf_alike hZ.alike Ar285.2.1) Ar285.2.2 hin285 (H285.at hin285 ef) (g := (mkF m 77 #[sR a1, sR fa, sI sv, sR f, sR g, sI iv] [(.int iv), (.ref f), (.int cn), (.ref P)])) rfl rfl (hb hby dp22_2_77) _ ?_
    show Sg p e below (T283.setTop (mkF m 78 #[sR a1, sR fa, sI sv, sR f, sR g, sI iv] [(.int px), (.int cn), (.ref P)])) _
    exact st286 _ k)
  have N289 := Fr.snoc X286 N0 g_P
  have Z290 : n0 ≤ h286.size := Nat.le_trans Z0 (Keep.of_wr W286).1
  have K291 : Keep h0 h286 [a1, P, W] := (Keep.refl h0 [a1, P, W]).wr W286 (Or.inl (List.mem_of_getElem? (i := 1) rfl))
  have f292 := (Fw.other W286 (Or.inl (Exa.ne E1 EP (by decide))))
  obtain ⟨T293, X293, e293, st293⟩ := getF X286 hx hZ hown (host := "") (Or.inl (own_hw hw 39 rfl)) Via.refl e286 f292 (g := (mkF m 80 #[sR a1, sR fa, sI sv, sR f, sR g, sI iv] [(.ref a1)])) rfl rfl (hb hby dp22_2_80)
  have P294 : ∀ t, Sg p e below (T293.setTop (mkF m 83 #[sR a1, sR fa, sI sv, sR f, sR g, sI iv] [(.ref W)])) t → Sg p e below (T0.setTop (mkF m 49 #[sR a1, sR fa, sI sv, sR f, sR g, sI iv] [])) t := fun t k => P288 t (by
    refine XS.aloadN X286.here hx rfl (hb hby dp22_2_79) rfl rfl ?_
    show Sg p e below (T286.setTop (mkF m 80 #[sR a1, sR fa, sI sv, sR f, sR g, sI iv] [(.ref a1)])) _
    exact st293 _ k)
  have f295 := (Fc.other W286 (Or.inl (Exa.ne E1 EP (by decide))))
  obtain ⟨T296, X296, e296, st296⟩ := getF X293 hx hZ hown (host := "") (Or.inl (own_hw hw 48 rfl)) Via.refl e293 f295 (g := (mkF m 85 #[sR a1, sR fa, sI sv, sR f, sR g, sI iv] [(.ref a1), (.ref a1), (.ref W)])) rfl rfl (hb hby dp22_2_85)
  have P297 : ∀ t, Sg p e below (T296.setTop (mkF m 88 #[sR a1, sR fa, sI sv, sR f, sR g, sI iv] [(.int cn), (.ref a1), (.ref W)])) t → Sg p e below (T0.setTop (mkF m 49 #[sR a1, sR fa, sI sv, sR f, sR g, sI iv] [])) t := fun t k => P294 t (by
    refine XS.aloadN X293.here hx rfl (hb hby dp22_2_83) rfl rfl ?_
    refine XS.dup X293.here hx rfl (hb hby dp22_2_84) rfl rfl ?_
    show Sg p e below (T293.setTop (mkF m 85 #[sR a1, sR fa, sI sv, sR f, sR g, sI iv] [(.ref a1), (.ref a1), (.ref W)])) _
    exact st296 _ k)
  have f298 := (E1.wr W286)
  obtain ⟨T299, h299, X299, e299, W299, st299⟩ := putF X296 hx hZ hown (host := "") (Or.inl (own_hw hw 48 rfl)) Via.refl e296 f295 f298 (Or.inl (own_hw hw 49 rfl)) (own_hw hw 31 rfl) (ty := .int) (by decide) rfl rfl (g := (mkF m 91 #[sR a1, sR fa, sI sv, sR f, sR g, sI iv] [(.int (cn + (1 : Int32))), (.ref a1), (.int cn), (.ref W)])) rfl rfl (hb hby dp22_2_91)
  have P300 : ∀ t, Sg p e below (T299.setTop (mkF m 94 #[sR a1, sR fa, sI sv, sR f, sR g, sI iv] [(.int cn), (.ref W)])) t → Sg p e below (T0.setTop (mkF m 49 #[sR a1, sR fa, sI sv, sR f, sR g, sI iv] [])) t := fun t k => P297 t (by
    refine XT.dupX1 X296.here hx rfl (hb hby dp22_2_88) rfl rfl rfl ?_
    refine XS.iconst X296.here hx rfl (hb hby dp22_2_89) ?_
    refine XS.iadd X296.here hx rfl (hb hby dp22_2_90) rfl ?_
    show Sg p e below (T296.setTop (mkF m 91 #[sR a1, sR fa, sI sv, sR f, sR g, sI iv] [(.int (cn + (1 : Int32))), (.ref a1), (.int cn), (.ref W)])) _
    exact st299 _ k)
  have f301 := f295.same W299
  have N302 := Fr.snoc X299 N289 g_a1
  have Z303 : n0 ≤ h299.size := Nat.le_trans Z290 (Keep.of_wr W299).1
  have K304 : Keep h0 h299 [a1, P, W] := K291.wr W299 (Or.inl (List.mem_of_getElem? (i := 0) rfl))
  have f305 := ((Ag.other W286 (Exa.ne Eg EP (by decide))).other W299 (Exa.ne Eg E1 (by decide)))
  obtain ⟨cl306, Ar306, -, S306, N306, H306, -⟩ := id f305
  have hin306 : ¬ (iv < 0 ∨ cl306.slots.size ≤ (iv).toNatClampNeg) := inb_of S306 h1
  have f307 := ((AW.other W286 (Exa.ne EW1 EP (by decide))).other W299 (Exa.ne EW1 E1 (by decide)))
  obtain ⟨cl308, Ar308, q308, S308, N308, H308, G308⟩ := id f307
  obtain ⟨T308, h308, X308, e308, W308, st308⟩ := stJ X299 hx hZ e299 Ar308 (j := cn) (inb_of S308 hin) (g := (mkF m 99 #[sR a1, sR fa, sI sv, sR f, sR g, sI iv] [(.long y), (.int cn), (.ref W)])) rfl rfl (hb hby dp22_2_99)
  have v309 : Arv Z h308 W kW .long M (vw.set kk (.long y)) (.long (0 : Int64)) := Arv.set Ar308 q308 S308 N308 H308 G308 rfl W308 kk hk hlw
  have P310 : ∀ t, Sg p e below (T308.setTop (mkF m 100 #[sR a1, sR fa, sI sv, sR f, sR g, sI iv] [])) t → Sg p e below (T0.setTop (mkF m 49 #[sR a1, sR fa, sI sv, sR f, sR g, sI iv] [])) t := fun t k => P300 t (by
    refine XS.aload X299.here hx rfl (hb hby dp22_2_94) rfl rfl ?_
    refine XS.iload X299.here hx rfl (hb hby dp22_2_96) rfl ?_
    show Sg p e below (T299.setTop (mkF m 98 #[sR a1, sR fa, sI sv, sR f, sR g, sI iv] [(.int iv), (.ref g), (.int cn), (.ref W)])) _
    refine X299.laload hx (j := iv) (v := (.long y)) (by rw [e299]; exact Ar306.1) (State.isArrayOf_alike hZ.alike Ar306.2.1) Ar306.2.2 hin306 (H306.at hin306 eg) (g := (mkF m 98 #[sR a1, sR fa, sI sv, sR f, sR g, sI iv] [(.int iv), (.ref g), (.int cn), (.ref W)])) rfl rfl (hb hby dp22_2_98) _ ?_
    show Sg p e below (T299.setTop (mkF m 99 #[sR a1, sR fa, sI sv, sR f, sR g, sI iv] [(.long y), (.int cn), (.ref W)])) _
    exact st308 _ k)
  have N311 := Fr.snoc X308 N302 g_W
  have Z312 : n0 ≤ h308.size := Nat.le_trans Z303 (Keep.of_wr W308).1
  have K313 : Keep h0 h308 [a1, P, W] := K304.wr W308 (Or.inl (List.mem_of_getElem? (i := 2) rfl))
  have f314 := (((Fp.other W286 (Or.inl (Exa.ne E1 EP (by decide)))).other W299 (Or.inr (slot_ne (Or.inl (own_hw hw 38 rfl)) (Or.inl (own_hw hw 49 rfl)) (by decide) (t := (.array .int)) (t' := .int) (by decide) (by decide)))).other W308 (Or.inl (Exa.ne E1 EW1 (by decide))))
  have f315 := ((f292.other W299 (Or.inr (slot_ne (Or.inl (own_hw hw 40 rfl)) (Or.inl (own_hw hw 49 rfl)) (by decide) (t := (.array .long)) (t' := .int) (by decide) (by decide)))).other W308 (Or.inl (Exa.ne E1 EW1 (by decide))))
  have f316 := (f301.other W308 (Or.inl (Exa.ne E1 EW1 (by decide))))
  have f317 := ((v287.other W299 (Exa.ne EP E1 (by decide))).other W308 (Exa.ne EP EW1 (by decide)))
  have P318 : ∀ t, Sg p e below (T308.setTop (mkF m 49 #[sR a1, sR fa, sI sv, sR f, sR g, .val (.int (iv + (1 : Int32)))] [])) t → Sg p e below (T0.setTop (mkF m 49 #[sR a1, sR fa, sI sv, sR f, sR g, sI iv] [])) t := fun t k => P310 t (by
    refine XS.iinc X308.here hx rfl (hb hby dp22_2_100) rfl (l' := #[sR a1, sR fa, sI sv, sR f, sR g, .val (.int (iv + (1 : Int32)))]) rfl ?_
    refine XS.goto X308.here hx rfl (pc0 := 103) (pc' := 49) rfl (hb hby dp22_2_103) (by decide) (by decide) ?_
    show Sg p e below (T308.setTop (mkF m 49 #[sR a1, sR fa, sI sv, sR f, sR g, .val (.int (iv + (1 : Int32)))] [])) _
    exact k)
  exact ⟨T308, h308, _, X308.more (by omega) (by omega), e308, N311, K313, f314, f315, f316, f317, v309, P318⟩
theorem dp22_2_0 : decode prog_22_method_2_code 0 = .ok (.aload_n 1, 1) := by decide +kernel
theorem dp22_2_1 : decode prog_22_method_2_code 1 = .ok (.getfield 17, 3) := by decide +kernel
theorem dp22_2_4 : decode prog_22_method_2_code 4 = .ok (.iload_n 2, 1) := by decide +kernel
theorem dp22_2_5 : decode prog_22_method_2_code 5 = .ok (.aaload, 1) := by decide +kernel
theorem dp22_2_6 : decode prog_22_method_2_code 6 = .ok (.astore_n 3, 1) := by decide +kernel
theorem dp22_2_7 : decode prog_22_method_2_code 7 = .ok (.aload_n 1, 1) := by decide +kernel
theorem dp22_2_8 : decode prog_22_method_2_code 8 = .ok (.getfield 22, 3) := by decide +kernel
theorem dp22_2_11 : decode prog_22_method_2_code 11 = .ok (.iload_n 2, 1) := by decide +kernel
theorem dp22_2_12 : decode prog_22_method_2_code 12 = .ok (.aaload, 1) := by decide +kernel
theorem dp22_2_13 : decode prog_22_method_2_code 13 = .ok (.astore 4, 2) := by decide +kernel
theorem dp22_2_15 : decode prog_22_method_2_code 15 = .ok (.aload_n 0, 1) := by decide +kernel
theorem dp22_2_16 : decode prog_22_method_2_code 16 = .ok (.getfield 7, 3) := by decide +kernel
theorem dp22_2_19 : decode prog_22_method_2_code 19 = .ok (.arraylength, 1) := by decide +kernel
theorem dp22_2_20 : decode prog_22_method_2_code 20 = .ok (.aload_n 3, 1) := by decide +kernel
theorem dp22_2_21 : decode prog_22_method_2_code 21 = .ok (.arraylength, 1) := by decide +kernel
theorem dp22_2_22 : decode prog_22_method_2_code 22 = .ok (.if_icmp .ge 19, 3) := by decide +kernel
theorem dp22_2_25 : decode prog_22_method_2_code 25 = .ok (.aload_n 0, 1) := by decide +kernel
theorem dp22_2_26 : decode prog_22_method_2_code 26 = .ok (.aload_n 3, 1) := by decide +kernel
theorem dp22_2_27 : decode prog_22_method_2_code 27 = .ok (.arraylength, 1) := by decide +kernel
theorem dp22_2_28 : decode prog_22_method_2_code 28 = .ok (.newarray .int, 2) := by decide +kernel
theorem dp22_2_30 : decode prog_22_method_2_code 30 = .ok (.putfield 7, 3) := by decide +kernel
theorem dp22_2_33 : decode prog_22_method_2_code 33 = .ok (.aload_n 0, 1) := by decide +kernel
theorem dp22_2_34 : decode prog_22_method_2_code 34 = .ok (.aload_n 3, 1) := by decide +kernel
theorem dp22_2_35 : decode prog_22_method_2_code 35 = .ok (.arraylength, 1) := by decide +kernel
theorem dp22_2_36 : decode prog_22_method_2_code 36 = .ok (.newarray .long, 2) := by decide +kernel
theorem dp22_2_38 : decode prog_22_method_2_code 38 = .ok (.putfield 13, 3) := by decide +kernel
theorem dp22_2_41 : decode prog_22_method_2_code 41 = .ok (.aload_n 0, 1) := by decide +kernel
theorem dp22_2_42 : decode prog_22_method_2_code 42 = .ok (.iconst 0, 1) := by decide +kernel
theorem dp22_2_43 : decode prog_22_method_2_code 43 = .ok (.putfield 25, 3) := by decide +kernel
theorem dp22_2_46 : decode prog_22_method_2_code 46 = .ok (.iconst 0, 1) := by decide +kernel
theorem dp22_2_47 : decode prog_22_method_2_code 47 = .ok (.istore 5, 2) := by decide +kernel
theorem dp22_2_106 : decode prog_22_method_2_code 106 = .ok (.return_, 1) := by decide +kernel
theorem pn_com_example_whittle_whittle_engine_WordSets_Meet : plainName "com/example/whittle/whittle/engine/WordSets$Meet" = true := by first | (simp [plainName, overriddenIn]; done) | decide +kernel
theorem ef_stf (m : MethodId) (x0 : Addr) (x1 : Addr) (x2 : Int32) : entryFrame m #[(.ref x0), (.ref x1), (.int x2)] 6 = mkF m 0 #[sR x0, sR x1, sI x2, sU, sU, sU] [] := by (first | (simp [entryFrame, mkF, argsToLocals, Value.category]; done) | rfl)
def Q_stf (Z : State) (a1 : Addr) (N : Int32) (pl : List Int32) (wl : List Int64) (h0 : Heap) (n0 : Nat) (v : Option Value) (h : Heap) (L : List Loc) : Prop := v = none ∧ Fr n0 L ∧ Keep h0 h [a1] ∧ Exa Z h a1 sM ∧ Fld Z h a1 sM "count" "I" (.int N) ∧ ∃ (P2 W2 : Addr) (k k2 : ClassId), Fld Z h a1 sM "places" "[I" (.ref P2) ∧ Fld Z h a1 sM "words" "[J" (.ref W2) ∧ Arv Z h P2 k .int N (pl.map Value.int) (.int (0 : Int32)) ∧ Arv Z h W2 k2 .long N (wl.map Value.long) (.long (0 : Int64)) ∧ Exa Z h P2 "[I" ∧ Exa Z h W2 "[J" ∧ h0.size ≤ P2 ∧ h0.size ≤ W2
set_option maxRecDepth 65536 in
set_option maxHeartbeats 40000000 in
theorem rm_stf (l : Launch) (Z : State) (a0 : Array Value) (hw : ∀ d ∈ tables_1, d.before a0 Z = true) (ws : List Jvm.Cond) (a1 P W : Addr) (kP : ClassId) (fa PP WW f0 f1 g0 g1 : Addr) (kPP kWW kf kg : ClassId) (N : Int32) (pl : List Int32) (wl : List Int64) (h0 : Heap) (n0 : Nat) (Z0 : n0 ≤ h0.size) (g_a1 : n0 ≤ a1) (E1 : Exa Z h0 a1 sM) (Fp : Fld Z h0 a1 sM "places" "[I" (.ref P)) (Fw : Fld Z h0 a1 sM "words" "[J" (.ref W)) (Fc : Fld Z h0 a1 sM "count" "I" (.int (0 : Int32))) (Ef : Exa Z h0 fa sW) (Ffp : Fld Z h0 fa sW "places" "[[I" (.ref PP)) (Ffw : Fld Z h0 fa sW "words" "[[J" (.ref WW)) (APP : Arv Z h0 PP kPP (.array .int) (2 : Int32) [(.ref f0), (.ref f1)] .null) (AWW : Arv Z h0 WW kWW (.array .long) (2 : Int32) [(.ref g0), (.ref g1)] .null) (Af : Arv Z h0 f0 kf .int N (pl.map Value.int) (.int (0 : Int32))) (Ag : Arv Z h0 g0 kg .long N (wl.map Value.long) (.long (0 : Int64))) (EEf : Exa Z h0 f0 "[I") (EEg : Exa Z h0 g0 "[J") (hN : N = Int32.ofNat pl.length) (hpl : pl.length ≤ 2) (hwl : wl.length = pl.length) (AP : Arv Z h0 P kP .int (0 : Int32) ([] : List Value) (.int (0 : Int32))) (hp0 : 0 < pl.length) (hnz : ∀ y ∈ wl, ¬ y = (0 : Int64)) :
    MetFree l (⟨"com/example/whittle/whittle/engine/WordSets$Meet", "start", "(Lcom/example/whittle/whittle/engine/WordSets;I)V"⟩ : MethodName) (head1 (Jvm.Cond.code (⟨"com/example/whittle/whittle/engine/WordSets$Meet", "start", "(Lcom/example/whittle/whittle/engine/WordSets;I)V"⟩ : MethodName) prog_22_method_2_code 6 none :: ws) ({ frames := 0, cells := 2, slots := 4, locals := 0 } : Room)) (fun a U => a = #[(.ref a1), (.ref fa), (.int (0 : Int32))] ∧ Z.Warmed39 U.vm ∧ U.heap = h0) (fun _ _ _ _ _ => True) (fun _ U o U' => ∃ v L, o = .returned v ∧ Q_stf Z a1 N pl wl h0 n0 v U'.heap L ∧ FrameEnd U o U' L ({ frames := 0, cells := 2, slots := 4, locals := 0 } : Room).cells ({ frames := 0, cells := 2, slots := 4, locals := 0 } : Room).slots) := by
  refine MetFree.of_bodySF (plainFor_of_name pn_com_example_whittle_whittle_engine_WordSets_Meet) hisR ?_
  intro p e s m args below meth c s₁ Bd hml0 hP hK
  obtain ⟨rfl, hZ, hh⟩ := hP
  have hx := Bd.exec
  have hby := Bd.bytes
  have hml : c.maxLocals = 6 := hml0
  have hown : s.vm.findClass "com/example/whittle/whittle/engine/WordSets$Meet" = some m.cls := findClass_of_methodNamed Bd.named
  have hnm := (name_of_methodNamed Bd.named Bd.method).1
  have X0 : Stand p l e ({ frames := 0, cells := 2, slots := 4, locals := 0 } : Room) s m #[(.ref a1), (.ref fa), (.int (0 : Int32))] below meth c s₁ [] 0 0 := Stand.of_body Bd
  have e0 : s₁.heap = h0 := by rw [← hh, Bd.state]; rfl
  have N0 := Fr.nil n0
  have pre0 : ∀ t, Sg p e below (s₁.setTop (mkF m 0 #[sR a1, sR fa, sI 0, sU, sU, sU] [])) t → Steps p.tables e below (s₁.setTop (entryFrame m #[(.ref a1), (.ref fa), (.int (0 : Int32))] 6)) t := fun t k => castTop (ef_stf m a1 fa (0 : Int32)) k
  have P0 : ∀ t, Sg p e below (s₁.setTop (mkF m 0 #[sR a1, sR fa, sI 0, sU, sU, sU] [])) t → Sg p e below (s₁.setTop (mkF m 0 #[sR a1, sR fa, sI 0, sU, sU, sU] [])) t := fun t k => k
  obtain ⟨B0, pre0, P0⟩ : ∃ B : State, (∀ t, Steps p.tables e below B t → Steps p.tables e below (s₁.setTop (entryFrame m #[(.ref a1), (.ref fa), (.int (0 : Int32))] 6)) t) ∧ Rg p e below (s₁.setTop (mkF m 0 #[sR a1, sR fa, sI 0, sU, sU, sU] [])) B := ⟨_, pre0, P0⟩
  rcases pl with _ | ⟨x0, _ | ⟨x1, _ | ⟨x2, pl⟩⟩⟩
  · skip
    exact absurd hp0 (by simp)
  · skip
    obtain ⟨y0, rfl⟩ := own_len1 hwl
    have hN' : N = (1 : Int32) := hN
    subst hN'
    obtain ⟨T319, X319, e319, st319⟩ := getF X0 hx hZ hown (Or.inr (own_hw hw 46 rfl)) Via.refl e0 Ffp (g := (mkF m 1 #[sR a1, sR fa, sI 0, sU, sU, sU] [(.ref fa)])) rfl rfl (hb hby dp22_2_1)
    have P320 : Rg p e below (T319.setTop (mkF m 4 #[sR a1, sR fa, sI 0, sU, sU, sU] [(.ref PP)])) B0 := fun t k => P0 t (by
      refine XS.aloadN X0.here hx rfl (hb hby dp22_2_0) rfl rfl ?_
      show Sg p e below (s₁.setTop (mkF m 1 #[sR a1, sR fa, sI 0, sU, sU, sU] [(.ref fa)])) _
      exact st319 _ k)
    obtain ⟨cl321, Ar321, -, S321, N321, H321, -⟩ := id APP
    have hin321 : ¬ ((0 : Int32) < 0 ∨ cl321.slots.size ≤ ((0 : Int32)).toNatClampNeg) := inb_of S321 ⟨by decide, by decide⟩
    obtain ⟨T322, X322, e322, st322⟩ := getF X319 hx hZ hown (Or.inr (own_hw hw 47 rfl)) Via.refl e319 Ffw (g := (mkF m 8 #[sR a1, sR fa, sI 0, sR f0, sU, sU] [(.ref fa)])) rfl rfl (hb hby dp22_2_8)
    have P323 : Rg p e below (T322.setTop (mkF m 11 #[sR a1, sR fa, sI 0, sR f0, sU, sU] [(.ref WW)])) B0 := fun t k => P320 t (by
      refine XS.iloadN X319.here hx rfl (hb hby dp22_2_4) rfl ?_
      show Sg p e below (T319.setTop (mkF m 5 #[sR a1, sR fa, sI 0, sU, sU, sU] [(.int (0 : Int32)), (.ref PP)])) _
      refine X319.aaload hx (j := (0 : Int32)) (v := (.ref f0)) (by rw [e319]; exact Ar321.1) (State.isArrayOf_alike hZ.alike Ar321.2.1) rfl Ar321.2.2 hin321 (H321.at hin321 rfl) (g := (mkF m 5 #[sR a1, sR fa, sI 0, sU, sU, sU] [(.int (0 : Int32)), (.ref PP)])) rfl rfl (hb hby dp22_2_5) _ ?_
      show Sg p e below (T319.setTop (mkF m 6 #[sR a1, sR fa, sI 0, sU, sU, sU] [(.ref f0)])) _
      refine XS.astoreN X319.here hx rfl (hb hby dp22_2_6) rfl rfl (l' := #[sR a1, sR fa, sI 0, sR f0, sU, sU]) rfl ?_
      refine XS.aloadN X319.here hx rfl (hb hby dp22_2_7) rfl rfl ?_
      show Sg p e below (T319.setTop (mkF m 8 #[sR a1, sR fa, sI 0, sR f0, sU, sU] [(.ref fa)])) _
      exact st322 _ k)
    obtain ⟨cl324, Ar324, -, S324, N324, H324, -⟩ := id AWW
    have hin324 : ¬ ((0 : Int32) < 0 ∨ cl324.slots.size ≤ ((0 : Int32)).toNatClampNeg) := inb_of S324 ⟨by decide, by decide⟩
    obtain ⟨T325, X325, e325, st325⟩ := getF X322 hx hZ hown (host := "") (Or.inl (own_hw hw 37 rfl)) Via.refl e322 Fp (g := (mkF m 16 #[sR a1, sR fa, sI 0, sR f0, sR g0, sU] [(.ref a1)])) rfl rfl (hb hby dp22_2_16)
    have P326 : Rg p e below (T325.setTop (mkF m 19 #[sR a1, sR fa, sI 0, sR f0, sR g0, sU] [(.ref P)])) B0 := fun t k => P323 t (by
      refine XS.iloadN X322.here hx rfl (hb hby dp22_2_11) rfl ?_
      show Sg p e below (T322.setTop (mkF m 12 #[sR a1, sR fa, sI 0, sR f0, sU, sU] [(.int (0 : Int32)), (.ref WW)])) _
      refine X322.aaload hx (j := (0 : Int32)) (v := (.ref g0)) (by rw [e322]; exact Ar324.1) (State.isArrayOf_alike hZ.alike Ar324.2.1) rfl Ar324.2.2 hin324 (H324.at hin324 rfl) (g := (mkF m 12 #[sR a1, sR fa, sI 0, sR f0, sU, sU] [(.int (0 : Int32)), (.ref WW)])) rfl rfl (hb hby dp22_2_12) _ ?_
      show Sg p e below (T322.setTop (mkF m 13 #[sR a1, sR fa, sI 0, sR f0, sU, sU] [(.ref g0)])) _
      refine XS.astore X322.here hx rfl (hb hby dp22_2_13) rfl rfl (l' := #[sR a1, sR fa, sI 0, sR f0, sR g0, sU]) rfl ?_
      refine XS.aloadN X322.here hx rfl (hb hby dp22_2_15) rfl rfl ?_
      show Sg p e below (T322.setTop (mkF m 16 #[sR a1, sR fa, sI 0, sR f0, sR g0, sU] [(.ref a1)])) _
      exact st325 _ k)
    obtain ⟨cl327, Ar327, -, S327, N327, -, -⟩ := id AP
    obtain ⟨cl328, Ar328, -, S328, N328, -, -⟩ := id Af
    obtain ⟨cl329, Ar329, -, S329, N329, -, -⟩ := id Af
    obtain ⟨T330, h330, k330, X330, e330, E330, A330, B330, st330⟩ := newPE X325 hx hZ (own_hw hw 10 rfl) e325 (g := (mkF m 28 #[sR a1, sR fa, sI 0, sR f0, sR g0, sU] [(.int (1 : Int32)), (.ref a1)])) rfl (hb hby dp22_2_28) rfl (by decide) (cap := 1) (by decide) (by decide) (by decide) (by decide) (ad := "[I") (by decide)
    obtain ⟨b330, g330⟩ : ∃ z, z = h0.size := ⟨_, rfl⟩
    rw [← g330] at A330 B330 st330
    have g_b330 : n0 ≤ b330 := Nat.le_trans Z0 (Nat.le_of_eq g330.symm)
    have sz_b330 : h0.size ≤ b330 := Nat.le_trans (Keep.refl h0 [a1]).1 (Nat.le_of_eq g330.symm)
    have P331 : Rg p e below (T330.setTop (mkF m 30 #[sR a1, sR fa, sI 0, sR f0, sR g0, sU] [(.ref b330), (.ref a1)])) B0 := fun t k => P326 t (by
      refine X325.arraylength hx (by rw [e325]; exact Ar327.1) (State.isArrayOf_alike hZ.alike Ar327.2.1) (g := (mkF m 19 #[sR a1, sR fa, sI 0, sR f0, sR g0, sU] [(.ref P)])) rfl rfl (hb hby dp22_2_19) _ ?_
      rw [len_of S327 N327]
      show Sg p e below (T325.setTop (mkF m 20 #[sR a1, sR fa, sI 0, sR f0, sR g0, sU] [(.int (0 : Int32))])) _
      refine XS.aloadN X325.here hx rfl (hb hby dp22_2_20) rfl rfl ?_
      show Sg p e below (T325.setTop (mkF m 21 #[sR a1, sR fa, sI 0, sR f0, sR g0, sU] [(.ref f0), (.int (0 : Int32))])) _
      refine X325.arraylength hx (by rw [e325]; exact Ar328.1) (State.isArrayOf_alike hZ.alike Ar328.2.1) (g := (mkF m 21 #[sR a1, sR fa, sI 0, sR f0, sR g0, sU] [(.ref f0), (.int (0 : Int32))])) rfl rfl (hb hby dp22_2_21) _ ?_
      rw [len_of S328 N328]
      show Sg p e below (T325.setTop (mkF m 22 #[sR a1, sR fa, sI 0, sR f0, sR g0, sU] [(.int (1 : Int32)), (.int (0 : Int32))])) _
      refine XS.icmpNo X325.here hx rfl (hb hby dp22_2_22) rfl (tlt (show (0 : Int32) < (1 : Int32) from (by decide))).2.1 ?_
      refine XS.aloadN X325.here hx rfl (hb hby dp22_2_25) rfl rfl ?_
      refine XS.aloadN X325.here hx rfl (hb hby dp22_2_26) rfl rfl ?_
      show Sg p e below (T325.setTop (mkF m 27 #[sR a1, sR fa, sI 0, sR f0, sR g0, sU] [(.ref f0), (.ref a1)])) _
      refine X325.arraylength hx (by rw [e325]; exact Ar329.1) (State.isArrayOf_alike hZ.alike Ar329.2.1) (g := (mkF m 27 #[sR a1, sR fa, sI 0, sR f0, sR g0, sU] [(.ref f0), (.ref a1)])) rfl rfl (hb hby dp22_2_27) _ ?_
      rw [len_of S329 N329]
      show Sg p e below (T325.setTop (mkF m 28 #[sR a1, sR fa, sI 0, sR f0, sR g0, sU] [(.int (1 : Int32)), (.ref a1)])) _
      exact st330 _ k)
    have Z332 : n0 ≤ h330.size := Nat.le_trans Z0 E330.1
    have K333 : Keep h0 h330 [a1] := (Keep.refl h0 [a1]).ext E330
    have v334 : Arv Z h330 b330 k330 .int (1 : Int32) [(.int (0 : Int32))] (.int (0 : Int32)) := (Arv.new A330 (by decide)).pad (pad_rep [] (.int (0 : Int32)) 1)
    have f335 := (Fp.ext E330)
    have f336 := (E1.ext E330)
    obtain ⟨T337, h337, X337, e337, W337, st337⟩ := putF X330 hx hZ hown (host := "") (Or.inl (own_hw hw 37 rfl)) Via.refl e330 f335 f336 (Or.inl (own_hw hw 38 rfl)) (own_hw hw 31 rfl) (ty := (.array .int)) (by decide) rfl rfl (g := (mkF m 30 #[sR a1, sR fa, sI 0, sR f0, sR g0, sU] [(.ref b330), (.ref a1)])) rfl rfl (hb hby dp22_2_30)
    have P338 : Rg p e below (T337.setTop (mkF m 33 #[sR a1, sR fa, sI 0, sR f0, sR g0, sU] [])) B0 := fun t k => P331 t (by
      exact st337 _ k)
    have f339 := f335.same W337
    have N340 := Fr.snoc X337 N0 g_a1
    have Z341 : n0 ≤ h337.size := Nat.le_trans Z332 (Keep.of_wr W337).1
    have K342 : Keep h0 h337 [a1] := K333.wr W337 (Or.inl (List.mem_of_getElem? (i := 0) rfl))
    have f343 := ((Af.ext E330).other W337 (Exa.ne EEf E1 (by decide)))
    obtain ⟨cl344, Ar344, -, S344, N344, -, -⟩ := id f343
    obtain ⟨T345, h345, k345, X345, e345, E345, A345, B345, st345⟩ := newPE X337 hx hZ (own_hw hw 28 rfl) e337 (g := (mkF m 36 #[sR a1, sR fa, sI 0, sR f0, sR g0, sU] [(.int (1 : Int32)), (.ref a1)])) rfl (hb hby dp22_2_36) rfl (by decide) (cap := 1) (by decide) (by decide) (by decide) (by decide) (ad := "[J") (by decide)
    obtain ⟨b345, g345⟩ : ∃ z, z = h337.size := ⟨_, rfl⟩
    rw [← g345] at A345 B345 st345
    have g_b345 : n0 ≤ b345 := Nat.le_trans Z341 (Nat.le_of_eq g345.symm)
    have sz_b345 : h0.size ≤ b345 := Nat.le_trans K342.1 (Nat.le_of_eq g345.symm)
    have P346 : Rg p e below (T345.setTop (mkF m 38 #[sR a1, sR fa, sI 0, sR f0, sR g0, sU] [(.ref b345), (.ref a1)])) B0 := fun t k => P338 t (by
      refine XS.aloadN X337.here hx rfl (hb hby dp22_2_33) rfl rfl ?_
      refine XS.aloadN X337.here hx rfl (hb hby dp22_2_34) rfl rfl ?_
      show Sg p e below (T337.setTop (mkF m 35 #[sR a1, sR fa, sI 0, sR f0, sR g0, sU] [(.ref f0), (.ref a1)])) _
      refine X337.arraylength hx (by rw [e337]; exact Ar344.1) (State.isArrayOf_alike hZ.alike Ar344.2.1) (g := (mkF m 35 #[sR a1, sR fa, sI 0, sR f0, sR g0, sU] [(.ref f0), (.ref a1)])) rfl rfl (hb hby dp22_2_35) _ ?_
      rw [len_of S344 N344]
      show Sg p e below (T337.setTop (mkF m 36 #[sR a1, sR fa, sI 0, sR f0, sR g0, sU] [(.int (1 : Int32)), (.ref a1)])) _
      exact st345 _ k)
    have Z347 : n0 ≤ h345.size := Nat.le_trans Z341 E345.1
    have K348 : Keep h0 h345 [a1] := K342.ext E345
    have v349 : Arv Z h345 b345 k345 .long (1 : Int32) [(.long (0 : Int64))] (.long (0 : Int64)) := (Arv.new A345 (by decide)).pad (pad_rep [] (.long (0 : Int64)) 1)
    have f350 := (((Fw.ext E330).other W337 (Or.inr (slot_ne (Or.inl (own_hw hw 40 rfl)) (Or.inl (own_hw hw 38 rfl)) (by decide) (t := (.array .long)) (t' := (.array .int)) (by decide) (by decide)))).ext E345)
    have f351 := ((f336.wr W337).ext E345)
    obtain ⟨T352, h352, X352, e352, W352, st352⟩ := putF X345 hx hZ hown (host := "") (Or.inl (own_hw hw 39 rfl)) Via.refl e345 f350 f351 (Or.inl (own_hw hw 40 rfl)) (own_hw hw 31 rfl) (ty := (.array .long)) (by decide) rfl rfl (g := (mkF m 38 #[sR a1, sR fa, sI 0, sR f0, sR g0, sU] [(.ref b345), (.ref a1)])) rfl rfl (hb hby dp22_2_38)
    have P353 : Rg p e below (T352.setTop (mkF m 41 #[sR a1, sR fa, sI 0, sR f0, sR g0, sU] [])) B0 := fun t k => P346 t (by
      exact st352 _ k)
    have f354 := f350.same W352
    have N355 := Fr.snoc X352 N340 g_a1
    have Z356 : n0 ≤ h352.size := Nat.le_trans Z347 (Keep.of_wr W352).1
    have K357 : Keep h0 h352 [a1] := K348.wr W352 (Or.inl (List.mem_of_getElem? (i := 0) rfl))
    have f358 := ((((Fc.ext E330).other W337 (Or.inr (slot_ne (Or.inl (own_hw hw 49 rfl)) (Or.inl (own_hw hw 38 rfl)) (by decide) (t := .int) (t' := (.array .int)) (by decide) (by decide)))).ext E345).other W352 (Or.inr (slot_ne (Or.inl (own_hw hw 49 rfl)) (Or.inl (own_hw hw 40 rfl)) (by decide) (t := .int) (t' := (.array .long)) (by decide) (by decide))))
    have f359 := (f351.wr W352)
    obtain ⟨T360, h360, X360, e360, W360, st360⟩ := putF X352 hx hZ hown (host := "") (Or.inl (own_hw hw 48 rfl)) Via.refl e352 f358 f359 (Or.inl (own_hw hw 49 rfl)) (own_hw hw 31 rfl) (ty := .int) (by decide) rfl rfl (g := (mkF m 43 #[sR a1, sR fa, sI 0, sR f0, sR g0, sU] [(.int (0 : Int32)), (.ref a1)])) rfl rfl (hb hby dp22_2_43)
    have P361 : Rg p e below (T360.setTop (mkF m 46 #[sR a1, sR fa, sI 0, sR f0, sR g0, sU] [])) B0 := fun t k => P353 t (by
      refine XS.aloadN X352.here hx rfl (hb hby dp22_2_41) rfl rfl ?_
      refine XS.iconst X352.here hx rfl (hb hby dp22_2_42) ?_
      show Sg p e below (T352.setTop (mkF m 43 #[sR a1, sR fa, sI 0, sR f0, sR g0, sU] [(.int (0 : Int32)), (.ref a1)])) _
      exact st360 _ k)
    have f362 := f358.same W360
    have N363 := Fr.snoc X360 N355 g_a1
    have Z364 : n0 ≤ h360.size := Nat.le_trans Z356 (Keep.of_wr W360).1
    have K365 : Keep h0 h360 [a1] := K357.wr W360 (Or.inl (List.mem_of_getElem? (i := 0) rfl))
    have f366 := (f359.wr W360)
    have f367 := ((((B330.wr W337).ext E345).wr W352).wr W360)
    have f368 := ((B345.wr W352).wr W360)
    have f369 := (((((EEg.ext E330).wr W337).ext E345).wr W352).wr W360)
    have f370 := (((f339.ext E345).other W352 (Or.inr (slot_ne (Or.inl (own_hw hw 38 rfl)) (Or.inl (own_hw hw 40 rfl)) (by decide) (t := (.array .int)) (t' := (.array .long)) (by decide) (by decide)))).other W360 (Or.inr (slot_ne (Or.inl (own_hw hw 38 rfl)) (Or.inl (own_hw hw 49 rfl)) (by decide) (t := (.array .int)) (t' := .int) (by decide) (by decide))))
    have f371 := (f354.other W360 (Or.inr (slot_ne (Or.inl (own_hw hw 40 rfl)) (Or.inl (own_hw hw 49 rfl)) (by decide) (t := (.array .long)) (t' := .int) (by decide) (by decide))))
    have f372 := (((f343.ext E345).other W352 (Exa.ne EEf E1 (by decide))).other W360 (Exa.ne EEf E1 (by decide)))
    have f373 := (((((Ag.ext E330).other W337 (Exa.ne EEg E1 (by decide))).ext E345).other W352 (Exa.ne EEg E1 (by decide))).other W360 (Exa.ne EEg E1 (by decide)))
    have f374 := ((((v334.other W337 (Ne.symm (Nat.ne_of_lt (Nat.lt_of_lt_of_le Fc.lt (Nat.le_of_eq g330.symm))))).ext E345).other W352 (Ne.symm (Nat.ne_of_lt (Nat.lt_of_lt_of_le Fc.lt (Nat.le_of_eq g330.symm))))).other W360 (Ne.symm (Nat.ne_of_lt (Nat.lt_of_lt_of_le Fc.lt (Nat.le_of_eq g330.symm)))))
    have f375 := ((v349.other W352 (Ne.symm (Nat.ne_of_lt (Nat.lt_of_lt_of_le f339.lt (Nat.le_of_eq g345.symm))))).other W360 (Ne.symm (Nat.ne_of_lt (Nat.lt_of_lt_of_le f339.lt (Nat.le_of_eq g345.symm)))))
    have P376 : Rg p e below (T360.setTop (mkF m 49 #[sR a1, sR fa, sI 0, sR f0, sR g0, sI 0] [])) B0 := fun t k => P361 t (by
      refine XS.iconst X360.here hx rfl (hb hby dp22_2_46) ?_
      refine XS.istore X360.here hx rfl (hb hby dp22_2_47) rfl (l' := #[sR a1, sR fa, sI 0, sR f0, sR g0, sI 0]) rfl ?_
      show Sg p e below (T360.setTop (mkF m 49 #[sR a1, sR fa, sI 0, sR f0, sR g0, sI 0] [])) _
      exact k)
    obtain ⟨T377, h377, L377, X377, e377, Nq377, K377, u377_0, u377_1, u377_2, u377_3, u377_4, st377⟩ := pc_cpt a1 fa f0 g0 b330 b345 kf kg k330 k345 (0 : Int32) (1 : Int32) (1 : Int32) (0 : Int32) (0 : Int32) x0 y0 [(.int x0)] [(.long y0)] [(.int (0 : Int32))] [(.long (0 : Int64))] 0 X360 hx hZ hw hby hml hown e360 N363 Z364 (Nat.le_of_ble_eq_true rfl) (Nat.le_of_ble_eq_true rfl) (by decide) (by decide) g_a1 g_b330 g_b345 f366 f367 f368 f369 f370 f371 f362 f372 f373 f374 f375 (by decide) ⟨by decide, by decide⟩ rfl rfl (hnz y0 (by simp)) ⟨by decide, by decide⟩ rfl (Nat.le_of_ble_eq_true rfl) (Nat.le_of_ble_eq_true rfl)
    have P378 : Rg p e below (T377.setTop (mkF m 49 #[sR a1, sR fa, sI 0, sR f0, sR g0, sI 1] [])) B0 := fun t k => P376 t (by
      exact st377 _ k)
    have Z379 : n0 ≤ h377.size := Nat.le_trans Z364 K377.1
    have K380 : Keep h0 h377 [a1] := K365.trans K377 ((allS (Or.inl (List.mem_of_getElem? (i := 0) rfl)) (allS (Or.inr sz_b330) (allS (Or.inr sz_b345) all0))))
    have AP377 : Arv Z h377 b330 k330 .int (1 : Int32) [(.int x0)] (.int (0 : Int32)) := u377_3
    have AW377 : Arv Z h377 b345 k345 .long (1 : Int32) [(.long y0)] (.long (0 : Int64)) := u377_4
    have f381 := (f372.keep K377 (ninS (Exa.ne EEf E1 (by decide)) (ninS (Nat.ne_of_lt (Nat.lt_of_lt_of_le Af.lt (Nat.le_of_eq g330.symm))) (ninS (Nat.ne_of_lt (Nat.lt_of_lt_of_le f343.lt (Nat.le_of_eq g345.symm))) nin0))))
    obtain ⟨cl382, Ar382, -, S382, N382, -, -⟩ := id f381
    have f383 := (f366.keep K377)
    have f384 := (f367.keep K377)
    have f385 := (f368.keep K377)
    obtain ⟨fs386, hr386, hrun386, hended386, hW386, hsame386⟩ := X377.leave (v := none) (fun _ => rfl)
    refine ⟨_, _, pre0 _ (P378 _ ?_), hrun386, hended386, _, _, rfl, ?_, ⟨⟨_, rfl⟩, hW386, hsame386.mono (Nat.le_of_ble_eq_true rfl) (Nat.le_of_ble_eq_true rfl)⟩⟩
    · show Sg p e below (T377.setTop (mkF m 49 #[sR a1, sR fa, sI 0, sR f0, sR g0, sI 1] [])) _
      refine XS.iload X377.here hx rfl (hb hby dp22_2_49) rfl ?_
      refine XS.aloadN X377.here hx rfl (hb hby dp22_2_51) rfl rfl ?_
      show Sg p e below (T377.setTop (mkF m 52 #[sR a1, sR fa, sI 0, sR f0, sR g0, sI 1] [(.ref f0), (.int (1 : Int32))])) _
      refine X377.arraylength hx (by rw [e377]; exact Ar382.1) (State.isArrayOf_alike hZ.alike Ar382.2.1) (g := (mkF m 52 #[sR a1, sR fa, sI 0, sR f0, sR g0, sI 1] [(.ref f0), (.int (1 : Int32))])) rfl rfl (hb hby dp22_2_52) _ ?_
      rw [len_of S382 N382]
      show Sg p e below (T377.setTop (mkF m 53 #[sR a1, sR fa, sI 0, sR f0, sR g0, sI 1] [(.int (1 : Int32)), (.int (1 : Int32))])) _
      refine XS.icmpYes X377.here hx rfl (pc0 := 53) (pc' := 106) rfl (hb hby dp22_2_53) rfl (flt (show ¬ ((1 : Int32) < (1 : Int32)) from (by decide))).2.1 (by decide) (by decide) ?_
      show Sg p e below (T377.setTop (mkF m 106 #[sR a1, sR fa, sI 0, sR f0, sR g0, sI 1] [])) _
      exact X377.returnOut hx Bd.returns (hb hby dp22_2_106) hr386
    · show Q_stf Z a1 (1 : Int32) [x0] [y0] h0 n0 _ T377.heap _
      rw [e377]
      exact ⟨rfl, Nq377, K380, f383, u377_2, b330, b345, _, _, u377_0, u377_1, AP377, AW377, f384, f385, sz_b330, sz_b345⟩
  · skip
    obtain ⟨y0, y1, rfl⟩ := own_len2 hwl
    have hN' : N = (2 : Int32) := hN
    subst hN'
    obtain ⟨T387, X387, e387, st387⟩ := getF X0 hx hZ hown (Or.inr (own_hw hw 46 rfl)) Via.refl e0 Ffp (g := (mkF m 1 #[sR a1, sR fa, sI 0, sU, sU, sU] [(.ref fa)])) rfl rfl (hb hby dp22_2_1)
    have P388 : Rg p e below (T387.setTop (mkF m 4 #[sR a1, sR fa, sI 0, sU, sU, sU] [(.ref PP)])) B0 := fun t k => P0 t (by
      refine XS.aloadN X0.here hx rfl (hb hby dp22_2_0) rfl rfl ?_
      show Sg p e below (s₁.setTop (mkF m 1 #[sR a1, sR fa, sI 0, sU, sU, sU] [(.ref fa)])) _
      exact st387 _ k)
    obtain ⟨cl389, Ar389, -, S389, N389, H389, -⟩ := id APP
    have hin389 : ¬ ((0 : Int32) < 0 ∨ cl389.slots.size ≤ ((0 : Int32)).toNatClampNeg) := inb_of S389 ⟨by decide, by decide⟩
    obtain ⟨T390, X390, e390, st390⟩ := getF X387 hx hZ hown (Or.inr (own_hw hw 47 rfl)) Via.refl e387 Ffw (g := (mkF m 8 #[sR a1, sR fa, sI 0, sR f0, sU, sU] [(.ref fa)])) rfl rfl (hb hby dp22_2_8)
    have P391 : Rg p e below (T390.setTop (mkF m 11 #[sR a1, sR fa, sI 0, sR f0, sU, sU] [(.ref WW)])) B0 := fun t k => P388 t (by
      refine XS.iloadN X387.here hx rfl (hb hby dp22_2_4) rfl ?_
      show Sg p e below (T387.setTop (mkF m 5 #[sR a1, sR fa, sI 0, sU, sU, sU] [(.int (0 : Int32)), (.ref PP)])) _
      refine X387.aaload hx (j := (0 : Int32)) (v := (.ref f0)) (by rw [e387]; exact Ar389.1) (State.isArrayOf_alike hZ.alike Ar389.2.1) rfl Ar389.2.2 hin389 (H389.at hin389 rfl) (g := (mkF m 5 #[sR a1, sR fa, sI 0, sU, sU, sU] [(.int (0 : Int32)), (.ref PP)])) rfl rfl (hb hby dp22_2_5) _ ?_
      show Sg p e below (T387.setTop (mkF m 6 #[sR a1, sR fa, sI 0, sU, sU, sU] [(.ref f0)])) _
      refine XS.astoreN X387.here hx rfl (hb hby dp22_2_6) rfl rfl (l' := #[sR a1, sR fa, sI 0, sR f0, sU, sU]) rfl ?_
      refine XS.aloadN X387.here hx rfl (hb hby dp22_2_7) rfl rfl ?_
      show Sg p e below (T387.setTop (mkF m 8 #[sR a1, sR fa, sI 0, sR f0, sU, sU] [(.ref fa)])) _
      exact st390 _ k)
    obtain ⟨cl392, Ar392, -, S392, N392, H392, -⟩ := id AWW
    have hin392 : ¬ ((0 : Int32) < 0 ∨ cl392.slots.size ≤ ((0 : Int32)).toNatClampNeg) := inb_of S392 ⟨by decide, by decide⟩
    obtain ⟨T393, X393, e393, st393⟩ := getF X390 hx hZ hown (host := "") (Or.inl (own_hw hw 37 rfl)) Via.refl e390 Fp (g := (mkF m 16 #[sR a1, sR fa, sI 0, sR f0, sR g0, sU] [(.ref a1)])) rfl rfl (hb hby dp22_2_16)
    have P394 : Rg p e below (T393.setTop (mkF m 19 #[sR a1, sR fa, sI 0, sR f0, sR g0, sU] [(.ref P)])) B0 := fun t k => P391 t (by
      refine XS.iloadN X390.here hx rfl (hb hby dp22_2_11) rfl ?_
      show Sg p e below (T390.setTop (mkF m 12 #[sR a1, sR fa, sI 0, sR f0, sU, sU] [(.int (0 : Int32)), (.ref WW)])) _
      refine X390.aaload hx (j := (0 : Int32)) (v := (.ref g0)) (by rw [e390]; exact Ar392.1) (State.isArrayOf_alike hZ.alike Ar392.2.1) rfl Ar392.2.2 hin392 (H392.at hin392 rfl) (g := (mkF m 12 #[sR a1, sR fa, sI 0, sR f0, sU, sU] [(.int (0 : Int32)), (.ref WW)])) rfl rfl (hb hby dp22_2_12) _ ?_
      show Sg p e below (T390.setTop (mkF m 13 #[sR a1, sR fa, sI 0, sR f0, sU, sU] [(.ref g0)])) _
      refine XS.astore X390.here hx rfl (hb hby dp22_2_13) rfl rfl (l' := #[sR a1, sR fa, sI 0, sR f0, sR g0, sU]) rfl ?_
      refine XS.aloadN X390.here hx rfl (hb hby dp22_2_15) rfl rfl ?_
      show Sg p e below (T390.setTop (mkF m 16 #[sR a1, sR fa, sI 0, sR f0, sR g0, sU] [(.ref a1)])) _
      exact st393 _ k)
    obtain ⟨cl395, Ar395, -, S395, N395, -, -⟩ := id AP
    obtain ⟨cl396, Ar396, -, S396, N396, -, -⟩ := id Af
    obtain ⟨cl397, Ar397, -, S397, N397, -, -⟩ := id Af
    obtain ⟨T398, h398, k398, X398, e398, E398, A398, B398, st398⟩ := newPE X393 hx hZ (own_hw hw 10 rfl) e393 (g := (mkF m 28 #[sR a1, sR fa, sI 0, sR f0, sR g0, sU] [(.int (2 : Int32)), (.ref a1)])) rfl (hb hby dp22_2_28) rfl (by decide) (cap := 2) (by decide) (by decide) (by decide) (by decide) (ad := "[I") (by decide)
    obtain ⟨b398, g398⟩ : ∃ z, z = h0.size := ⟨_, rfl⟩
    rw [← g398] at A398 B398 st398
    have g_b398 : n0 ≤ b398 := Nat.le_trans Z0 (Nat.le_of_eq g398.symm)
    have sz_b398 : h0.size ≤ b398 := Nat.le_trans (Keep.refl h0 [a1]).1 (Nat.le_of_eq g398.symm)
    have P399 : Rg p e below (T398.setTop (mkF m 30 #[sR a1, sR fa, sI 0, sR f0, sR g0, sU] [(.ref b398), (.ref a1)])) B0 := fun t k => P394 t (by
      refine X393.arraylength hx (by rw [e393]; exact Ar395.1) (State.isArrayOf_alike hZ.alike Ar395.2.1) (g := (mkF m 19 #[sR a1, sR fa, sI 0, sR f0, sR g0, sU] [(.ref P)])) rfl rfl (hb hby dp22_2_19) _ ?_
      rw [len_of S395 N395]
      show Sg p e below (T393.setTop (mkF m 20 #[sR a1, sR fa, sI 0, sR f0, sR g0, sU] [(.int (0 : Int32))])) _
      refine XS.aloadN X393.here hx rfl (hb hby dp22_2_20) rfl rfl ?_
      show Sg p e below (T393.setTop (mkF m 21 #[sR a1, sR fa, sI 0, sR f0, sR g0, sU] [(.ref f0), (.int (0 : Int32))])) _
      refine X393.arraylength hx (by rw [e393]; exact Ar396.1) (State.isArrayOf_alike hZ.alike Ar396.2.1) (g := (mkF m 21 #[sR a1, sR fa, sI 0, sR f0, sR g0, sU] [(.ref f0), (.int (0 : Int32))])) rfl rfl (hb hby dp22_2_21) _ ?_
      rw [len_of S396 N396]
      show Sg p e below (T393.setTop (mkF m 22 #[sR a1, sR fa, sI 0, sR f0, sR g0, sU] [(.int (2 : Int32)), (.int (0 : Int32))])) _
      refine XS.icmpNo X393.here hx rfl (hb hby dp22_2_22) rfl (tlt (show (0 : Int32) < (2 : Int32) from (by decide))).2.1 ?_
      refine XS.aloadN X393.here hx rfl (hb hby dp22_2_25) rfl rfl ?_
      refine XS.aloadN X393.here hx rfl (hb hby dp22_2_26) rfl rfl ?_
      show Sg p e below (T393.setTop (mkF m 27 #[sR a1, sR fa, sI 0, sR f0, sR g0, sU] [(.ref f0), (.ref a1)])) _
      refine X393.arraylength hx (by rw [e393]; exact Ar397.1) (State.isArrayOf_alike hZ.alike Ar397.2.1) (g := (mkF m 27 #[sR a1, sR fa, sI 0, sR f0, sR g0, sU] [(.ref f0), (.ref a1)])) rfl rfl (hb hby dp22_2_27) _ ?_
      rw [len_of S397 N397]
      show Sg p e below (T393.setTop (mkF m 28 #[sR a1, sR fa, sI 0, sR f0, sR g0, sU] [(.int (2 : Int32)), (.ref a1)])) _
      exact st398 _ k)
    have Z400 : n0 ≤ h398.size := Nat.le_trans Z0 E398.1
    have K401 : Keep h0 h398 [a1] := (Keep.refl h0 [a1]).ext E398
    have v402 : Arv Z h398 b398 k398 .int (2 : Int32) [(.int (0 : Int32)), (.int (0 : Int32))] (.int (0 : Int32)) := (Arv.new A398 (by decide)).pad (pad_rep [] (.int (0 : Int32)) 2)
    have f403 := (Fp.ext E398)
    have f404 := (E1.ext E398)
    obtain ⟨T405, h405, X405, e405, W405, st405⟩ := putF X398 hx hZ hown (host := "") (Or.inl (own_hw hw 37 rfl)) Via.refl e398 f403 f404 (Or.inl (own_hw hw 38 rfl)) (own_hw hw 31 rfl) (ty := (.array .int)) (by decide) rfl rfl (g := (mkF m 30 #[sR a1, sR fa, sI 0, sR f0, sR g0, sU] [(.ref b398), (.ref a1)])) rfl rfl (hb hby dp22_2_30)
    have P406 : Rg p e below (T405.setTop (mkF m 33 #[sR a1, sR fa, sI 0, sR f0, sR g0, sU] [])) B0 := fun t k => P399 t (by
      exact st405 _ k)
    have f407 := f403.same W405
    have N408 := Fr.snoc X405 N0 g_a1
    have Z409 : n0 ≤ h405.size := Nat.le_trans Z400 (Keep.of_wr W405).1
    have K410 : Keep h0 h405 [a1] := K401.wr W405 (Or.inl (List.mem_of_getElem? (i := 0) rfl))
    have f411 := ((Af.ext E398).other W405 (Exa.ne EEf E1 (by decide)))
    obtain ⟨cl412, Ar412, -, S412, N412, -, -⟩ := id f411
    obtain ⟨T413, h413, k413, X413, e413, E413, A413, B413, st413⟩ := newPE X405 hx hZ (own_hw hw 28 rfl) e405 (g := (mkF m 36 #[sR a1, sR fa, sI 0, sR f0, sR g0, sU] [(.int (2 : Int32)), (.ref a1)])) rfl (hb hby dp22_2_36) rfl (by decide) (cap := 2) (by decide) (by decide) (by decide) (by decide) (ad := "[J") (by decide)
    obtain ⟨b413, g413⟩ : ∃ z, z = h405.size := ⟨_, rfl⟩
    rw [← g413] at A413 B413 st413
    have g_b413 : n0 ≤ b413 := Nat.le_trans Z409 (Nat.le_of_eq g413.symm)
    have sz_b413 : h0.size ≤ b413 := Nat.le_trans K410.1 (Nat.le_of_eq g413.symm)
    have P414 : Rg p e below (T413.setTop (mkF m 38 #[sR a1, sR fa, sI 0, sR f0, sR g0, sU] [(.ref b413), (.ref a1)])) B0 := fun t k => P406 t (by
      refine XS.aloadN X405.here hx rfl (hb hby dp22_2_33) rfl rfl ?_
      refine XS.aloadN X405.here hx rfl (hb hby dp22_2_34) rfl rfl ?_
      show Sg p e below (T405.setTop (mkF m 35 #[sR a1, sR fa, sI 0, sR f0, sR g0, sU] [(.ref f0), (.ref a1)])) _
      refine X405.arraylength hx (by rw [e405]; exact Ar412.1) (State.isArrayOf_alike hZ.alike Ar412.2.1) (g := (mkF m 35 #[sR a1, sR fa, sI 0, sR f0, sR g0, sU] [(.ref f0), (.ref a1)])) rfl rfl (hb hby dp22_2_35) _ ?_
      rw [len_of S412 N412]
      show Sg p e below (T405.setTop (mkF m 36 #[sR a1, sR fa, sI 0, sR f0, sR g0, sU] [(.int (2 : Int32)), (.ref a1)])) _
      exact st413 _ k)
    have Z415 : n0 ≤ h413.size := Nat.le_trans Z409 E413.1
    have K416 : Keep h0 h413 [a1] := K410.ext E413
    have v417 : Arv Z h413 b413 k413 .long (2 : Int32) [(.long (0 : Int64)), (.long (0 : Int64))] (.long (0 : Int64)) := (Arv.new A413 (by decide)).pad (pad_rep [] (.long (0 : Int64)) 2)
    have f418 := (((Fw.ext E398).other W405 (Or.inr (slot_ne (Or.inl (own_hw hw 40 rfl)) (Or.inl (own_hw hw 38 rfl)) (by decide) (t := (.array .long)) (t' := (.array .int)) (by decide) (by decide)))).ext E413)
    have f419 := ((f404.wr W405).ext E413)
    obtain ⟨T420, h420, X420, e420, W420, st420⟩ := putF X413 hx hZ hown (host := "") (Or.inl (own_hw hw 39 rfl)) Via.refl e413 f418 f419 (Or.inl (own_hw hw 40 rfl)) (own_hw hw 31 rfl) (ty := (.array .long)) (by decide) rfl rfl (g := (mkF m 38 #[sR a1, sR fa, sI 0, sR f0, sR g0, sU] [(.ref b413), (.ref a1)])) rfl rfl (hb hby dp22_2_38)
    have P421 : Rg p e below (T420.setTop (mkF m 41 #[sR a1, sR fa, sI 0, sR f0, sR g0, sU] [])) B0 := fun t k => P414 t (by
      exact st420 _ k)
    have f422 := f418.same W420
    have N423 := Fr.snoc X420 N408 g_a1
    have Z424 : n0 ≤ h420.size := Nat.le_trans Z415 (Keep.of_wr W420).1
    have K425 : Keep h0 h420 [a1] := K416.wr W420 (Or.inl (List.mem_of_getElem? (i := 0) rfl))
    have f426 := ((((Fc.ext E398).other W405 (Or.inr (slot_ne (Or.inl (own_hw hw 49 rfl)) (Or.inl (own_hw hw 38 rfl)) (by decide) (t := .int) (t' := (.array .int)) (by decide) (by decide)))).ext E413).other W420 (Or.inr (slot_ne (Or.inl (own_hw hw 49 rfl)) (Or.inl (own_hw hw 40 rfl)) (by decide) (t := .int) (t' := (.array .long)) (by decide) (by decide))))
    have f427 := (f419.wr W420)
    obtain ⟨T428, h428, X428, e428, W428, st428⟩ := putF X420 hx hZ hown (host := "") (Or.inl (own_hw hw 48 rfl)) Via.refl e420 f426 f427 (Or.inl (own_hw hw 49 rfl)) (own_hw hw 31 rfl) (ty := .int) (by decide) rfl rfl (g := (mkF m 43 #[sR a1, sR fa, sI 0, sR f0, sR g0, sU] [(.int (0 : Int32)), (.ref a1)])) rfl rfl (hb hby dp22_2_43)
    have P429 : Rg p e below (T428.setTop (mkF m 46 #[sR a1, sR fa, sI 0, sR f0, sR g0, sU] [])) B0 := fun t k => P421 t (by
      refine XS.aloadN X420.here hx rfl (hb hby dp22_2_41) rfl rfl ?_
      refine XS.iconst X420.here hx rfl (hb hby dp22_2_42) ?_
      show Sg p e below (T420.setTop (mkF m 43 #[sR a1, sR fa, sI 0, sR f0, sR g0, sU] [(.int (0 : Int32)), (.ref a1)])) _
      exact st428 _ k)
    have f430 := f426.same W428
    have N431 := Fr.snoc X428 N423 g_a1
    have Z432 : n0 ≤ h428.size := Nat.le_trans Z424 (Keep.of_wr W428).1
    have K433 : Keep h0 h428 [a1] := K425.wr W428 (Or.inl (List.mem_of_getElem? (i := 0) rfl))
    have f434 := (f427.wr W428)
    have f435 := ((((B398.wr W405).ext E413).wr W420).wr W428)
    have f436 := ((B413.wr W420).wr W428)
    have f437 := (((((EEg.ext E398).wr W405).ext E413).wr W420).wr W428)
    have f438 := (((f407.ext E413).other W420 (Or.inr (slot_ne (Or.inl (own_hw hw 38 rfl)) (Or.inl (own_hw hw 40 rfl)) (by decide) (t := (.array .int)) (t' := (.array .long)) (by decide) (by decide)))).other W428 (Or.inr (slot_ne (Or.inl (own_hw hw 38 rfl)) (Or.inl (own_hw hw 49 rfl)) (by decide) (t := (.array .int)) (t' := .int) (by decide) (by decide))))
    have f439 := (f422.other W428 (Or.inr (slot_ne (Or.inl (own_hw hw 40 rfl)) (Or.inl (own_hw hw 49 rfl)) (by decide) (t := (.array .long)) (t' := .int) (by decide) (by decide))))
    have f440 := (((f411.ext E413).other W420 (Exa.ne EEf E1 (by decide))).other W428 (Exa.ne EEf E1 (by decide)))
    have f441 := (((((Ag.ext E398).other W405 (Exa.ne EEg E1 (by decide))).ext E413).other W420 (Exa.ne EEg E1 (by decide))).other W428 (Exa.ne EEg E1 (by decide)))
    have f442 := ((((v402.other W405 (Ne.symm (Nat.ne_of_lt (Nat.lt_of_lt_of_le Fc.lt (Nat.le_of_eq g398.symm))))).ext E413).other W420 (Ne.symm (Nat.ne_of_lt (Nat.lt_of_lt_of_le Fc.lt (Nat.le_of_eq g398.symm))))).other W428 (Ne.symm (Nat.ne_of_lt (Nat.lt_of_lt_of_le Fc.lt (Nat.le_of_eq g398.symm)))))
    have f443 := ((v417.other W420 (Ne.symm (Nat.ne_of_lt (Nat.lt_of_lt_of_le f407.lt (Nat.le_of_eq g413.symm))))).other W428 (Ne.symm (Nat.ne_of_lt (Nat.lt_of_lt_of_le f407.lt (Nat.le_of_eq g413.symm)))))
    have P444 : Rg p e below (T428.setTop (mkF m 49 #[sR a1, sR fa, sI 0, sR f0, sR g0, sI 0] [])) B0 := fun t k => P429 t (by
      refine XS.iconst X428.here hx rfl (hb hby dp22_2_46) ?_
      refine XS.istore X428.here hx rfl (hb hby dp22_2_47) rfl (l' := #[sR a1, sR fa, sI 0, sR f0, sR g0, sI 0]) rfl ?_
      show Sg p e below (T428.setTop (mkF m 49 #[sR a1, sR fa, sI 0, sR f0, sR g0, sI 0] [])) _
      exact k)
    obtain ⟨T445, h445, L445, X445, e445, Nq445, K445, u445_0, u445_1, u445_2, u445_3, u445_4, st445⟩ := pc_cpt a1 fa f0 g0 b398 b413 kf kg k398 k413 (0 : Int32) (2 : Int32) (2 : Int32) (0 : Int32) (0 : Int32) x0 y0 [(.int x0), (.int x1)] [(.long y0), (.long y1)] [(.int (0 : Int32)), (.int (0 : Int32))] [(.long (0 : Int64)), (.long (0 : Int64))] 0 X428 hx hZ hw hby hml hown e428 N431 Z432 (Nat.le_of_ble_eq_true rfl) (Nat.le_of_ble_eq_true rfl) (by decide) (by decide) g_a1 g_b398 g_b413 f434 f435 f436 f437 f438 f439 f430 f440 f441 f442 f443 (by decide) ⟨by decide, by decide⟩ rfl rfl (hnz y0 (by simp)) ⟨by decide, by decide⟩ rfl (Nat.le_of_ble_eq_true rfl) (Nat.le_of_ble_eq_true rfl)
    have P446 : Rg p e below (T445.setTop (mkF m 49 #[sR a1, sR fa, sI 0, sR f0, sR g0, sI 1] [])) B0 := fun t k => P444 t (by
      exact st445 _ k)
    have Z447 : n0 ≤ h445.size := Nat.le_trans Z432 K445.1
    have K448 : Keep h0 h445 [a1] := K433.trans K445 ((allS (Or.inl (List.mem_of_getElem? (i := 0) rfl)) (allS (Or.inr sz_b398) (allS (Or.inr sz_b413) all0))))
    have AP445 : Arv Z h445 b398 k398 .int (2 : Int32) [(.int x0), (.int (0 : Int32))] (.int (0 : Int32)) := u445_3
    have AW445 : Arv Z h445 b413 k413 .long (2 : Int32) [(.long y0), (.long (0 : Int64))] (.long (0 : Int64)) := u445_4
    have f449 := (f434.keep K445)
    have f450 := (f435.keep K445)
    have f451 := (f436.keep K445)
    have f452 := (f437.keep K445)
    have f453 := (f440.keep K445 (ninS (Exa.ne EEf E1 (by decide)) (ninS (Nat.ne_of_lt (Nat.lt_of_lt_of_le Af.lt (Nat.le_of_eq g398.symm))) (ninS (Nat.ne_of_lt (Nat.lt_of_lt_of_le f411.lt (Nat.le_of_eq g413.symm))) nin0))))
    have f454 := (f441.keep K445 (ninS (Exa.ne EEg E1 (by decide)) (ninS (Nat.ne_of_lt (Nat.lt_of_lt_of_le Ag.lt (Nat.le_of_eq g398.symm))) (ninS (Nat.ne_of_lt (Nat.lt_of_lt_of_le ((Ag.ext E398).other W405 (Exa.ne EEg E1 (by decide))).lt (Nat.le_of_eq g413.symm))) nin0))))
    obtain ⟨T455, h455, L455, X455, e455, Nq455, K455, u455_0, u455_1, u455_2, u455_3, u455_4, st455⟩ := pc_cpt a1 fa f0 g0 b398 b413 kf kg k398 k413 (0 : Int32) (2 : Int32) (2 : Int32) (1 : Int32) (1 : Int32) x1 y1 [(.int x0), (.int x1)] [(.long y0), (.long y1)] [(.int x0), (.int (0 : Int32))] [(.long y0), (.long (0 : Int64))] 1 X445 hx hZ hw hby hml hown e445 Nq445 Z447 (Nat.le_of_ble_eq_true rfl) (Nat.le_of_ble_eq_true rfl) (by decide) (by decide) g_a1 g_b398 g_b413 f449 f450 f451 f452 u445_0 u445_1 u445_2 f453 f454 AP445 AW445 (by decide) ⟨by decide, by decide⟩ rfl rfl (hnz y1 (by simp)) ⟨by decide, by decide⟩ rfl (Nat.le_of_ble_eq_true rfl) (Nat.le_of_ble_eq_true rfl)
    have P456 : Rg p e below (T455.setTop (mkF m 49 #[sR a1, sR fa, sI 0, sR f0, sR g0, sI 2] [])) B0 := fun t k => P446 t (by
      exact st455 _ k)
    have Z457 : n0 ≤ h455.size := Nat.le_trans Z447 K455.1
    have K458 : Keep h0 h455 [a1] := K448.trans K455 ((allS (Or.inl (List.mem_of_getElem? (i := 0) rfl)) (allS (Or.inr sz_b398) (allS (Or.inr sz_b413) all0))))
    have AP455 : Arv Z h455 b398 k398 .int (2 : Int32) [(.int x0), (.int x1)] (.int (0 : Int32)) := u455_3
    have AW455 : Arv Z h455 b413 k413 .long (2 : Int32) [(.long y0), (.long y1)] (.long (0 : Int64)) := u455_4
    have f459 := (f453.keep K455 (ninS (Exa.ne EEf E1 (by decide)) (ninS (Nat.ne_of_lt (Nat.lt_of_lt_of_le Af.lt (Nat.le_of_eq g398.symm))) (ninS (Nat.ne_of_lt (Nat.lt_of_lt_of_le f411.lt (Nat.le_of_eq g413.symm))) nin0))))
    obtain ⟨cl460, Ar460, -, S460, N460, -, -⟩ := id f459
    have f461 := (f449.keep K455)
    have f462 := (f450.keep K455)
    have f463 := (f451.keep K455)
    obtain ⟨fs464, hr464, hrun464, hended464, hW464, hsame464⟩ := X455.leave (v := none) (fun _ => rfl)
    refine ⟨_, _, pre0 _ (P456 _ ?_), hrun464, hended464, _, _, rfl, ?_, ⟨⟨_, rfl⟩, hW464, hsame464.mono (Nat.le_of_ble_eq_true rfl) (Nat.le_of_ble_eq_true rfl)⟩⟩
    · show Sg p e below (T455.setTop (mkF m 49 #[sR a1, sR fa, sI 0, sR f0, sR g0, sI 2] [])) _
      refine XS.iload X455.here hx rfl (hb hby dp22_2_49) rfl ?_
      refine XS.aloadN X455.here hx rfl (hb hby dp22_2_51) rfl rfl ?_
      show Sg p e below (T455.setTop (mkF m 52 #[sR a1, sR fa, sI 0, sR f0, sR g0, sI 2] [(.ref f0), (.int (2 : Int32))])) _
      refine X455.arraylength hx (by rw [e455]; exact Ar460.1) (State.isArrayOf_alike hZ.alike Ar460.2.1) (g := (mkF m 52 #[sR a1, sR fa, sI 0, sR f0, sR g0, sI 2] [(.ref f0), (.int (2 : Int32))])) rfl rfl (hb hby dp22_2_52) _ ?_
      rw [len_of S460 N460]
      show Sg p e below (T455.setTop (mkF m 53 #[sR a1, sR fa, sI 0, sR f0, sR g0, sI 2] [(.int (2 : Int32)), (.int (2 : Int32))])) _
      refine XS.icmpYes X455.here hx rfl (pc0 := 53) (pc' := 106) rfl (hb hby dp22_2_53) rfl (flt (show ¬ ((2 : Int32) < (2 : Int32)) from (by decide))).2.1 (by decide) (by decide) ?_
      show Sg p e below (T455.setTop (mkF m 106 #[sR a1, sR fa, sI 0, sR f0, sR g0, sI 2] [])) _
      exact X455.returnOut hx Bd.returns (hb hby dp22_2_106) hr464
    · show Q_stf Z a1 (2 : Int32) [x0, x1] [y0, y1] h0 n0 _ T455.heap _
      rw [e455]
      exact ⟨rfl, Nq455, K458, f461, u455_2, b398, b413, _, _, u455_0, u455_1, AP455, AW455, f462, f463, sz_b398, sz_b413⟩
  · exact absurd hpl (by simp)
theorem dp22_1_0 : decode prog_22_method_1_code 0 = .ok (.aload_n 0, 1) := by decide +kernel
theorem dp22_1_1 : decode prog_22_method_1_code 1 = .ok (.invokespecial 1, 3) := by decide +kernel
theorem dp22_1_4 : decode prog_22_method_1_code 4 = .ok (.aload_n 0, 1) := by decide +kernel
theorem dp22_1_5 : decode prog_22_method_1_code 5 = .ok (.iconst 0, 1) := by decide +kernel
theorem dp22_1_6 : decode prog_22_method_1_code 6 = .ok (.newarray .int, 2) := by decide +kernel
theorem dp22_1_8 : decode prog_22_method_1_code 8 = .ok (.putfield 7, 3) := by decide +kernel
theorem dp22_1_11 : decode prog_22_method_1_code 11 = .ok (.aload_n 0, 1) := by decide +kernel
theorem dp22_1_12 : decode prog_22_method_1_code 12 = .ok (.iconst 0, 1) := by decide +kernel
theorem dp22_1_13 : decode prog_22_method_1_code 13 = .ok (.newarray .long, 2) := by decide +kernel
theorem dp22_1_15 : decode prog_22_method_1_code 15 = .ok (.putfield 13, 3) := by decide +kernel
theorem dp22_1_18 : decode prog_22_method_1_code 18 = .ok (.return_, 1) := by decide +kernel
theorem ef_meInit (m : MethodId) (x0 : Addr) : entryFrame m #[(.ref x0)] 1 = mkF m 0 #[sR x0] [] := by (first | (simp [entryFrame, mkF, argsToLocals, Value.category]; done) | rfl)
def Q_meInit (Z : State) (a1 : Addr) (h0 : Heap) (n0 : Nat) (v : Option Value) (h : Heap) (L : List Loc) : Prop := v = none ∧ Fr n0 L ∧ Keep h0 h [a1] ∧ Exa Z h a1 sM ∧ Fld Z h a1 sM "count" "I" (.int (0 : Int32)) ∧ ∃ (P W : Addr) (k k2 : ClassId), Fld Z h a1 sM "places" "[I" (.ref P) ∧ Fld Z h a1 sM "words" "[J" (.ref W) ∧ Arv Z h P k .int (0 : Int32) ([] : List Value) (.int (0 : Int32)) ∧ Arv Z h W k2 .long (0 : Int32) ([] : List Value) (.long (0 : Int64)) ∧ Exa Z h P "[I" ∧ Exa Z h W "[J" ∧ h0.size ≤ P ∧ h0.size ≤ W
set_option maxRecDepth 65536 in
set_option maxHeartbeats 40000000 in
theorem rm_meInit (l : Launch) (Z : State) (a0 : Array Value) (hw : ∀ d ∈ tables_1, d.before a0 Z = true) (ws : List Jvm.Cond) (a1 : Addr) (h0 : Heap) (n0 : Nat) (Z0 : n0 ≤ h0.size) (g_a1 : n0 ≤ a1) (E1 : Exa Z h0 a1 sM) (Fp : Fld Z h0 a1 sM "places" "[I" .null) (Fw : Fld Z h0 a1 sM "words" "[J" .null) (Fc : Fld Z h0 a1 sM "count" "I" (.int (0 : Int32))) :
    MetFree l (⟨"com/example/whittle/whittle/engine/WordSets$Meet", "<init>", "()V"⟩ : MethodName) (head1 (Jvm.Cond.code (⟨"com/example/whittle/whittle/engine/WordSets$Meet", "<init>", "()V"⟩ : MethodName) prog_22_method_1_code 1 none :: ws) ({ frames := 1, cells := 2, slots := 0, locals := 12 } : Room)) (fun a U => a = #[(.ref a1)] ∧ Z.Warmed39 U.vm ∧ U.heap = h0) (fun _ _ _ _ _ => True) (fun _ U o U' => ∃ v L, o = .returned v ∧ Q_meInit Z a1 h0 n0 v U'.heap L ∧ FrameEnd U o U' L ({ frames := 1, cells := 2, slots := 0, locals := 12 } : Room).cells ({ frames := 1, cells := 2, slots := 0, locals := 12 } : Room).slots) := by
  refine MetFree.of_bodySF (plainFor_of_name pn_com_example_whittle_whittle_engine_WordSets_Meet) hisR ?_
  intro p e s m args below meth c s₁ Bd hml0 hP hK
  obtain ⟨rfl, hZ, hh⟩ := hP
  have hx := Bd.exec
  have hby := Bd.bytes
  have hml : c.maxLocals = 1 := hml0
  have hown : s.vm.findClass "com/example/whittle/whittle/engine/WordSets$Meet" = some m.cls := findClass_of_methodNamed Bd.named
  have hnm := (name_of_methodNamed Bd.named Bd.method).1
  have X0 : Stand p l e ({ frames := 1, cells := 2, slots := 0, locals := 12 } : Room) s m #[(.ref a1)] below meth c s₁ [] 0 0 := Stand.of_body Bd
  have e0 : s₁.heap = h0 := by rw [← hh, Bd.state]; rfl
  have N0 := Fr.nil n0
  have pre0 : ∀ t, Sg p e below (s₁.setTop (mkF m 0 #[sR a1] [])) t → Steps p.tables e below (s₁.setTop (entryFrame m #[(.ref a1)] 1)) t := fun t k => castTop (ef_meInit m a1) k
  have P0 : ∀ t, Sg p e below (s₁.setTop (mkF m 0 #[sR a1] [])) t → Sg p e below (s₁.setTop (mkF m 0 #[sR a1] [])) t := fun t k => k
  obtain ⟨B0, pre0, P0⟩ : ∃ B : State, (∀ t, Steps p.tables e below B t → Steps p.tables e below (s₁.setTop (entryFrame m #[(.ref a1)] 1)) t) ∧ Rg p e below (s₁.setTop (mkF m 0 #[sR a1] [])) B := ⟨_, pre0, P0⟩
  obtain ⟨T465, X465, e465, st465⟩ := initO X0 hx hZ hown (own_hw hw 36 rfl) (own_hw hw 19 rfl) (own_hw hw 20 rfl) e0 (g := (mkF m 1 #[sR a1] [(.ref a1)])) rfl (by rw [hml]; rfl) rfl (hb hby dp22_1_1) (by decide) (W := 0) (by show 2 * 0 + _ ≤ _; exact Nat.le_of_eq rfl) (by decide)
  have P466 : Rg p e below (T465.setTop (mkF m 4 #[sR a1] [])) B0 := fun t k => P0 t (by
    refine XS.aloadN X0.here hx rfl (hb hby dp22_1_0) rfl rfl ?_
    show Sg p e below (s₁.setTop (mkF m 1 #[sR a1] [(.ref a1)])) _
    exact st465 _ k)
  obtain ⟨T467, h467, k467, X467, e467, E467, A467, B467, st467⟩ := newPE X465 hx hZ (own_hw hw 10 rfl) e465 (g := (mkF m 6 #[sR a1] [(.int (0 : Int32)), (.ref a1)])) rfl (hb hby dp22_1_6) rfl (by decide) (cap := 0) (by decide) (by decide) (by decide) (by decide) (ad := "[I") (by decide)
  obtain ⟨b467, g467⟩ : ∃ z, z = h0.size := ⟨_, rfl⟩
  rw [← g467] at A467 B467 st467
  have g_b467 : n0 ≤ b467 := Nat.le_trans Z0 (Nat.le_of_eq g467.symm)
  have sz_b467 : h0.size ≤ b467 := Nat.le_trans (Keep.refl h0 [a1]).1 (Nat.le_of_eq g467.symm)
  have P468 : Rg p e below (T467.setTop (mkF m 8 #[sR a1] [(.ref b467), (.ref a1)])) B0 := fun t k => P466 t (by
    refine XS.aloadN X465.here hx rfl (hb hby dp22_1_4) rfl rfl ?_
    refine XS.iconst X465.here hx rfl (hb hby dp22_1_5) ?_
    show Sg p e below (T465.setTop (mkF m 6 #[sR a1] [(.int (0 : Int32)), (.ref a1)])) _
    exact st467 _ k)
  have Z469 : n0 ≤ h467.size := Nat.le_trans Z0 E467.1
  have K470 : Keep h0 h467 [a1] := (Keep.refl h0 [a1]).ext E467
  have v471 : Arv Z h467 b467 k467 .int (0 : Int32) ([] : List Value) (.int (0 : Int32)) := Arv.new A467 (by decide)
  have f472 := (Fp.ext E467)
  have f473 := (E1.ext E467)
  obtain ⟨T474, h474, X474, e474, W474, st474⟩ := putF X467 hx hZ hown (host := "") (Or.inl (own_hw hw 37 rfl)) Via.refl e467 f472 f473 (Or.inl (own_hw hw 38 rfl)) (own_hw hw 31 rfl) (ty := (.array .int)) (by decide) rfl rfl (g := (mkF m 8 #[sR a1] [(.ref b467), (.ref a1)])) rfl rfl (hb hby dp22_1_8)
  have P475 : Rg p e below (T474.setTop (mkF m 11 #[sR a1] [])) B0 := fun t k => P468 t (by
    exact st474 _ k)
  have f476 := f472.same W474
  have N477 := Fr.snoc X474 N0 g_a1
  have Z478 : n0 ≤ h474.size := Nat.le_trans Z469 (Keep.of_wr W474).1
  have K479 : Keep h0 h474 [a1] := K470.wr W474 (Or.inl (List.mem_of_getElem? (i := 0) rfl))
  obtain ⟨T480, h480, k480, X480, e480, E480, A480, B480, st480⟩ := newPE X474 hx hZ (own_hw hw 28 rfl) e474 (g := (mkF m 13 #[sR a1] [(.int (0 : Int32)), (.ref a1)])) rfl (hb hby dp22_1_13) rfl (by decide) (cap := 0) (by decide) (by decide) (by decide) (by decide) (ad := "[J") (by decide)
  obtain ⟨b480, g480⟩ : ∃ z, z = h474.size := ⟨_, rfl⟩
  rw [← g480] at A480 B480 st480
  have g_b480 : n0 ≤ b480 := Nat.le_trans Z478 (Nat.le_of_eq g480.symm)
  have sz_b480 : h0.size ≤ b480 := Nat.le_trans K479.1 (Nat.le_of_eq g480.symm)
  have P481 : Rg p e below (T480.setTop (mkF m 15 #[sR a1] [(.ref b480), (.ref a1)])) B0 := fun t k => P475 t (by
    refine XS.aloadN X474.here hx rfl (hb hby dp22_1_11) rfl rfl ?_
    refine XS.iconst X474.here hx rfl (hb hby dp22_1_12) ?_
    show Sg p e below (T474.setTop (mkF m 13 #[sR a1] [(.int (0 : Int32)), (.ref a1)])) _
    exact st480 _ k)
  have Z482 : n0 ≤ h480.size := Nat.le_trans Z478 E480.1
  have K483 : Keep h0 h480 [a1] := K479.ext E480
  have v484 : Arv Z h480 b480 k480 .long (0 : Int32) ([] : List Value) (.long (0 : Int64)) := Arv.new A480 (by decide)
  have f485 := (((Fw.ext E467).other W474 (Or.inr (slot_ne (Or.inl (own_hw hw 40 rfl)) (Or.inl (own_hw hw 38 rfl)) (by decide) (t := (.array .long)) (t' := (.array .int)) (by decide) (by decide)))).ext E480)
  have f486 := ((f473.wr W474).ext E480)
  obtain ⟨T487, h487, X487, e487, W487, st487⟩ := putF X480 hx hZ hown (host := "") (Or.inl (own_hw hw 39 rfl)) Via.refl e480 f485 f486 (Or.inl (own_hw hw 40 rfl)) (own_hw hw 31 rfl) (ty := (.array .long)) (by decide) rfl rfl (g := (mkF m 15 #[sR a1] [(.ref b480), (.ref a1)])) rfl rfl (hb hby dp22_1_15)
  have P488 : Rg p e below (T487.setTop (mkF m 18 #[sR a1] [])) B0 := fun t k => P481 t (by
    exact st487 _ k)
  have f489 := f485.same W487
  have N490 := Fr.snoc X487 N477 g_a1
  have Z491 : n0 ≤ h487.size := Nat.le_trans Z482 (Keep.of_wr W487).1
  have K492 : Keep h0 h487 [a1] := K483.wr W487 (Or.inl (List.mem_of_getElem? (i := 0) rfl))
  have f493 := (f486.wr W487)
  have f494 := ((((Fc.ext E467).other W474 (Or.inr (slot_ne (Or.inl (own_hw hw 49 rfl)) (Or.inl (own_hw hw 38 rfl)) (by decide) (t := .int) (t' := (.array .int)) (by decide) (by decide)))).ext E480).other W487 (Or.inr (slot_ne (Or.inl (own_hw hw 49 rfl)) (Or.inl (own_hw hw 40 rfl)) (by decide) (t := .int) (t' := (.array .long)) (by decide) (by decide))))
  have f495 := ((f476.ext E480).other W487 (Or.inr (slot_ne (Or.inl (own_hw hw 38 rfl)) (Or.inl (own_hw hw 40 rfl)) (by decide) (t := (.array .int)) (t' := (.array .long)) (by decide) (by decide))))
  have f496 := (((v471.other W474 (Ne.symm (Nat.ne_of_lt (Nat.lt_of_lt_of_le Fc.lt (Nat.le_of_eq g467.symm))))).ext E480).other W487 (Ne.symm (Nat.ne_of_lt (Nat.lt_of_lt_of_le Fc.lt (Nat.le_of_eq g467.symm)))))
  have f497 := (v484.other W487 (Ne.symm (Nat.ne_of_lt (Nat.lt_of_lt_of_le f476.lt (Nat.le_of_eq g480.symm)))))
  have f498 := (((B467.wr W474).ext E480).wr W487)
  have f499 := (B480.wr W487)
  obtain ⟨fs500, hr500, hrun500, hended500, hW500, hsame500⟩ := X487.leave (v := none) (fun _ => rfl)
  refine ⟨_, _, pre0 _ (P488 _ ?_), hrun500, hended500, _, _, rfl, ?_, ⟨⟨_, rfl⟩, hW500, hsame500.mono (Nat.le_of_ble_eq_true rfl) (Nat.le_of_ble_eq_true rfl)⟩⟩
  · show Sg p e below (T487.setTop (mkF m 18 #[sR a1] [])) _
    exact X487.returnOut hx Bd.returns (hb hby dp22_1_18) hr500
  · show Q_meInit Z a1 h0 n0 _ T487.heap _
    rw [e487]
    exact ⟨rfl, N490, K492, f493, f494, b467, b480, _, _, f495, f489, f496, f497, f498, f499, sz_b467, sz_b480⟩
theorem dj65_30_0 : decode jdk_65_method_30_code 0 = .ok (.iload_n 1, 1) := by decide +kernel
theorem dj65_30_1 : decode jdk_65_method_30_code 1 = .ok (.iload_n 2, 1) := by decide +kernel
theorem dj65_30_2 : decode jdk_65_method_30_code 2 = .ok (.if_icmp .le 44, 3) := by decide +kernel
theorem dj65_30_46 : decode jdk_65_method_30_code 46 = .ok (.iload_n 1, 1) := by decide +kernel
theorem dj65_30_47 : decode jdk_65_method_30_code 47 = .ok (.ifCond .ge 12, 3) := by decide +kernel
theorem dj65_30_59 : decode jdk_65_method_30_code 59 = .ok (.iload_n 2, 1) := by decide +kernel
theorem dj65_30_60 : decode jdk_65_method_30_code 60 = .ok (.iload_n 0, 1) := by decide +kernel
theorem dj65_30_61 : decode jdk_65_method_30_code 61 = .ok (.if_icmp .le 12, 3) := by decide +kernel
theorem dj65_30_73 : decode jdk_65_method_30_code 73 = .ok (.return_, 1) := by decide +kernel
theorem pn_java_util_Arrays : plainName "java/util/Arrays" = true := by first | (simp [plainName, overriddenIn]; done) | decide +kernel
theorem ef_rchk (m : MethodId) (x0 : Int32) (x1 : Int32) (x2 : Int32) : entryFrame m #[(.int x0), (.int x1), (.int x2)] 3 = mkF m 0 #[sI x0, sI x1, sI x2] [] := by (first | (simp [entryFrame, mkF, argsToLocals, Value.category]; done) | rfl)
def Q_rchk  (h0 : Heap) (n0 : Nat) (v : Option Value) (h : Heap) (L : List Loc) : Prop := v = none ∧ Fr n0 L ∧ h = h0
set_option maxRecDepth 65536 in
set_option maxHeartbeats 40000000 in
theorem rm_rchk (l : Launch) (Z : State) (a0 : Array Value) (hw : ∀ d ∈ tables_1, d.before a0 Z = true) (ws : List Jvm.Cond) (p1 p3 : Int32) (h0 : Heap) (n0 : Nat) (Z0 : n0 ≤ h0.size) (h1 : ¬ p3 < (0 : Int32)) (h2 : ¬ p1 < p3) :
    MetFree l (⟨"java/util/Arrays", "rangeCheck", "(III)V"⟩ : MethodName) (head1 (Jvm.Cond.code (⟨"java/util/Arrays", "rangeCheck", "(III)V"⟩ : MethodName) jdk_65_method_30_code 3 none :: ws) ({ frames := 0, cells := 0, slots := 0, locals := 0 } : Room)) (fun a U => a = #[(.int p1), (.int (0 : Int32)), (.int p3)] ∧ Z.Warmed39 U.vm ∧ U.heap = h0) (fun _ _ _ _ _ => True) (fun _ U o U' => ∃ v L, o = .returned v ∧ Q_rchk  h0 n0 v U'.heap L ∧ FrameEnd U o U' L ({ frames := 0, cells := 0, slots := 0, locals := 0 } : Room).cells ({ frames := 0, cells := 0, slots := 0, locals := 0 } : Room).slots) := by
  refine MetFree.of_bodySF (plainFor_of_name pn_java_util_Arrays) hisR ?_
  intro p e s m args below meth c s₁ Bd hml0 hP hK
  obtain ⟨rfl, hZ, hh⟩ := hP
  have hx := Bd.exec
  have hby := Bd.bytes
  have hml : c.maxLocals = 3 := hml0
  have hown : s.vm.findClass "java/util/Arrays" = some m.cls := findClass_of_methodNamed Bd.named
  have hnm := (name_of_methodNamed Bd.named Bd.method).1
  have X0 : Stand p l e ({ frames := 0, cells := 0, slots := 0, locals := 0 } : Room) s m #[(.int p1), (.int (0 : Int32)), (.int p3)] below meth c s₁ [] 0 0 := Stand.of_body Bd
  have e0 : s₁.heap = h0 := by rw [← hh, Bd.state]; rfl
  have N0 := Fr.nil n0
  have pre0 : ∀ t, Sg p e below (s₁.setTop (mkF m 0 #[sI p1, sI 0, sI p3] [])) t → Steps p.tables e below (s₁.setTop (entryFrame m #[(.int p1), (.int (0 : Int32)), (.int p3)] 3)) t := fun t k => castTop (ef_rchk m p1 (0 : Int32) p3) k
  have P0 : ∀ t, Sg p e below (s₁.setTop (mkF m 0 #[sI p1, sI 0, sI p3] [])) t → Sg p e below (s₁.setTop (mkF m 0 #[sI p1, sI 0, sI p3] [])) t := fun t k => k
  obtain ⟨B0, pre0, P0⟩ : ∃ B : State, (∀ t, Steps p.tables e below B t → Steps p.tables e below (s₁.setTop (entryFrame m #[(.int p1), (.int (0 : Int32)), (.int p3)] 3)) t) ∧ Rg p e below (s₁.setTop (mkF m 0 #[sI p1, sI 0, sI p3] [])) B := ⟨_, pre0, P0⟩
  obtain ⟨fs501, hr501, hrun501, hended501, hW501, hsame501⟩ := X0.leave (v := none) (fun _ => rfl)
  refine ⟨_, _, pre0 _ (P0 _ ?_), hrun501, hended501, _, _, rfl, ?_, ⟨⟨_, rfl⟩, hW501, hsame501.mono (Nat.le_of_ble_eq_true rfl) (Nat.le_of_ble_eq_true rfl)⟩⟩
  · refine XS.iloadN X0.here hx rfl (hb hby dj65_30_0) rfl ?_
    show Sg p e below (s₁.setTop (mkF m 1 #[sI p1, sI 0, sI p3] [(.int (0 : Int32))])) _
    refine XS.iloadN X0.here hx rfl (hb hby dj65_30_1) rfl ?_
    refine XS.icmpYes X0.here hx rfl (pc0 := 2) (pc' := 46) rfl (hb hby dj65_30_2) rfl (flt (show ¬ (p3 < (0 : Int32)) from h1)).2.2.2 (by decide) (by decide) ?_
    refine XS.iloadN X0.here hx rfl (hb hby dj65_30_46) rfl ?_
    refine XS.ifYes X0.here hx rfl (pc0 := 47) (pc' := 59) rfl (hb hby dj65_30_47) rfl ((if0 _ _).trans (flt (show ¬ ((0 : Int32) < (0 : Int32)) from (by decide))).2.1) (by decide) (by decide) ?_
    refine XS.iloadN X0.here hx rfl (hb hby dj65_30_59) rfl ?_
    refine XS.iloadN X0.here hx rfl (hb hby dj65_30_60) rfl ?_
    refine XS.icmpYes X0.here hx rfl (pc0 := 61) (pc' := 73) rfl (hb hby dj65_30_61) rfl (flt (show ¬ (p1 < p3) from h2)).2.2.2 (by decide) (by decide) ?_
    show Sg p e below (s₁.setTop (mkF m 73 #[sI p1, sI 0, sI p3] [])) _
    exact X0.returnOut hx Bd.returns (hb hby dj65_30_73) hr501
  · show Q_rchk  h0 n0 _ s₁.heap _
    rw [e0]
    exact ⟨rfl, N0, rfl⟩
theorem dj65_59_0 : decode jdk_65_method_59_code 0 = .ok (.iload_n 1, 1) := by decide +kernel
theorem dj65_59_1 : decode jdk_65_method_59_code 1 = .ok (.istore 4, 2) := by decide +kernel
theorem dj65_59_3 : decode jdk_65_method_59_code 3 = .ok (.iload_n 2, 1) := by decide +kernel
theorem dj65_59_4 : decode jdk_65_method_59_code 4 = .ok (.iconst 1, 1) := by decide +kernel
theorem dj65_59_5 : decode jdk_65_method_59_code 5 = .ok (.isub, 1) := by decide +kernel
theorem dj65_59_6 : decode jdk_65_method_59_code 6 = .ok (.istore 5, 2) := by decide +kernel
theorem dj65_59_8 : decode jdk_65_method_59_code 8 = .ok (.iload 4, 2) := by decide +kernel
theorem dj65_59_10 : decode jdk_65_method_59_code 10 = .ok (.iload 5, 2) := by decide +kernel
theorem dj65_59_12 : decode jdk_65_method_59_code 12 = .ok (.if_icmp .gt 54, 3) := by decide +kernel
theorem dj65_59_66 : decode jdk_65_method_59_code 66 = .ok (.iload 4, 2) := by decide +kernel
theorem dj65_59_68 : decode jdk_65_method_59_code 68 = .ok (.iconst 1, 1) := by decide +kernel
theorem dj65_59_69 : decode jdk_65_method_59_code 69 = .ok (.iadd, 1) := by decide +kernel
theorem dj65_59_70 : decode jdk_65_method_59_code 70 = .ok (.ineg, 1) := by decide +kernel
theorem dj65_59_71 : decode jdk_65_method_59_code 71 = .ok (.ireturn, 1) := by decide +kernel
theorem dj65_59_15 : decode jdk_65_method_59_code 15 = .ok (.iload 4, 2) := by decide +kernel
theorem dj65_59_17 : decode jdk_65_method_59_code 17 = .ok (.iload 5, 2) := by decide +kernel
theorem dj65_59_19 : decode jdk_65_method_59_code 19 = .ok (.iadd, 1) := by decide +kernel
theorem dj65_59_20 : decode jdk_65_method_59_code 20 = .ok (.iconst 1, 1) := by decide +kernel
theorem dj65_59_21 : decode jdk_65_method_59_code 21 = .ok (.iushr, 1) := by decide +kernel
theorem dj65_59_22 : decode jdk_65_method_59_code 22 = .ok (.istore 6, 2) := by decide +kernel
theorem dj65_59_24 : decode jdk_65_method_59_code 24 = .ok (.aload_n 0, 1) := by decide +kernel
theorem dj65_59_25 : decode jdk_65_method_59_code 25 = .ok (.iload 6, 2) := by decide +kernel
theorem dj65_59_27 : decode jdk_65_method_59_code 27 = .ok (.iaload, 1) := by decide +kernel
theorem dj65_59_28 : decode jdk_65_method_59_code 28 = .ok (.istore 7, 2) := by decide +kernel
theorem dj65_59_30 : decode jdk_65_method_59_code 30 = .ok (.iload 7, 2) := by decide +kernel
theorem dj65_59_32 : decode jdk_65_method_59_code 32 = .ok (.iload_n 3, 1) := by decide +kernel
theorem dj65_59_33 : decode jdk_65_method_59_code 33 = .ok (.if_icmp .ge 12, 3) := by decide +kernel
theorem dj65_59_36 : decode jdk_65_method_59_code 36 = .ok (.iload 6, 2) := by decide +kernel
theorem dj65_59_38 : decode jdk_65_method_59_code 38 = .ok (.iconst 1, 1) := by decide +kernel
theorem dj65_59_39 : decode jdk_65_method_59_code 39 = .ok (.iadd, 1) := by decide +kernel
theorem dj65_59_40 : decode jdk_65_method_59_code 40 = .ok (.istore 4, 2) := by decide +kernel
theorem dj65_59_42 : decode jdk_65_method_59_code 42 = .ok (.goto 21, 3) := by decide +kernel
theorem dj65_59_63 : decode jdk_65_method_59_code 63 = .ok (.goto (-55), 3) := by decide +kernel
theorem dj65_59_45 : decode jdk_65_method_59_code 45 = .ok (.iload 7, 2) := by decide +kernel
theorem dj65_59_47 : decode jdk_65_method_59_code 47 = .ok (.iload_n 3, 1) := by decide +kernel
theorem dj65_59_48 : decode jdk_65_method_59_code 48 = .ok (.if_icmp .le 12, 3) := by decide +kernel
theorem dj65_59_51 : decode jdk_65_method_59_code 51 = .ok (.iload 6, 2) := by decide +kernel
theorem dj65_59_53 : decode jdk_65_method_59_code 53 = .ok (.iconst 1, 1) := by decide +kernel
theorem dj65_59_54 : decode jdk_65_method_59_code 54 = .ok (.isub, 1) := by decide +kernel
theorem dj65_59_55 : decode jdk_65_method_59_code 55 = .ok (.istore 5, 2) := by decide +kernel
theorem dj65_59_57 : decode jdk_65_method_59_code 57 = .ok (.goto 6, 3) := by decide +kernel
theorem dj65_59_60 : decode jdk_65_method_59_code 60 = .ok (.iload 6, 2) := by decide +kernel
theorem dj65_59_62 : decode jdk_65_method_59_code 62 = .ok (.ireturn, 1) := by decide +kernel
theorem ef_bs0 (m : MethodId) (x0 : Addr) (x1 : Int32) (x2 : Int32) (x3 : Int32) : entryFrame m #[(.ref x0), (.int x1), (.int x2), (.int x3)] 8 = mkF m 0 #[sR x0, sI x1, sI x2, sI x3, sU, sU, sU, sU] [] := by (first | (simp [entryFrame, mkF, argsToLocals, Value.category]; done) | rfl)
def Q_bs0 (pl : List Int32) (key : Int32) (h0 : Heap) (n0 : Nat) (v : Option Value) (h : Heap) (L : List Loc) : Prop := ∃ r : Int32, v = some (.int r) ∧ Fr n0 L ∧ h = h0 ∧ own_found pl key r
set_option maxRecDepth 65536 in
set_option maxHeartbeats 40000000 in
theorem rm_bs0 (l : Launch) (Z : State) (a0 : Array Value) (hw : ∀ d ∈ tables_1, d.before a0 Z = true) (ws : List Jvm.Cond) (P : Addr) (kP : ClassId) (M : Int32) (pl ur : List Int32) (cn key : Int32) (h0 : Heap) (n0 : Nat) (Z0 : n0 ≤ h0.size) (AP : Arv Z h0 P kP .int M ((pl ++ ur).map Value.int) (.int (0 : Int32))) (hM : M = Int32.ofNat (pl ++ ur).length) (hm : (pl ++ ur).length ≤ 3) (hc : cn = Int32.ofNat pl.length) (hs : pl.Pairwise (· < ·)) (hp2 : pl.length ≤ 2) :
    MetFree l (⟨"java/util/Arrays", "binarySearch0", "([IIII)I"⟩ : MethodName) (head1 (Jvm.Cond.code (⟨"java/util/Arrays", "binarySearch0", "([IIII)I"⟩ : MethodName) jdk_65_method_59_code 8 (some .int) :: ws) ({ frames := 0, cells := 0, slots := 0, locals := 0 } : Room)) (fun a U => a = #[(.ref P), (.int (0 : Int32)), (.int cn), (.int key)] ∧ Z.Warmed39 U.vm ∧ U.heap = h0) (fun _ _ _ _ _ => True) (fun _ U o U' => ∃ v L, o = .returned v ∧ Q_bs0 pl key h0 n0 v U'.heap L ∧ FrameEnd U o U' L ({ frames := 0, cells := 0, slots := 0, locals := 0 } : Room).cells ({ frames := 0, cells := 0, slots := 0, locals := 0 } : Room).slots) := by
  refine MetFree.of_bodySF (plainFor_of_name pn_java_util_Arrays) hisR ?_
  intro p e s m args below meth c s₁ Bd hml0 hP hK
  obtain ⟨rfl, hZ, hh⟩ := hP
  have hx := Bd.exec
  have hby := Bd.bytes
  have hml : c.maxLocals = 8 := hml0
  have hown : s.vm.findClass "java/util/Arrays" = some m.cls := findClass_of_methodNamed Bd.named
  have hnm := (name_of_methodNamed Bd.named Bd.method).1
  have X0 : Stand p l e ({ frames := 0, cells := 0, slots := 0, locals := 0 } : Room) s m #[(.ref P), (.int (0 : Int32)), (.int cn), (.int key)] below meth c s₁ [] 0 0 := Stand.of_body Bd
  have e0 : s₁.heap = h0 := by rw [← hh, Bd.state]; rfl
  have N0 := Fr.nil n0
  have pre0 : ∀ t, Sg p e below (s₁.setTop (mkF m 0 #[sR P, sI 0, sI cn, sI key, sU, sU, sU, sU] [])) t → Steps p.tables e below (s₁.setTop (entryFrame m #[(.ref P), (.int (0 : Int32)), (.int cn), (.int key)] 8)) t := fun t k => castTop (ef_bs0 m P (0 : Int32) cn key) k
  have P0 : ∀ t, Sg p e below (s₁.setTop (mkF m 0 #[sR P, sI 0, sI cn, sI key, sU, sU, sU, sU] [])) t → Sg p e below (s₁.setTop (mkF m 0 #[sR P, sI 0, sI cn, sI key, sU, sU, sU, sU] [])) t := fun t k => k
  obtain ⟨B0, pre0, P0⟩ : ∃ B : State, (∀ t, Steps p.tables e below B t → Steps p.tables e below (s₁.setTop (entryFrame m #[(.ref P), (.int (0 : Int32)), (.int cn), (.int key)] 8)) t) ∧ Rg p e below (s₁.setTop (mkF m 0 #[sR P, sI 0, sI cn, sI key, sU, sU, sU, sU] [])) B := ⟨_, pre0, P0⟩
  have hlen := hp2
  rcases pl with _ | ⟨x0, _ | ⟨x1, _ | ⟨x2, pl⟩⟩⟩
  · skip
    have hc' : cn = (0 : Int32) := hc
    subst hc'
    obtain ⟨fs502, hr502, hrun502, hended502, hW502, hsame502⟩ := X0.leave (v := some (.int (-1 : Int32))) (fun h => by rw [Bd.returns] at h; cases h)
    refine ⟨_, _, pre0 _ (P0 _ ?_), hrun502, hended502, _, _, rfl, ?_, ⟨⟨_, rfl⟩, hW502, hsame502.mono (Nat.le_of_ble_eq_true rfl) (Nat.le_of_ble_eq_true rfl)⟩⟩
    · refine XS.iloadN X0.here hx rfl (hb hby dj65_59_0) rfl ?_
      show Sg p e below (s₁.setTop (mkF m 1 #[sR P, sI 0, sI 0, sI key, sU, sU, sU, sU] [(.int (0 : Int32))])) _
      refine XS.istore X0.here hx rfl (hb hby dj65_59_1) rfl (l' := #[sR P, sI 0, sI 0, sI key, sI 0, sU, sU, sU]) rfl ?_
      refine XS.iloadN X0.here hx rfl (hb hby dj65_59_3) rfl ?_
      refine XS.iconst X0.here hx rfl (hb hby dj65_59_4) ?_
      refine XS.isub X0.here hx rfl (hb hby dj65_59_5) rfl ?_
      refine XS.istore X0.here hx rfl (hb hby dj65_59_6) rfl (l' := #[sR P, sI 0, sI 0, sI key, sI 0, sI (-1), sU, sU]) rfl ?_
      refine XS.iload X0.here hx rfl (hb hby dj65_59_8) rfl ?_
      refine XS.iload X0.here hx rfl (hb hby dj65_59_10) rfl ?_
      refine XS.icmpYes X0.here hx rfl (pc0 := 12) (pc' := 66) rfl (hb hby dj65_59_12) rfl (tlt (show (-1 : Int32) < (0 : Int32) from (by decide))).2.2.1 (by decide) (by decide) ?_
      refine XS.iload X0.here hx rfl (hb hby dj65_59_66) rfl ?_
      refine XS.iconst X0.here hx rfl (hb hby dj65_59_68) ?_
      refine XS.iadd X0.here hx rfl (hb hby dj65_59_69) rfl ?_
      refine XS.ineg X0.here hx rfl (hb hby dj65_59_70) rfl ?_
      show Sg p e below (s₁.setTop (mkF m 71 #[sR P, sI 0, sI 0, sI key, sI 0, sI (-1), sU, sU] [(.int (-1 : Int32))])) _
      exact retI X0 hx Bd.returns (hb hby dj65_59_71) hr502
    · show Q_bs0 [] key h0 n0 _ s₁.heap _
      rw [e0]
      exact ⟨_, rfl, N0, rfl, Or.inr ⟨by decide, fun hm => nomatch hm⟩⟩
  · skip
    have hc' : cn = (1 : Int32) := hc
    subst hc'
    obtain ⟨cl503, Ar503, -, S503, N503, H503, -⟩ := id AP
    have hin503 : ¬ ((0 : Int32) < 0 ∨ cl503.slots.size ≤ ((0 : Int32)).toNatClampNeg) := inb_of S503 (own_inb hM (k := 0) (by simp) hm)
    have P504 : Rg p e below (s₁.setTop (mkF m 33 #[sR P, sI 0, sI 1, sI key, sI 0, sI 0, sI 0, sI x0] [(.int key), (.int x0)])) B0 := fun t k => P0 t (by
      refine XS.iloadN X0.here hx rfl (hb hby dj65_59_0) rfl ?_
      refine XS.istore X0.here hx rfl (hb hby dj65_59_1) rfl (l' := #[sR P, sI 0, sI 1, sI key, sI 0, sU, sU, sU]) rfl ?_
      refine XS.iloadN X0.here hx rfl (hb hby dj65_59_3) rfl ?_
      refine XS.iconst X0.here hx rfl (hb hby dj65_59_4) ?_
      refine XS.isub X0.here hx rfl (hb hby dj65_59_5) rfl ?_
      refine XS.istore X0.here hx rfl (hb hby dj65_59_6) rfl (l' := #[sR P, sI 0, sI 1, sI key, sI 0, sI 0, sU, sU]) rfl ?_
      refine XS.iload X0.here hx rfl (hb hby dj65_59_8) rfl ?_
      refine XS.iload X0.here hx rfl (hb hby dj65_59_10) rfl ?_
      refine XS.icmpNo X0.here hx rfl (hb hby dj65_59_12) rfl (flt (show ¬ ((0 : Int32) < (0 : Int32)) from (by decide))).2.2.1 ?_
      refine XS.iload X0.here hx rfl (hb hby dj65_59_15) rfl ?_
      refine XS.iload X0.here hx rfl (hb hby dj65_59_17) rfl ?_
      refine XS.iadd X0.here hx rfl (hb hby dj65_59_19) rfl ?_
      refine XS.iconst X0.here hx rfl (hb hby dj65_59_20) ?_
      refine XS.iushr X0.here hx rfl (hb hby dj65_59_21) rfl ?_
      refine XS.istore X0.here hx rfl (hb hby dj65_59_22) rfl (l' := #[sR P, sI 0, sI 1, sI key, sI 0, sI 0, sI 0, sU]) rfl ?_
      refine XS.aloadN X0.here hx rfl (hb hby dj65_59_24) rfl rfl ?_
      refine XS.iload X0.here hx rfl (hb hby dj65_59_25) rfl ?_
      show Sg p e below (s₁.setTop (mkF m 27 #[sR P, sI 0, sI 1, sI key, sI 0, sI 0, sI 0, sU] [(.int (0 : Int32)), (.ref P)])) _
      refine X0.iaload hx (j := (0 : Int32)) (v := (.int x0)) (by rw [e0]; exact Ar503.1) (State.isArrayOf_alike hZ.alike Ar503.2.1) Ar503.2.2 hin503 (H503.at hin503 rfl) (g := (mkF m 27 #[sR P, sI 0, sI 1, sI key, sI 0, sI 0, sI 0, sU] [(.int (0 : Int32)), (.ref P)])) rfl rfl (hb hby dj65_59_27) _ ?_
      show Sg p e below (s₁.setTop (mkF m 28 #[sR P, sI 0, sI 1, sI key, sI 0, sI 0, sI 0, sU] [(.int x0)])) _
      refine XS.istore X0.here hx rfl (hb hby dj65_59_28) rfl (l' := #[sR P, sI 0, sI 1, sI key, sI 0, sI 0, sI 0, sI x0]) rfl ?_
      refine XS.iload X0.here hx rfl (hb hby dj65_59_30) rfl ?_
      refine XS.iloadN X0.here hx rfl (hb hby dj65_59_32) rfl ?_
      show Sg p e below (s₁.setTop (mkF m 33 #[sR P, sI 0, sI 1, sI key, sI 0, sI 0, sI 0, sI x0] [(.int key), (.int x0)])) _
      exact k)
    by_cases q505 : x0 < key
    · skip
      have tq505 := Int32.lt_iff_toInt_lt.mp q505
      obtain ⟨fs506, hr506, hrun506, hended506, hW506, hsame506⟩ := X0.leave (v := some (.int (-2 : Int32))) (fun h => by rw [Bd.returns] at h; cases h)
      refine ⟨_, _, pre0 _ (P504 _ ?_), hrun506, hended506, _, _, rfl, ?_, ⟨⟨_, rfl⟩, hW506, hsame506.mono (Nat.le_of_ble_eq_true rfl) (Nat.le_of_ble_eq_true rfl)⟩⟩
      · show Sg p e below (s₁.setTop (mkF m 33 #[sR P, sI 0, sI 1, sI key, sI 0, sI 0, sI 0, sI x0] [(.int key), (.int x0)])) _
        refine XS.icmpNo X0.here hx rfl (hb hby dj65_59_33) rfl (tlt (show x0 < key from q505)).2.1 ?_
        refine XS.iload X0.here hx rfl (hb hby dj65_59_36) rfl ?_
        refine XS.iconst X0.here hx rfl (hb hby dj65_59_38) ?_
        refine XS.iadd X0.here hx rfl (hb hby dj65_59_39) rfl ?_
        refine XS.istore X0.here hx rfl (hb hby dj65_59_40) rfl (l' := #[sR P, sI 0, sI 1, sI key, sI 1, sI 0, sI 0, sI x0]) rfl ?_
        refine XS.goto X0.here hx rfl (pc0 := 42) (pc' := 63) rfl (hb hby dj65_59_42) (by decide) (by decide) ?_
        refine XS.goto X0.here hx rfl (pc0 := 63) (pc' := 8) rfl (hb hby dj65_59_63) (by decide) (by decide) ?_
        refine XS.iload X0.here hx rfl (hb hby dj65_59_8) rfl ?_
        refine XS.iload X0.here hx rfl (hb hby dj65_59_10) rfl ?_
        refine XS.icmpYes X0.here hx rfl (pc0 := 12) (pc' := 66) rfl (hb hby dj65_59_12) rfl (tlt (show (0 : Int32) < (1 : Int32) from (by decide))).2.2.1 (by decide) (by decide) ?_
        refine XS.iload X0.here hx rfl (hb hby dj65_59_66) rfl ?_
        refine XS.iconst X0.here hx rfl (hb hby dj65_59_68) ?_
        refine XS.iadd X0.here hx rfl (hb hby dj65_59_69) rfl ?_
        refine XS.ineg X0.here hx rfl (hb hby dj65_59_70) rfl ?_
        show Sg p e below (s₁.setTop (mkF m 71 #[sR P, sI 0, sI 1, sI key, sI 1, sI 0, sI 0, sI x0] [(.int (-2 : Int32))])) _
        exact retI X0 hx Bd.returns (hb hby dj65_59_71) hr506
      · show Q_bs0 [x0] key h0 n0 _ s₁.heap _
        rw [e0]
        exact ⟨_, rfl, N0, rfl, Or.inr ⟨by decide, fun hm => by (have e := congrArg Int32.toInt (List.mem_singleton.mp hm); omega)⟩⟩
    · skip
      have P507 : Rg p e below (s₁.setTop (mkF m 48 #[sR P, sI 0, sI 1, sI key, sI 0, sI 0, sI 0, sI x0] [(.int key), (.int x0)])) B0 := fun t k => P504 t (by
        refine XS.icmpYes X0.here hx rfl (pc0 := 33) (pc' := 45) rfl (hb hby dj65_59_33) rfl (flt (show ¬ (x0 < key) from q505)).2.1 (by decide) (by decide) ?_
        refine XS.iload X0.here hx rfl (hb hby dj65_59_45) rfl ?_
        refine XS.iloadN X0.here hx rfl (hb hby dj65_59_47) rfl ?_
        show Sg p e below (s₁.setTop (mkF m 48 #[sR P, sI 0, sI 1, sI key, sI 0, sI 0, sI 0, sI x0] [(.int key), (.int x0)])) _
        exact k)
      by_cases q508 : key < x0
      · skip
        have tq505 := fun z => q505 (Int32.lt_iff_toInt_lt.mpr z)
        have tq508 := Int32.lt_iff_toInt_lt.mp q508
        obtain ⟨fs509, hr509, hrun509, hended509, hW509, hsame509⟩ := X0.leave (v := some (.int (-1 : Int32))) (fun h => by rw [Bd.returns] at h; cases h)
        refine ⟨_, _, pre0 _ (P507 _ ?_), hrun509, hended509, _, _, rfl, ?_, ⟨⟨_, rfl⟩, hW509, hsame509.mono (Nat.le_of_ble_eq_true rfl) (Nat.le_of_ble_eq_true rfl)⟩⟩
        · show Sg p e below (s₁.setTop (mkF m 48 #[sR P, sI 0, sI 1, sI key, sI 0, sI 0, sI 0, sI x0] [(.int key), (.int x0)])) _
          refine XS.icmpNo X0.here hx rfl (hb hby dj65_59_48) rfl (tlt (show key < x0 from q508)).2.2.2 ?_
          refine XS.iload X0.here hx rfl (hb hby dj65_59_51) rfl ?_
          refine XS.iconst X0.here hx rfl (hb hby dj65_59_53) ?_
          refine XS.isub X0.here hx rfl (hb hby dj65_59_54) rfl ?_
          refine XS.istore X0.here hx rfl (hb hby dj65_59_55) rfl (l' := #[sR P, sI 0, sI 1, sI key, sI 0, sI (-1), sI 0, sI x0]) rfl ?_
          refine XS.goto X0.here hx rfl (pc0 := 57) (pc' := 63) rfl (hb hby dj65_59_57) (by decide) (by decide) ?_
          refine XS.goto X0.here hx rfl (pc0 := 63) (pc' := 8) rfl (hb hby dj65_59_63) (by decide) (by decide) ?_
          refine XS.iload X0.here hx rfl (hb hby dj65_59_8) rfl ?_
          refine XS.iload X0.here hx rfl (hb hby dj65_59_10) rfl ?_
          refine XS.icmpYes X0.here hx rfl (pc0 := 12) (pc' := 66) rfl (hb hby dj65_59_12) rfl (tlt (show (-1 : Int32) < (0 : Int32) from (by decide))).2.2.1 (by decide) (by decide) ?_
          refine XS.iload X0.here hx rfl (hb hby dj65_59_66) rfl ?_
          refine XS.iconst X0.here hx rfl (hb hby dj65_59_68) ?_
          refine XS.iadd X0.here hx rfl (hb hby dj65_59_69) rfl ?_
          refine XS.ineg X0.here hx rfl (hb hby dj65_59_70) rfl ?_
          show Sg p e below (s₁.setTop (mkF m 71 #[sR P, sI 0, sI 1, sI key, sI 0, sI (-1), sI 0, sI x0] [(.int (-1 : Int32))])) _
          exact retI X0 hx Bd.returns (hb hby dj65_59_71) hr509
        · show Q_bs0 [x0] key h0 n0 _ s₁.heap _
          rw [e0]
          exact ⟨_, rfl, N0, rfl, Or.inr ⟨by decide, fun hm => by (have e := congrArg Int32.toInt (List.mem_singleton.mp hm); omega)⟩⟩
      · skip
        obtain ⟨fs510, hr510, hrun510, hended510, hW510, hsame510⟩ := X0.leave (v := some (.int (0 : Int32))) (fun h => by rw [Bd.returns] at h; cases h)
        refine ⟨_, _, pre0 _ (P507 _ ?_), hrun510, hended510, _, _, rfl, ?_, ⟨⟨_, rfl⟩, hW510, hsame510.mono (Nat.le_of_ble_eq_true rfl) (Nat.le_of_ble_eq_true rfl)⟩⟩
        · show Sg p e below (s₁.setTop (mkF m 48 #[sR P, sI 0, sI 1, sI key, sI 0, sI 0, sI 0, sI x0] [(.int key), (.int x0)])) _
          refine XS.icmpYes X0.here hx rfl (pc0 := 48) (pc' := 60) rfl (hb hby dj65_59_48) rfl (flt (show ¬ (key < x0) from q508)).2.2.2 (by decide) (by decide) ?_
          refine XS.iload X0.here hx rfl (hb hby dj65_59_60) rfl ?_
          show Sg p e below (s₁.setTop (mkF m 62 #[sR P, sI 0, sI 1, sI key, sI 0, sI 0, sI 0, sI x0] [(.int (0 : Int32))])) _
          exact retI X0 hx Bd.returns (hb hby dj65_59_62) hr510
        · show Q_bs0 [x0] key h0 n0 _ s₁.heap _
          rw [e0]
          exact ⟨_, rfl, N0, rfl, Or.inl ⟨0, by simp, rfl, congrArg some (own_eq3 q505 q508)⟩⟩
  · skip
    have hc' : cn = (2 : Int32) := hc
    subst hc'
    have hs01 := Int32.lt_iff_toInt_lt.mp (own_p2 hs)
    obtain ⟨cl511, Ar511, -, S511, N511, H511, -⟩ := id AP
    have hin511 : ¬ ((0 : Int32) < 0 ∨ cl511.slots.size ≤ ((0 : Int32)).toNatClampNeg) := inb_of S511 (own_inb hM (k := 0) (by simp) hm)
    have P512 : Rg p e below (s₁.setTop (mkF m 33 #[sR P, sI 0, sI 2, sI key, sI 0, sI 1, sI 0, sI x0] [(.int key), (.int x0)])) B0 := fun t k => P0 t (by
      refine XS.iloadN X0.here hx rfl (hb hby dj65_59_0) rfl ?_
      refine XS.istore X0.here hx rfl (hb hby dj65_59_1) rfl (l' := #[sR P, sI 0, sI 2, sI key, sI 0, sU, sU, sU]) rfl ?_
      refine XS.iloadN X0.here hx rfl (hb hby dj65_59_3) rfl ?_
      refine XS.iconst X0.here hx rfl (hb hby dj65_59_4) ?_
      refine XS.isub X0.here hx rfl (hb hby dj65_59_5) rfl ?_
      refine XS.istore X0.here hx rfl (hb hby dj65_59_6) rfl (l' := #[sR P, sI 0, sI 2, sI key, sI 0, sI 1, sU, sU]) rfl ?_
      refine XS.iload X0.here hx rfl (hb hby dj65_59_8) rfl ?_
      refine XS.iload X0.here hx rfl (hb hby dj65_59_10) rfl ?_
      refine XS.icmpNo X0.here hx rfl (hb hby dj65_59_12) rfl (flt (show ¬ ((1 : Int32) < (0 : Int32)) from (by decide))).2.2.1 ?_
      refine XS.iload X0.here hx rfl (hb hby dj65_59_15) rfl ?_
      refine XS.iload X0.here hx rfl (hb hby dj65_59_17) rfl ?_
      refine XS.iadd X0.here hx rfl (hb hby dj65_59_19) rfl ?_
      refine XS.iconst X0.here hx rfl (hb hby dj65_59_20) ?_
      refine XS.iushr X0.here hx rfl (hb hby dj65_59_21) rfl ?_
      refine XS.istore X0.here hx rfl (hb hby dj65_59_22) rfl (l' := #[sR P, sI 0, sI 2, sI key, sI 0, sI 1, sI 0, sU]) rfl ?_
      refine XS.aloadN X0.here hx rfl (hb hby dj65_59_24) rfl rfl ?_
      refine XS.iload X0.here hx rfl (hb hby dj65_59_25) rfl ?_
      show Sg p e below (s₁.setTop (mkF m 27 #[sR P, sI 0, sI 2, sI key, sI 0, sI 1, sI 0, sU] [(.int (0 : Int32)), (.ref P)])) _
      refine X0.iaload hx (j := (0 : Int32)) (v := (.int x0)) (by rw [e0]; exact Ar511.1) (State.isArrayOf_alike hZ.alike Ar511.2.1) Ar511.2.2 hin511 (H511.at hin511 rfl) (g := (mkF m 27 #[sR P, sI 0, sI 2, sI key, sI 0, sI 1, sI 0, sU] [(.int (0 : Int32)), (.ref P)])) rfl rfl (hb hby dj65_59_27) _ ?_
      show Sg p e below (s₁.setTop (mkF m 28 #[sR P, sI 0, sI 2, sI key, sI 0, sI 1, sI 0, sU] [(.int x0)])) _
      refine XS.istore X0.here hx rfl (hb hby dj65_59_28) rfl (l' := #[sR P, sI 0, sI 2, sI key, sI 0, sI 1, sI 0, sI x0]) rfl ?_
      refine XS.iload X0.here hx rfl (hb hby dj65_59_30) rfl ?_
      refine XS.iloadN X0.here hx rfl (hb hby dj65_59_32) rfl ?_
      show Sg p e below (s₁.setTop (mkF m 33 #[sR P, sI 0, sI 2, sI key, sI 0, sI 1, sI 0, sI x0] [(.int key), (.int x0)])) _
      exact k)
    by_cases q513 : x0 < key
    · skip
      obtain ⟨cl514, Ar514, -, S514, N514, H514, -⟩ := id AP
      have hin514 : ¬ ((1 : Int32) < 0 ∨ cl514.slots.size ≤ ((1 : Int32)).toNatClampNeg) := inb_of S514 (own_inb hM (k := 1) (by simp) hm)
      have P515 : Rg p e below (s₁.setTop (mkF m 33 #[sR P, sI 0, sI 2, sI key, sI 1, sI 1, sI 1, sI x1] [(.int key), (.int x1)])) B0 := fun t k => P512 t (by
        refine XS.icmpNo X0.here hx rfl (hb hby dj65_59_33) rfl (tlt (show x0 < key from q513)).2.1 ?_
        refine XS.iload X0.here hx rfl (hb hby dj65_59_36) rfl ?_
        refine XS.iconst X0.here hx rfl (hb hby dj65_59_38) ?_
        refine XS.iadd X0.here hx rfl (hb hby dj65_59_39) rfl ?_
        refine XS.istore X0.here hx rfl (hb hby dj65_59_40) rfl (l' := #[sR P, sI 0, sI 2, sI key, sI 1, sI 1, sI 0, sI x0]) rfl ?_
        refine XS.goto X0.here hx rfl (pc0 := 42) (pc' := 63) rfl (hb hby dj65_59_42) (by decide) (by decide) ?_
        refine XS.goto X0.here hx rfl (pc0 := 63) (pc' := 8) rfl (hb hby dj65_59_63) (by decide) (by decide) ?_
        refine XS.iload X0.here hx rfl (hb hby dj65_59_8) rfl ?_
        refine XS.iload X0.here hx rfl (hb hby dj65_59_10) rfl ?_
        refine XS.icmpNo X0.here hx rfl (hb hby dj65_59_12) rfl (flt (show ¬ ((1 : Int32) < (1 : Int32)) from (by decide))).2.2.1 ?_
        refine XS.iload X0.here hx rfl (hb hby dj65_59_15) rfl ?_
        refine XS.iload X0.here hx rfl (hb hby dj65_59_17) rfl ?_
        refine XS.iadd X0.here hx rfl (hb hby dj65_59_19) rfl ?_
        refine XS.iconst X0.here hx rfl (hb hby dj65_59_20) ?_
        refine XS.iushr X0.here hx rfl (hb hby dj65_59_21) rfl ?_
        refine XS.istore X0.here hx rfl (hb hby dj65_59_22) rfl (l' := #[sR P, sI 0, sI 2, sI key, sI 1, sI 1, sI 1, sI x0]) rfl ?_
        refine XS.aloadN X0.here hx rfl (hb hby dj65_59_24) rfl rfl ?_
        refine XS.iload X0.here hx rfl (hb hby dj65_59_25) rfl ?_
        show Sg p e below (s₁.setTop (mkF m 27 #[sR P, sI 0, sI 2, sI key, sI 1, sI 1, sI 1, sI x0] [(.int (1 : Int32)), (.ref P)])) _
        refine X0.iaload hx (j := (1 : Int32)) (v := (.int x1)) (by rw [e0]; exact Ar514.1) (State.isArrayOf_alike hZ.alike Ar514.2.1) Ar514.2.2 hin514 (H514.at hin514 rfl) (g := (mkF m 27 #[sR P, sI 0, sI 2, sI key, sI 1, sI 1, sI 1, sI x0] [(.int (1 : Int32)), (.ref P)])) rfl rfl (hb hby dj65_59_27) _ ?_
        show Sg p e below (s₁.setTop (mkF m 28 #[sR P, sI 0, sI 2, sI key, sI 1, sI 1, sI 1, sI x0] [(.int x1)])) _
        refine XS.istore X0.here hx rfl (hb hby dj65_59_28) rfl (l' := #[sR P, sI 0, sI 2, sI key, sI 1, sI 1, sI 1, sI x1]) rfl ?_
        refine XS.iload X0.here hx rfl (hb hby dj65_59_30) rfl ?_
        refine XS.iloadN X0.here hx rfl (hb hby dj65_59_32) rfl ?_
        show Sg p e below (s₁.setTop (mkF m 33 #[sR P, sI 0, sI 2, sI key, sI 1, sI 1, sI 1, sI x1] [(.int key), (.int x1)])) _
        exact k)
      by_cases q516 : x1 < key
      · skip
        have tq513 := Int32.lt_iff_toInt_lt.mp q513
        have tq516 := Int32.lt_iff_toInt_lt.mp q516
        obtain ⟨fs517, hr517, hrun517, hended517, hW517, hsame517⟩ := X0.leave (v := some (.int (-3 : Int32))) (fun h => by rw [Bd.returns] at h; cases h)
        refine ⟨_, _, pre0 _ (P515 _ ?_), hrun517, hended517, _, _, rfl, ?_, ⟨⟨_, rfl⟩, hW517, hsame517.mono (Nat.le_of_ble_eq_true rfl) (Nat.le_of_ble_eq_true rfl)⟩⟩
        · show Sg p e below (s₁.setTop (mkF m 33 #[sR P, sI 0, sI 2, sI key, sI 1, sI 1, sI 1, sI x1] [(.int key), (.int x1)])) _
          refine XS.icmpNo X0.here hx rfl (hb hby dj65_59_33) rfl (tlt (show x1 < key from q516)).2.1 ?_
          refine XS.iload X0.here hx rfl (hb hby dj65_59_36) rfl ?_
          refine XS.iconst X0.here hx rfl (hb hby dj65_59_38) ?_
          refine XS.iadd X0.here hx rfl (hb hby dj65_59_39) rfl ?_
          refine XS.istore X0.here hx rfl (hb hby dj65_59_40) rfl (l' := #[sR P, sI 0, sI 2, sI key, sI 2, sI 1, sI 1, sI x1]) rfl ?_
          refine XS.goto X0.here hx rfl (pc0 := 42) (pc' := 63) rfl (hb hby dj65_59_42) (by decide) (by decide) ?_
          refine XS.goto X0.here hx rfl (pc0 := 63) (pc' := 8) rfl (hb hby dj65_59_63) (by decide) (by decide) ?_
          refine XS.iload X0.here hx rfl (hb hby dj65_59_8) rfl ?_
          refine XS.iload X0.here hx rfl (hb hby dj65_59_10) rfl ?_
          refine XS.icmpYes X0.here hx rfl (pc0 := 12) (pc' := 66) rfl (hb hby dj65_59_12) rfl (tlt (show (1 : Int32) < (2 : Int32) from (by decide))).2.2.1 (by decide) (by decide) ?_
          refine XS.iload X0.here hx rfl (hb hby dj65_59_66) rfl ?_
          refine XS.iconst X0.here hx rfl (hb hby dj65_59_68) ?_
          refine XS.iadd X0.here hx rfl (hb hby dj65_59_69) rfl ?_
          refine XS.ineg X0.here hx rfl (hb hby dj65_59_70) rfl ?_
          show Sg p e below (s₁.setTop (mkF m 71 #[sR P, sI 0, sI 2, sI key, sI 2, sI 1, sI 1, sI x1] [(.int (-3 : Int32))])) _
          exact retI X0 hx Bd.returns (hb hby dj65_59_71) hr517
        · show Q_bs0 [x0, x1] key h0 n0 _ s₁.heap _
          rw [e0]
          exact ⟨_, rfl, N0, rfl, Or.inr ⟨by decide, fun hm => by (simp only [List.mem_cons, List.not_mem_nil, or_false] at hm; rcases hm with e | e <;> (have e' := congrArg Int32.toInt e; omega))⟩⟩
      · skip
        have P518 : Rg p e below (s₁.setTop (mkF m 48 #[sR P, sI 0, sI 2, sI key, sI 1, sI 1, sI 1, sI x1] [(.int key), (.int x1)])) B0 := fun t k => P515 t (by
          refine XS.icmpYes X0.here hx rfl (pc0 := 33) (pc' := 45) rfl (hb hby dj65_59_33) rfl (flt (show ¬ (x1 < key) from q516)).2.1 (by decide) (by decide) ?_
          refine XS.iload X0.here hx rfl (hb hby dj65_59_45) rfl ?_
          refine XS.iloadN X0.here hx rfl (hb hby dj65_59_47) rfl ?_
          show Sg p e below (s₁.setTop (mkF m 48 #[sR P, sI 0, sI 2, sI key, sI 1, sI 1, sI 1, sI x1] [(.int key), (.int x1)])) _
          exact k)
        by_cases q519 : key < x1
        · skip
          have tq513 := Int32.lt_iff_toInt_lt.mp q513
          have tq516 := fun z => q516 (Int32.lt_iff_toInt_lt.mpr z)
          have tq519 := Int32.lt_iff_toInt_lt.mp q519
          obtain ⟨fs520, hr520, hrun520, hended520, hW520, hsame520⟩ := X0.leave (v := some (.int (-2 : Int32))) (fun h => by rw [Bd.returns] at h; cases h)
          refine ⟨_, _, pre0 _ (P518 _ ?_), hrun520, hended520, _, _, rfl, ?_, ⟨⟨_, rfl⟩, hW520, hsame520.mono (Nat.le_of_ble_eq_true rfl) (Nat.le_of_ble_eq_true rfl)⟩⟩
          · show Sg p e below (s₁.setTop (mkF m 48 #[sR P, sI 0, sI 2, sI key, sI 1, sI 1, sI 1, sI x1] [(.int key), (.int x1)])) _
            refine XS.icmpNo X0.here hx rfl (hb hby dj65_59_48) rfl (tlt (show key < x1 from q519)).2.2.2 ?_
            refine XS.iload X0.here hx rfl (hb hby dj65_59_51) rfl ?_
            refine XS.iconst X0.here hx rfl (hb hby dj65_59_53) ?_
            refine XS.isub X0.here hx rfl (hb hby dj65_59_54) rfl ?_
            refine XS.istore X0.here hx rfl (hb hby dj65_59_55) rfl (l' := #[sR P, sI 0, sI 2, sI key, sI 1, sI 0, sI 1, sI x1]) rfl ?_
            refine XS.goto X0.here hx rfl (pc0 := 57) (pc' := 63) rfl (hb hby dj65_59_57) (by decide) (by decide) ?_
            refine XS.goto X0.here hx rfl (pc0 := 63) (pc' := 8) rfl (hb hby dj65_59_63) (by decide) (by decide) ?_
            refine XS.iload X0.here hx rfl (hb hby dj65_59_8) rfl ?_
            refine XS.iload X0.here hx rfl (hb hby dj65_59_10) rfl ?_
            refine XS.icmpYes X0.here hx rfl (pc0 := 12) (pc' := 66) rfl (hb hby dj65_59_12) rfl (tlt (show (0 : Int32) < (1 : Int32) from (by decide))).2.2.1 (by decide) (by decide) ?_
            refine XS.iload X0.here hx rfl (hb hby dj65_59_66) rfl ?_
            refine XS.iconst X0.here hx rfl (hb hby dj65_59_68) ?_
            refine XS.iadd X0.here hx rfl (hb hby dj65_59_69) rfl ?_
            refine XS.ineg X0.here hx rfl (hb hby dj65_59_70) rfl ?_
            show Sg p e below (s₁.setTop (mkF m 71 #[sR P, sI 0, sI 2, sI key, sI 1, sI 0, sI 1, sI x1] [(.int (-2 : Int32))])) _
            exact retI X0 hx Bd.returns (hb hby dj65_59_71) hr520
          · show Q_bs0 [x0, x1] key h0 n0 _ s₁.heap _
            rw [e0]
            exact ⟨_, rfl, N0, rfl, Or.inr ⟨by decide, fun hm => by (simp only [List.mem_cons, List.not_mem_nil, or_false] at hm; rcases hm with e | e <;> (have e' := congrArg Int32.toInt e; omega))⟩⟩
        · skip
          obtain ⟨fs521, hr521, hrun521, hended521, hW521, hsame521⟩ := X0.leave (v := some (.int (1 : Int32))) (fun h => by rw [Bd.returns] at h; cases h)
          refine ⟨_, _, pre0 _ (P518 _ ?_), hrun521, hended521, _, _, rfl, ?_, ⟨⟨_, rfl⟩, hW521, hsame521.mono (Nat.le_of_ble_eq_true rfl) (Nat.le_of_ble_eq_true rfl)⟩⟩
          · show Sg p e below (s₁.setTop (mkF m 48 #[sR P, sI 0, sI 2, sI key, sI 1, sI 1, sI 1, sI x1] [(.int key), (.int x1)])) _
            refine XS.icmpYes X0.here hx rfl (pc0 := 48) (pc' := 60) rfl (hb hby dj65_59_48) rfl (flt (show ¬ (key < x1) from q519)).2.2.2 (by decide) (by decide) ?_
            refine XS.iload X0.here hx rfl (hb hby dj65_59_60) rfl ?_
            show Sg p e below (s₁.setTop (mkF m 62 #[sR P, sI 0, sI 2, sI key, sI 1, sI 1, sI 1, sI x1] [(.int (1 : Int32))])) _
            exact retI X0 hx Bd.returns (hb hby dj65_59_62) hr521
          · show Q_bs0 [x0, x1] key h0 n0 _ s₁.heap _
            rw [e0]
            exact ⟨_, rfl, N0, rfl, Or.inl ⟨1, by simp, rfl, congrArg some (own_eq3 q516 q519)⟩⟩
    · skip
      have P522 : Rg p e below (s₁.setTop (mkF m 48 #[sR P, sI 0, sI 2, sI key, sI 0, sI 1, sI 0, sI x0] [(.int key), (.int x0)])) B0 := fun t k => P512 t (by
        refine XS.icmpYes X0.here hx rfl (pc0 := 33) (pc' := 45) rfl (hb hby dj65_59_33) rfl (flt (show ¬ (x0 < key) from q513)).2.1 (by decide) (by decide) ?_
        refine XS.iload X0.here hx rfl (hb hby dj65_59_45) rfl ?_
        refine XS.iloadN X0.here hx rfl (hb hby dj65_59_47) rfl ?_
        show Sg p e below (s₁.setTop (mkF m 48 #[sR P, sI 0, sI 2, sI key, sI 0, sI 1, sI 0, sI x0] [(.int key), (.int x0)])) _
        exact k)
      by_cases q523 : key < x0
      · skip
        have tq513 := fun z => q513 (Int32.lt_iff_toInt_lt.mpr z)
        have tq523 := Int32.lt_iff_toInt_lt.mp q523
        obtain ⟨fs524, hr524, hrun524, hended524, hW524, hsame524⟩ := X0.leave (v := some (.int (-1 : Int32))) (fun h => by rw [Bd.returns] at h; cases h)
        refine ⟨_, _, pre0 _ (P522 _ ?_), hrun524, hended524, _, _, rfl, ?_, ⟨⟨_, rfl⟩, hW524, hsame524.mono (Nat.le_of_ble_eq_true rfl) (Nat.le_of_ble_eq_true rfl)⟩⟩
        · show Sg p e below (s₁.setTop (mkF m 48 #[sR P, sI 0, sI 2, sI key, sI 0, sI 1, sI 0, sI x0] [(.int key), (.int x0)])) _
          refine XS.icmpNo X0.here hx rfl (hb hby dj65_59_48) rfl (tlt (show key < x0 from q523)).2.2.2 ?_
          refine XS.iload X0.here hx rfl (hb hby dj65_59_51) rfl ?_
          refine XS.iconst X0.here hx rfl (hb hby dj65_59_53) ?_
          refine XS.isub X0.here hx rfl (hb hby dj65_59_54) rfl ?_
          refine XS.istore X0.here hx rfl (hb hby dj65_59_55) rfl (l' := #[sR P, sI 0, sI 2, sI key, sI 0, sI (-1), sI 0, sI x0]) rfl ?_
          refine XS.goto X0.here hx rfl (pc0 := 57) (pc' := 63) rfl (hb hby dj65_59_57) (by decide) (by decide) ?_
          refine XS.goto X0.here hx rfl (pc0 := 63) (pc' := 8) rfl (hb hby dj65_59_63) (by decide) (by decide) ?_
          refine XS.iload X0.here hx rfl (hb hby dj65_59_8) rfl ?_
          refine XS.iload X0.here hx rfl (hb hby dj65_59_10) rfl ?_
          refine XS.icmpYes X0.here hx rfl (pc0 := 12) (pc' := 66) rfl (hb hby dj65_59_12) rfl (tlt (show (-1 : Int32) < (0 : Int32) from (by decide))).2.2.1 (by decide) (by decide) ?_
          refine XS.iload X0.here hx rfl (hb hby dj65_59_66) rfl ?_
          refine XS.iconst X0.here hx rfl (hb hby dj65_59_68) ?_
          refine XS.iadd X0.here hx rfl (hb hby dj65_59_69) rfl ?_
          refine XS.ineg X0.here hx rfl (hb hby dj65_59_70) rfl ?_
          show Sg p e below (s₁.setTop (mkF m 71 #[sR P, sI 0, sI 2, sI key, sI 0, sI (-1), sI 0, sI x0] [(.int (-1 : Int32))])) _
          exact retI X0 hx Bd.returns (hb hby dj65_59_71) hr524
        · show Q_bs0 [x0, x1] key h0 n0 _ s₁.heap _
          rw [e0]
          exact ⟨_, rfl, N0, rfl, Or.inr ⟨by decide, fun hm => by (simp only [List.mem_cons, List.not_mem_nil, or_false] at hm; rcases hm with e | e <;> (have e' := congrArg Int32.toInt e; omega))⟩⟩
      · skip
        obtain ⟨fs525, hr525, hrun525, hended525, hW525, hsame525⟩ := X0.leave (v := some (.int (0 : Int32))) (fun h => by rw [Bd.returns] at h; cases h)
        refine ⟨_, _, pre0 _ (P522 _ ?_), hrun525, hended525, _, _, rfl, ?_, ⟨⟨_, rfl⟩, hW525, hsame525.mono (Nat.le_of_ble_eq_true rfl) (Nat.le_of_ble_eq_true rfl)⟩⟩
        · show Sg p e below (s₁.setTop (mkF m 48 #[sR P, sI 0, sI 2, sI key, sI 0, sI 1, sI 0, sI x0] [(.int key), (.int x0)])) _
          refine XS.icmpYes X0.here hx rfl (pc0 := 48) (pc' := 60) rfl (hb hby dj65_59_48) rfl (flt (show ¬ (key < x0) from q523)).2.2.2 (by decide) (by decide) ?_
          refine XS.iload X0.here hx rfl (hb hby dj65_59_60) rfl ?_
          show Sg p e below (s₁.setTop (mkF m 62 #[sR P, sI 0, sI 2, sI key, sI 0, sI 1, sI 0, sI x0] [(.int (0 : Int32))])) _
          exact retI X0 hx Bd.returns (hb hby dj65_59_62) hr525
        · show Q_bs0 [x0, x1] key h0 n0 _ s₁.heap _
          rw [e0]
          exact ⟨_, rfl, N0, rfl, Or.inl ⟨0, by simp, rfl, congrArg some (own_eq3 q513 q523)⟩⟩
  · exact absurd hlen (by simp)
theorem dj65_58_0 : decode jdk_65_method_58_code 0 = .ok (.aload_n 0, 1) := by decide +kernel
theorem dj65_58_1 : decode jdk_65_method_58_code 1 = .ok (.arraylength, 1) := by decide +kernel
theorem dj65_58_2 : decode jdk_65_method_58_code 2 = .ok (.iload_n 1, 1) := by decide +kernel
theorem dj65_58_3 : decode jdk_65_method_58_code 3 = .ok (.iload_n 2, 1) := by decide +kernel
theorem dj65_58_4 : decode jdk_65_method_58_code 4 = .ok (.invokestatic 13, 3) := by decide +kernel
theorem pd__28III_29V : parseMethodDescriptor "(III)V" = some ⟨[.int, .int, .int], none⟩ := by decide +kernel
theorem dj65_58_7 : decode jdk_65_method_58_code 7 = .ok (.aload_n 0, 1) := by decide +kernel
theorem dj65_58_8 : decode jdk_65_method_58_code 8 = .ok (.iload_n 1, 1) := by decide +kernel
theorem dj65_58_9 : decode jdk_65_method_58_code 9 = .ok (.iload_n 2, 1) := by decide +kernel
theorem dj65_58_10 : decode jdk_65_method_58_code 10 = .ok (.iload_n 3, 1) := by decide +kernel
theorem dj65_58_11 : decode jdk_65_method_58_code 11 = .ok (.invokestatic 209, 3) := by decide +kernel
theorem pd__28_5bIIII_29I : parseMethodDescriptor "([IIII)I" = some ⟨[(.array .int), .int, .int, .int], some .int⟩ := by decide +kernel
theorem dj65_58_14 : decode jdk_65_method_58_code 14 = .ok (.ireturn, 1) := by decide +kernel
theorem ef_bsr (m : MethodId) (x0 : Addr) (x1 : Int32) (x2 : Int32) (x3 : Int32) : entryFrame m #[(.ref x0), (.int x1), (.int x2), (.int x3)] 4 = mkF m 0 #[sR x0, sI x1, sI x2, sI x3] [] := by (first | (simp [entryFrame, mkF, argsToLocals, Value.category]; done) | rfl)
def Q_bsr (pl : List Int32) (key : Int32) (h0 : Heap) (n0 : Nat) (v : Option Value) (h : Heap) (L : List Loc) : Prop := ∃ r : Int32, v = some (.int r) ∧ Fr n0 L ∧ h = h0 ∧ own_found pl key r
set_option maxRecDepth 65536 in
set_option maxHeartbeats 40000000 in
theorem rm_bsr (l : Launch) (Z : State) (a0 : Array Value) (hw : ∀ d ∈ tables_1, d.before a0 Z = true) (ws : List Jvm.Cond) (P : Addr) (kP : ClassId) (M : Int32) (pl ur : List Int32) (cn key : Int32) (h0 : Heap) (n0 : Nat) (Z0 : n0 ≤ h0.size) (AP : Arv Z h0 P kP .int M ((pl ++ ur).map Value.int) (.int (0 : Int32))) (hM : M = Int32.ofNat (pl ++ ur).length) (hm : (pl ++ ur).length ≤ 3) (hc : cn = Int32.ofNat pl.length) (hs : pl.Pairwise (· < ·)) (hp2 : pl.length ≤ 2) :
    MetFree l (⟨"java/util/Arrays", "binarySearch", "([IIII)I"⟩ : MethodName) (head1 (Jvm.Cond.code (⟨"java/util/Arrays", "binarySearch", "([IIII)I"⟩ : MethodName) jdk_65_method_58_code 4 (some .int) :: ws) ({ frames := 1, cells := 0, slots := 0, locals := 19 } : Room)) (fun a U => a = #[(.ref P), (.int (0 : Int32)), (.int cn), (.int key)] ∧ Z.Warmed39 U.vm ∧ U.heap = h0) (fun _ _ _ _ _ => True) (fun _ U o U' => ∃ v L, o = .returned v ∧ Q_bsr pl key h0 n0 v U'.heap L ∧ FrameEnd U o U' L ({ frames := 1, cells := 0, slots := 0, locals := 19 } : Room).cells ({ frames := 1, cells := 0, slots := 0, locals := 19 } : Room).slots) := by
  refine MetFree.of_bodySF (plainFor_of_name pn_java_util_Arrays) hisR ?_
  intro p e s m args below meth c s₁ Bd hml0 hP hK
  obtain ⟨rfl, hZ, hh⟩ := hP
  have hx := Bd.exec
  have hby := Bd.bytes
  have hml : c.maxLocals = 4 := hml0
  have hown : s.vm.findClass "java/util/Arrays" = some m.cls := findClass_of_methodNamed Bd.named
  have hnm := (name_of_methodNamed Bd.named Bd.method).1
  have X0 : Stand p l e ({ frames := 1, cells := 0, slots := 0, locals := 19 } : Room) s m #[(.ref P), (.int (0 : Int32)), (.int cn), (.int key)] below meth c s₁ [] 0 0 := Stand.of_body Bd
  have e0 : s₁.heap = h0 := by rw [← hh, Bd.state]; rfl
  have N0 := Fr.nil n0
  have pre0 : ∀ t, Sg p e below (s₁.setTop (mkF m 0 #[sR P, sI 0, sI cn, sI key] [])) t → Steps p.tables e below (s₁.setTop (entryFrame m #[(.ref P), (.int (0 : Int32)), (.int cn), (.int key)] 4)) t := fun t k => castTop (ef_bsr m P (0 : Int32) cn key) k
  have P0 : ∀ t, Sg p e below (s₁.setTop (mkF m 0 #[sR P, sI 0, sI cn, sI key] [])) t → Sg p e below (s₁.setTop (mkF m 0 #[sR P, sI 0, sI cn, sI key] [])) t := fun t k => k
  obtain ⟨B0, pre0, P0⟩ : ∃ B : State, (∀ t, Steps p.tables e below B t → Steps p.tables e below (s₁.setTop (entryFrame m #[(.ref P), (.int (0 : Int32)), (.int cn), (.int key)] 4)) t) ∧ Rg p e below (s₁.setTop (mkF m 0 #[sR P, sI 0, sI cn, sI key] [])) B := ⟨_, pre0, P0⟩
  obtain ⟨cl526, Ar526, -, S526, N526, -, -⟩ := id AP
  obtain ⟨_, _, ⟨T527, L527, k527, n527⟩, -, X527, ⟨Lc527, hQ527, l527, y527, z527⟩, st527⟩ := Jvm.LawKit.callS X0 hx (y := (⟨"java/util/Arrays", "rangeCheck", "(III)V"⟩ : MethodName)) hown (mvT hZ (own_hw hw 73 rfl)) (mvT hZ (own_hw hw 74 rfl)) (mvT hZ (own_hw hw 71 rfl)) (mvT hZ (own_hw hw 75 rfl)) (by decide) (backOf (W := 0) (rm_rchk l Z a0 hw [] M cn h0 n0 Z0 (own_nneg hc (own_lle hm)) (own_nlt hM hc hm)) hZ (own_hw hw 75 rfl) (own_hw hw 71 rfl) (by decide) (by decide)) (g := (mkF m 4 #[sR P, sI 0, sI cn, sI key] [(.int cn), (.int (0 : Int32)), (.int M)])) rfl (by rw [hml]; rfl) (argsL := [(.int M), (.int (0 : Int32)), (.int cn)]) (rest := []) (lenOf pd__28III_29V rfl) rfl (by show 2 * 0 + _ ≤ _; exact Nat.le_of_eq rfl) (hb hby dj65_58_4) (fun _ _ => ⟨rfl, e0, (Nat.le_of_ble_eq_true rfl : 0 + 0 ≤ _), (Nat.le_of_ble_eq_true rfl : 0 + 0 ≤ _)⟩)
  dsimp only [Pt.U, Pt.locs, Pt.cells, Pt.slots] at X527 l527 y527 z527 st527 hQ527
  subst l527 y527 z527
  obtain ⟨rfl, Nq527, e527⟩ := hQ527
  have N528 := Fr.app N0 Nq527
  have P529 : Rg p e below (T527.setTop (mkF m 7 #[sR P, sI 0, sI cn, sI key] [])) B0 := fun t k => P0 t (by
    refine XS.aloadN X0.here hx rfl (hb hby dj65_58_0) rfl rfl ?_
    show Sg p e below (s₁.setTop (mkF m 1 #[sR P, sI 0, sI cn, sI key] [(.ref P)])) _
    refine X0.arraylength hx (by rw [e0]; exact Ar526.1) (State.isArrayOf_alike hZ.alike Ar526.2.1) (g := (mkF m 1 #[sR P, sI 0, sI cn, sI key] [(.ref P)])) rfl rfl (hb hby dj65_58_1) _ ?_
    rw [len_of S526 N526]
    show Sg p e below (s₁.setTop (mkF m 2 #[sR P, sI 0, sI cn, sI key] [(.int M)])) _
    refine XS.iloadN X0.here hx rfl (hb hby dj65_58_2) rfl ?_
    refine XS.iloadN X0.here hx rfl (hb hby dj65_58_3) rfl ?_
    show Sg p e below (s₁.setTop (mkF m 4 #[sR P, sI 0, sI cn, sI key] [(.int cn), (.int (0 : Int32)), (.int M)])) _
    exact st527 _ k)
  obtain ⟨_, _, ⟨T530, L530, k530, n530⟩, -, X530, ⟨Lc530, hQ530, l530, y530, z530⟩, st530⟩ := Jvm.LawKit.callS X527 hx (y := (⟨"java/util/Arrays", "binarySearch0", "([IIII)I"⟩ : MethodName)) hown (mvT hZ (own_hw hw 76 rfl)) (mvT hZ (own_hw hw 77 rfl)) (mvT hZ (own_hw hw 71 rfl)) (mvT hZ (own_hw hw 78 rfl)) (by decide) (backOf (W := 0) (rm_bs0 l Z a0 hw [] P kP M pl ur cn key h0 n0 Z0 AP hM hm hc hs hp2) hZ (own_hw hw 78 rfl) (own_hw hw 71 rfl) (by decide) (by decide)) (g := (mkF m 11 #[sR P, sI 0, sI cn, sI key] [(.int key), (.int cn), (.int (0 : Int32)), (.ref P)])) rfl (by rw [hml]; rfl) (argsL := [(.ref P), (.int (0 : Int32)), (.int cn), (.int key)]) (rest := []) (lenOf pd__28_5bIIII_29I rfl) rfl (by show 2 * 0 + _ ≤ _; exact Nat.le_of_eq rfl) (hb hby dj65_58_11) (fun _ _ => ⟨rfl, e527, (Nat.le_of_ble_eq_true rfl : 0 + 0 ≤ _), (Nat.le_of_ble_eq_true rfl : 0 + 0 ≤ _)⟩)
  dsimp only [Pt.U, Pt.locs, Pt.cells, Pt.slots] at X530 l530 y530 z530 st530 hQ530
  subst l530 y530 z530
  obtain ⟨r530, rfl, Nq530, e530, hf530⟩ := hQ530
  have N531 := Fr.app N528 Nq530
  have P532 : Rg p e below (T530.setTop (mkF m 14 #[sR P, sI 0, sI cn, sI key] [(.int r530)])) B0 := fun t k => P529 t (by
    refine XS.aloadN X527.here hx rfl (hb hby dj65_58_7) rfl rfl ?_
    refine XS.iloadN X527.here hx rfl (hb hby dj65_58_8) rfl ?_
    refine XS.iloadN X527.here hx rfl (hb hby dj65_58_9) rfl ?_
    refine XS.iloadN X527.here hx rfl (hb hby dj65_58_10) rfl ?_
    show Sg p e below (T527.setTop (mkF m 11 #[sR P, sI 0, sI cn, sI key] [(.int key), (.int cn), (.int (0 : Int32)), (.ref P)])) _
    exact st530 _ k)
  obtain ⟨fs533, hr533, hrun533, hended533, hW533, hsame533⟩ := X530.leave (v := some (.int r530)) (fun h => by rw [Bd.returns] at h; cases h)
  refine ⟨_, _, pre0 _ (P532 _ ?_), hrun533, hended533, _, _, rfl, ?_, ⟨⟨_, rfl⟩, hW533, hsame533.mono (Nat.le_of_ble_eq_true rfl) (Nat.le_of_ble_eq_true rfl)⟩⟩
  · show Sg p e below (T530.setTop (mkF m 14 #[sR P, sI 0, sI cn, sI key] [(.int r530)])) _
    exact retI X530 hx Bd.returns (hb hby dj65_58_14) hr533
  · show Q_bsr pl key h0 n0 _ T530.heap _
    rw [e530]
    exact ⟨_, rfl, N531, rfl, hf530⟩
theorem dp22_4_0 : decode prog_22_method_4_code 0 = .ok (.aload_n 0, 1) := by decide +kernel
theorem dp22_4_1 : decode prog_22_method_4_code 1 = .ok (.getfield 7, 3) := by decide +kernel
theorem dp22_4_4 : decode prog_22_method_4_code 4 = .ok (.iconst 0, 1) := by decide +kernel
theorem dp22_4_5 : decode prog_22_method_4_code 5 = .ok (.aload_n 0, 1) := by decide +kernel
theorem dp22_4_6 : decode prog_22_method_4_code 6 = .ok (.getfield 25, 3) := by decide +kernel
theorem dp22_4_9 : decode prog_22_method_4_code 9 = .ok (.iload_n 1, 1) := by decide +kernel
theorem dp22_4_10 : decode prog_22_method_4_code 10 = .ok (.bipush 6, 2) := by decide +kernel
theorem dp22_4_12 : decode prog_22_method_4_code 12 = .ok (.iushr, 1) := by decide +kernel
theorem dp22_4_13 : decode prog_22_method_4_code 13 = .ok (.invokestatic 29, 3) := by decide +kernel
theorem dp22_4_16 : decode prog_22_method_4_code 16 = .ok (.istore_n 2, 1) := by decide +kernel
theorem dp22_4_17 : decode prog_22_method_4_code 17 = .ok (.iload_n 2, 1) := by decide +kernel
theorem dp22_4_18 : decode prog_22_method_4_code 18 = .ok (.ifCond .lt 19, 3) := by decide +kernel
theorem dp22_4_21 : decode prog_22_method_4_code 21 = .ok (.aload_n 0, 1) := by decide +kernel
theorem dp22_4_22 : decode prog_22_method_4_code 22 = .ok (.getfield 13, 3) := by decide +kernel
theorem dp22_4_25 : decode prog_22_method_4_code 25 = .ok (.iload_n 2, 1) := by decide +kernel
theorem dp22_4_26 : decode prog_22_method_4_code 26 = .ok (.dup2, 1) := by decide +kernel
theorem dp22_4_27 : decode prog_22_method_4_code 27 = .ok (.laload, 1) := by decide +kernel
theorem dp22_4_28 : decode prog_22_method_4_code 28 = .ok (.lconst 1, 1) := by decide +kernel
theorem dp22_4_29 : decode prog_22_method_4_code 29 = .ok (.iload_n 1, 1) := by decide +kernel
theorem dp22_4_30 : decode prog_22_method_4_code 30 = .ok (.lshl, 1) := by decide +kernel
theorem dp22_4_31 : decode prog_22_method_4_code 31 = .ok (.ldc2_w 35, 3) := by decide +kernel
theorem dp22_4_34 : decode prog_22_method_4_code 34 = .ok (.lxor, 1) := by decide +kernel
theorem dp22_4_35 : decode prog_22_method_4_code 35 = .ok (.land, 1) := by decide +kernel
theorem dp22_4_36 : decode prog_22_method_4_code 36 = .ok (.lastore, 1) := by decide +kernel
theorem dp22_4_37 : decode prog_22_method_4_code 37 = .ok (.return_, 1) := by decide +kernel
theorem ef_rmv (m : MethodId) (x0 : Addr) (x1 : Int32) : entryFrame m #[(.ref x0), (.int x1)] 3 = mkF m 0 #[sR x0, sI x1, sU] [] := by (first | (simp [entryFrame, mkF, argsToLocals, Value.category]; done) | rfl)
def Q_rmv (Z : State) (W : Addr) (kW : ClassId) (M : Int32) (pl : List Int32) (wv vr : List Int64) (mm : Int32) (h0 : Heap) (n0 : Nat) (v : Option Value) (h : Heap) (L : List Loc) : Prop := v = none ∧ Fr n0 L ∧ Keep h0 h [W] ∧ Arv Z h W kW .long M ((own_rem pl wv mm ++ vr).map Value.long) (.long (0 : Int64))
set_option maxRecDepth 65536 in
set_option maxHeartbeats 40000000 in
theorem rm_rmv (l : Launch) (Z : State) (a0 : Array Value) (hw : ∀ d ∈ tables_1, d.before a0 Z = true) (ws : List Jvm.Cond) (a1 P W : Addr) (kP kW : ClassId) (M : Int32) (pl ur : List Int32) (wv vr : List Int64) (cn : Int32) (mm : Int32) (h0 : Heap) (n0 : Nat) (Z0 : n0 ≤ h0.size) (g_a1 : n0 ≤ a1) (g_P : n0 ≤ P) (g_W : n0 ≤ W) (E1 : Exa Z h0 a1 sM) (EP : Exa Z h0 P "[I") (EW1 : Exa Z h0 W "[J") (Fp : Fld Z h0 a1 sM "places" "[I" (.ref P)) (Fw : Fld Z h0 a1 sM "words" "[J" (.ref W)) (Fc : Fld Z h0 a1 sM "count" "I" (.int cn)) (AP : Arv Z h0 P kP .int M ((pl ++ ur).map Value.int) (.int (0 : Int32))) (AW : Arv Z h0 W kW .long M ((wv ++ vr).map Value.long) (.long (0 : Int64))) (hM : M = Int32.ofNat (pl ++ ur).length) (hm : (pl ++ ur).length ≤ 3) (hc : cn = Int32.ofNat pl.length) (hl : wv.length = pl.length) (hv : vr.length = ur.length) (hs : pl.Pairwise (· < ·)) (hp2 : pl.length ≤ 2) :
    MetFree l (⟨"com/example/whittle/whittle/engine/WordSets$Meet", "remove", "(I)V"⟩ : MethodName) (head1 (Jvm.Cond.code (⟨"com/example/whittle/whittle/engine/WordSets$Meet", "remove", "(I)V"⟩ : MethodName) prog_22_method_4_code 3 none :: ws) ({ frames := 2, cells := 0, slots := 0, locals := 34 } : Room)) (fun a U => a = #[(.ref a1), (.int mm)] ∧ Z.Warmed39 U.vm ∧ U.heap = h0) (fun _ _ _ _ _ => True) (fun _ U o U' => ∃ v L, o = .returned v ∧ Q_rmv Z W kW M pl wv vr mm h0 n0 v U'.heap L ∧ FrameEnd U o U' L ({ frames := 2, cells := 0, slots := 0, locals := 34 } : Room).cells ({ frames := 2, cells := 0, slots := 0, locals := 34 } : Room).slots) := by
  refine MetFree.of_bodySF (plainFor_of_name pn_com_example_whittle_whittle_engine_WordSets_Meet) hisR ?_
  intro p e s m args below meth c s₁ Bd hml0 hP hK
  obtain ⟨rfl, hZ, hh⟩ := hP
  have hx := Bd.exec
  have hby := Bd.bytes
  have hml : c.maxLocals = 3 := hml0
  have hown : s.vm.findClass "com/example/whittle/whittle/engine/WordSets$Meet" = some m.cls := findClass_of_methodNamed Bd.named
  have hnm := (name_of_methodNamed Bd.named Bd.method).1
  have X0 : Stand p l e ({ frames := 2, cells := 0, slots := 0, locals := 34 } : Room) s m #[(.ref a1), (.int mm)] below meth c s₁ [] 0 0 := Stand.of_body Bd
  have e0 : s₁.heap = h0 := by rw [← hh, Bd.state]; rfl
  have N0 := Fr.nil n0
  have pre0 : ∀ t, Sg p e below (s₁.setTop (mkF m 0 #[sR a1, sI mm, sU] [])) t → Steps p.tables e below (s₁.setTop (entryFrame m #[(.ref a1), (.int mm)] 3)) t := fun t k => castTop (ef_rmv m a1 mm) k
  have P0 : ∀ t, Sg p e below (s₁.setTop (mkF m 0 #[sR a1, sI mm, sU] [])) t → Sg p e below (s₁.setTop (mkF m 0 #[sR a1, sI mm, sU] [])) t := fun t k => k
  obtain ⟨B0, pre0, P0⟩ : ∃ B : State, (∀ t, Steps p.tables e below B t → Steps p.tables e below (s₁.setTop (entryFrame m #[(.ref a1), (.int mm)] 3)) t) ∧ Rg p e below (s₁.setTop (mkF m 0 #[sR a1, sI mm, sU] [])) B := ⟨_, pre0, P0⟩
  obtain ⟨T534, X534, e534, st534⟩ := getF X0 hx hZ hown (host := "") (Or.inl (own_hw hw 37 rfl)) Via.refl e0 Fp (g := (mkF m 1 #[sR a1, sI mm, sU] [(.ref a1)])) rfl rfl (hb hby dp22_4_1)
  have P535 : Rg p e below (T534.setTop (mkF m 4 #[sR a1, sI mm, sU] [(.ref P)])) B0 := fun t k => P0 t (by
    refine XS.aloadN X0.here hx rfl (hb hby dp22_4_0) rfl rfl ?_
    show Sg p e below (s₁.setTop (mkF m 1 #[sR a1, sI mm, sU] [(.ref a1)])) _
    exact st534 _ k)
  obtain ⟨T536, X536, e536, st536⟩ := getF X534 hx hZ hown (host := "") (Or.inl (own_hw hw 48 rfl)) Via.refl e534 Fc (g := (mkF m 6 #[sR a1, sI mm, sU] [(.ref a1), (.int (0 : Int32)), (.ref P)])) rfl rfl (hb hby dp22_4_6)
  have P537 : Rg p e below (T536.setTop (mkF m 9 #[sR a1, sI mm, sU] [(.int cn), (.int (0 : Int32)), (.ref P)])) B0 := fun t k => P535 t (by
    refine XS.iconst X534.here hx rfl (hb hby dp22_4_4) ?_
    refine XS.aloadN X534.here hx rfl (hb hby dp22_4_5) rfl rfl ?_
    show Sg p e below (T534.setTop (mkF m 6 #[sR a1, sI mm, sU] [(.ref a1), (.int (0 : Int32)), (.ref P)])) _
    exact st536 _ k)
  obtain ⟨_, _, ⟨T538, L538, k538, n538⟩, -, X538, ⟨Lc538, hQ538, l538, y538, z538⟩, st538⟩ := Jvm.LawKit.callS X536 hx (y := (⟨"java/util/Arrays", "binarySearch", "([IIII)I"⟩ : MethodName)) hown (mvT hZ (own_hw hw 69 rfl)) (mvT hZ (own_hw hw 70 rfl)) (mvT hZ (own_hw hw 71 rfl)) (mvT hZ (own_hw hw 72 rfl)) (by decide) (backOf (W := 0) (rm_bsr l Z a0 hw [] P kP M pl ur cn ((mm.toUInt32 >>> ((6 : Int32) &&& 31).toUInt32).toInt32) h0 n0 Z0 AP hM hm hc hs hp2) hZ (own_hw hw 72 rfl) (own_hw hw 71 rfl) (by decide) (by decide)) (g := (mkF m 13 #[sR a1, sI mm, sU] [(.int ((mm.toUInt32 >>> ((6 : Int32) &&& 31).toUInt32).toInt32)), (.int cn), (.int (0 : Int32)), (.ref P)])) rfl (by rw [hml]; rfl) (argsL := [(.ref P), (.int (0 : Int32)), (.int cn), (.int ((mm.toUInt32 >>> ((6 : Int32) &&& 31).toUInt32).toInt32))]) (rest := []) (lenOf pd__28_5bIIII_29I rfl) rfl (by show 2 * 0 + _ ≤ _; exact Nat.le_of_eq rfl) (hb hby dp22_4_13) (fun _ _ => ⟨rfl, e536, (Nat.le_of_ble_eq_true rfl : 0 + 0 ≤ _), (Nat.le_of_ble_eq_true rfl : 0 + 0 ≤ _)⟩)
  dsimp only [Pt.U, Pt.locs, Pt.cells, Pt.slots] at X538 l538 y538 z538 st538 hQ538
  subst l538 y538 z538
  obtain ⟨r538, rfl, Nq538, e538, hf538⟩ := hQ538
  have N539 := Fr.app N0 Nq538
  have P540 : Rg p e below (T538.setTop (mkF m 16 #[sR a1, sI mm, sU] [(.int r538)])) B0 := fun t k => P537 t (by
    refine XS.iloadN X536.here hx rfl (hb hby dp22_4_9) rfl ?_
    refine XS.bipush X536.here hx rfl (hb hby dp22_4_10) ?_
    refine XS.iushr X536.here hx rfl (hb hby dp22_4_12) rfl ?_
    show Sg p e below (T536.setTop (mkF m 13 #[sR a1, sI mm, sU] [(.int ((mm.toUInt32 >>> ((6 : Int32) &&& 31).toUInt32).toInt32)), (.int cn), (.int (0 : Int32)), (.ref P)])) _
    exact st538 _ k)
  rcases hf538 with ⟨i, hi, hr, hk⟩ | ⟨hneg, hni⟩
  · skip
    have hlen := hp2
    rcases pl with _ | ⟨x0, _ | ⟨x1, _ | ⟨x2, pl⟩⟩⟩
    · skip
      exact absurd hi (Nat.not_lt_zero _)
    · skip
      obtain ⟨y0, rfl⟩ := own_len1 hl
      have hi' : i = 0 := by simp only [List.length_cons, List.length_nil] at hi; omega
      rcases hi' with rfl
      · skip
        have hr' : r538 = (0 : Int32) := hr
        subst hr'
        have hk' : x0 = own_sh mm := Option.some.inj hk
        have hq : ∀ z : Int64, own_rem [x0] [y0] mm = [y0 &&& (own_bit mm ^^^ (-1))] := fun _ => by simp only [own_rem]; rw [if_pos hk']
        obtain ⟨T541, X541, e541, st541⟩ := getF X538 hx hZ hown (host := "") (Or.inl (own_hw hw 39 rfl)) Via.refl e538 Fw (g := (mkF m 22 #[sR a1, sI mm, sI 0] [(.ref a1)])) rfl rfl (hb hby dp22_4_22)
        have P542 : Rg p e below (T541.setTop (mkF m 25 #[sR a1, sI mm, sI 0] [(.ref W)])) B0 := fun t k => P540 t (by
          refine XS.istoreN X538.here hx rfl (hb hby dp22_4_16) rfl (l' := #[sR a1, sI mm, sI 0]) rfl ?_
          refine XS.iloadN X538.here hx rfl (hb hby dp22_4_17) rfl ?_
          refine XS.ifNo X538.here hx rfl (hb hby dp22_4_18) rfl ((if0 _ _).trans (flt (show ¬ ((0 : Int32) < (0 : Int32)) from (by decide))).1) ?_
          refine XS.aloadN X538.here hx rfl (hb hby dp22_4_21) rfl rfl ?_
          show Sg p e below (T538.setTop (mkF m 22 #[sR a1, sI mm, sI 0] [(.ref a1)])) _
          exact st541 _ k)
        obtain ⟨cl543, Ar543, -, S543, N543, H543, -⟩ := id AW
        have hin543 : ¬ ((0 : Int32) < 0 ∨ cl543.slots.size ≤ ((0 : Int32)).toNatClampNeg) := inb_of S543 (own_inb (own_hM2 hM hl hv) (k := 0) (by simp) (own_hm2 hm hl hv))
        obtain ⟨cl544, Ar544, q544, S544, N544, H544, G544⟩ := id AW
        obtain ⟨T544, h544, X544, e544, W544, st544⟩ := stJ X541 hx hZ e541 Ar544 (j := (0 : Int32)) (inb_of S544 (own_inb (own_hM2 hM hl hv) (k := 0) (by simp) (own_hm2 hm hl hv))) (g := (mkF m 36 #[sR a1, sI mm, sI 0] [(.long (y0 &&& (((1 : Int64) <<< (mm &&& 0x3f).toInt64) ^^^ (-1 : Int64)))), (.int (0 : Int32)), (.ref W)])) rfl rfl (hb hby dp22_4_36)
        have v545 : Arv Z h544 W kW .long M (([(y0 &&& (((1 : Int64) <<< (mm &&& 0x3f).toInt64) ^^^ (-1 : Int64)))] ++ vr).map Value.long) (.long (0 : Int64)) := Arv.set Ar544 q544 S544 N544 H544 G544 rfl W544 0 rfl (by simp)
        have P546 : Rg p e below (T544.setTop (mkF m 37 #[sR a1, sI mm, sI 0] [])) B0 := fun t k => P542 t (by
          refine XS.iloadN X541.here hx rfl (hb hby dp22_4_25) rfl ?_
          refine XT.dup2 X541.here hx rfl (hb hby dp22_4_26) rfl rfl rfl ?_
          show Sg p e below (T541.setTop (mkF m 27 #[sR a1, sI mm, sI 0] [(.int (0 : Int32)), (.ref W), (.int (0 : Int32)), (.ref W)])) _
          refine X541.laload hx (j := (0 : Int32)) (v := (.long y0)) (by rw [e541]; exact Ar543.1) (State.isArrayOf_alike hZ.alike Ar543.2.1) Ar543.2.2 hin543 (H543.at hin543 rfl) (g := (mkF m 27 #[sR a1, sI mm, sI 0] [(.int (0 : Int32)), (.ref W), (.int (0 : Int32)), (.ref W)])) rfl rfl (hb hby dp22_4_27) _ ?_
          show Sg p e below (T541.setTop (mkF m 28 #[sR a1, sI mm, sI 0] [(.long y0), (.int (0 : Int32)), (.ref W)])) _
          refine XS.lconst X541.here hx rfl (hb hby dp22_4_28) ?_
          refine XS.iloadN X541.here hx rfl (hb hby dp22_4_29) rfl ?_
          refine XS.lshl X541.here hx rfl (hb hby dp22_4_30) rfl ?_
          show Sg p e below (T541.setTop (mkF m 31 #[sR a1, sI mm, sI 0] [(.long ((1 : Int64) <<< (mm &&& 0x3f).toInt64)), (.long y0), (.int (0 : Int32)), (.ref W)])) _
          refine X541.ldc2Long hx hown (mvT hZ (own_hw hw 79 rfl)) (g := (mkF m 31 #[sR a1, sI mm, sI 0] [(.long ((1 : Int64) <<< (mm &&& 0x3f).toInt64)), (.long y0), (.int (0 : Int32)), (.ref W)])) rfl (hb hby dp22_4_31) _ ?_
          show Sg p e below (T541.setTop (mkF m 34 #[sR a1, sI mm, sI 0] [(.long (-1 : Int64)), (.long ((1 : Int64) <<< (mm &&& 0x3f).toInt64)), (.long y0), (.int (0 : Int32)), (.ref W)])) _
          refine XS.lxor X541.here hx rfl (hb hby dp22_4_34) rfl ?_
          refine XS.land X541.here hx rfl (hb hby dp22_4_35) rfl ?_
          show Sg p e below (T541.setTop (mkF m 36 #[sR a1, sI mm, sI 0] [(.long (y0 &&& (((1 : Int64) <<< (mm &&& 0x3f).toInt64) ^^^ (-1 : Int64)))), (.int (0 : Int32)), (.ref W)])) _
          exact st544 _ k)
        have N547 := Fr.snoc X544 N539 g_W
        have Z548 : n0 ≤ h544.size := Nat.le_trans Z0 (Keep.of_wr W544).1
        have K549 : Keep h0 h544 [W] := (Keep.refl h0 [W]).wr W544 (Or.inl (List.mem_of_getElem? (i := 0) rfl))
        obtain ⟨fs550, hr550, hrun550, hended550, hW550, hsame550⟩ := X544.leave (v := none) (fun _ => rfl)
        refine ⟨_, _, pre0 _ (P546 _ ?_), hrun550, hended550, _, _, rfl, ?_, ⟨⟨_, rfl⟩, hW550, hsame550.mono (Nat.le_of_ble_eq_true rfl) (Nat.le_of_ble_eq_true rfl)⟩⟩
        · show Sg p e below (T544.setTop (mkF m 37 #[sR a1, sI mm, sI 0] [])) _
          exact X544.returnOut hx Bd.returns (hb hby dp22_4_37) hr550
        · show Q_rmv Z W kW M [x0] [y0] vr mm h0 n0 _ T544.heap _
          rw [e544]
          exact ⟨rfl, N547, K549, by rw [hq 0]; exact v545⟩
    · skip
      obtain ⟨y0, y1, rfl⟩ := own_len2 hl
      have hs01 := Int32.lt_iff_toInt_lt.mp (own_p2 hs)
      have hi' : i = 0 ∨ i = 1 := by simp only [List.length_cons, List.length_nil] at hi; omega
      rcases hi' with rfl | rfl
      · skip
        have hr' : r538 = (0 : Int32) := hr
        subst hr'
        have hk' : x0 = own_sh mm := Option.some.inj hk
        have hn1 : ¬ x1 = own_sh mm := fun e => by (have e' := congrArg Int32.toInt (e.trans hk'.symm); omega)
        have hq : ∀ z : Int64, own_rem [x0, x1] [y0, y1] mm = [y0 &&& (own_bit mm ^^^ (-1)), y1] := fun _ => by simp only [own_rem]; rw [if_pos hk', if_neg hn1]
        obtain ⟨T551, X551, e551, st551⟩ := getF X538 hx hZ hown (host := "") (Or.inl (own_hw hw 39 rfl)) Via.refl e538 Fw (g := (mkF m 22 #[sR a1, sI mm, sI 0] [(.ref a1)])) rfl rfl (hb hby dp22_4_22)
        have P552 : Rg p e below (T551.setTop (mkF m 25 #[sR a1, sI mm, sI 0] [(.ref W)])) B0 := fun t k => P540 t (by
          refine XS.istoreN X538.here hx rfl (hb hby dp22_4_16) rfl (l' := #[sR a1, sI mm, sI 0]) rfl ?_
          refine XS.iloadN X538.here hx rfl (hb hby dp22_4_17) rfl ?_
          refine XS.ifNo X538.here hx rfl (hb hby dp22_4_18) rfl ((if0 _ _).trans (flt (show ¬ ((0 : Int32) < (0 : Int32)) from (by decide))).1) ?_
          refine XS.aloadN X538.here hx rfl (hb hby dp22_4_21) rfl rfl ?_
          show Sg p e below (T538.setTop (mkF m 22 #[sR a1, sI mm, sI 0] [(.ref a1)])) _
          exact st551 _ k)
        obtain ⟨cl553, Ar553, -, S553, N553, H553, -⟩ := id AW
        have hin553 : ¬ ((0 : Int32) < 0 ∨ cl553.slots.size ≤ ((0 : Int32)).toNatClampNeg) := inb_of S553 (own_inb (own_hM2 hM hl hv) (k := 0) (by simp) (own_hm2 hm hl hv))
        obtain ⟨cl554, Ar554, q554, S554, N554, H554, G554⟩ := id AW
        obtain ⟨T554, h554, X554, e554, W554, st554⟩ := stJ X551 hx hZ e551 Ar554 (j := (0 : Int32)) (inb_of S554 (own_inb (own_hM2 hM hl hv) (k := 0) (by simp) (own_hm2 hm hl hv))) (g := (mkF m 36 #[sR a1, sI mm, sI 0] [(.long (y0 &&& (((1 : Int64) <<< (mm &&& 0x3f).toInt64) ^^^ (-1 : Int64)))), (.int (0 : Int32)), (.ref W)])) rfl rfl (hb hby dp22_4_36)
        have v555 : Arv Z h554 W kW .long M (([(y0 &&& (((1 : Int64) <<< (mm &&& 0x3f).toInt64) ^^^ (-1 : Int64))), y1] ++ vr).map Value.long) (.long (0 : Int64)) := Arv.set Ar554 q554 S554 N554 H554 G554 rfl W554 0 rfl (by simp)
        have P556 : Rg p e below (T554.setTop (mkF m 37 #[sR a1, sI mm, sI 0] [])) B0 := fun t k => P552 t (by
          refine XS.iloadN X551.here hx rfl (hb hby dp22_4_25) rfl ?_
          refine XT.dup2 X551.here hx rfl (hb hby dp22_4_26) rfl rfl rfl ?_
          show Sg p e below (T551.setTop (mkF m 27 #[sR a1, sI mm, sI 0] [(.int (0 : Int32)), (.ref W), (.int (0 : Int32)), (.ref W)])) _
          refine X551.laload hx (j := (0 : Int32)) (v := (.long y0)) (by rw [e551]; exact Ar553.1) (State.isArrayOf_alike hZ.alike Ar553.2.1) Ar553.2.2 hin553 (H553.at hin553 rfl) (g := (mkF m 27 #[sR a1, sI mm, sI 0] [(.int (0 : Int32)), (.ref W), (.int (0 : Int32)), (.ref W)])) rfl rfl (hb hby dp22_4_27) _ ?_
          show Sg p e below (T551.setTop (mkF m 28 #[sR a1, sI mm, sI 0] [(.long y0), (.int (0 : Int32)), (.ref W)])) _
          refine XS.lconst X551.here hx rfl (hb hby dp22_4_28) ?_
          refine XS.iloadN X551.here hx rfl (hb hby dp22_4_29) rfl ?_
          refine XS.lshl X551.here hx rfl (hb hby dp22_4_30) rfl ?_
          show Sg p e below (T551.setTop (mkF m 31 #[sR a1, sI mm, sI 0] [(.long ((1 : Int64) <<< (mm &&& 0x3f).toInt64)), (.long y0), (.int (0 : Int32)), (.ref W)])) _
          refine X551.ldc2Long hx hown (mvT hZ (own_hw hw 79 rfl)) (g := (mkF m 31 #[sR a1, sI mm, sI 0] [(.long ((1 : Int64) <<< (mm &&& 0x3f).toInt64)), (.long y0), (.int (0 : Int32)), (.ref W)])) rfl (hb hby dp22_4_31) _ ?_
          show Sg p e below (T551.setTop (mkF m 34 #[sR a1, sI mm, sI 0] [(.long (-1 : Int64)), (.long ((1 : Int64) <<< (mm &&& 0x3f).toInt64)), (.long y0), (.int (0 : Int32)), (.ref W)])) _
          refine XS.lxor X551.here hx rfl (hb hby dp22_4_34) rfl ?_
          refine XS.land X551.here hx rfl (hb hby dp22_4_35) rfl ?_
          show Sg p e below (T551.setTop (mkF m 36 #[sR a1, sI mm, sI 0] [(.long (y0 &&& (((1 : Int64) <<< (mm &&& 0x3f).toInt64) ^^^ (-1 : Int64)))), (.int (0 : Int32)), (.ref W)])) _
          exact st554 _ k)
        have N557 := Fr.snoc X554 N539 g_W
        have Z558 : n0 ≤ h554.size := Nat.le_trans Z0 (Keep.of_wr W554).1
        have K559 : Keep h0 h554 [W] := (Keep.refl h0 [W]).wr W554 (Or.inl (List.mem_of_getElem? (i := 0) rfl))
        obtain ⟨fs560, hr560, hrun560, hended560, hW560, hsame560⟩ := X554.leave (v := none) (fun _ => rfl)
        refine ⟨_, _, pre0 _ (P556 _ ?_), hrun560, hended560, _, _, rfl, ?_, ⟨⟨_, rfl⟩, hW560, hsame560.mono (Nat.le_of_ble_eq_true rfl) (Nat.le_of_ble_eq_true rfl)⟩⟩
        · show Sg p e below (T554.setTop (mkF m 37 #[sR a1, sI mm, sI 0] [])) _
          exact X554.returnOut hx Bd.returns (hb hby dp22_4_37) hr560
        · show Q_rmv Z W kW M [x0, x1] [y0, y1] vr mm h0 n0 _ T554.heap _
          rw [e554]
          exact ⟨rfl, N557, K559, by rw [hq 0]; exact v555⟩
      · skip
        have hr' : r538 = (1 : Int32) := hr
        subst hr'
        have hk' : x1 = own_sh mm := Option.some.inj hk
        have hn0 : ¬ x0 = own_sh mm := fun e => by (have e' := congrArg Int32.toInt (e.trans hk'.symm); omega)
        have hq : ∀ z : Int64, own_rem [x0, x1] [y0, y1] mm = [y0, y1 &&& (own_bit mm ^^^ (-1))] := fun _ => by simp only [own_rem]; rw [if_neg hn0, if_pos hk']
        obtain ⟨T561, X561, e561, st561⟩ := getF X538 hx hZ hown (host := "") (Or.inl (own_hw hw 39 rfl)) Via.refl e538 Fw (g := (mkF m 22 #[sR a1, sI mm, sI 1] [(.ref a1)])) rfl rfl (hb hby dp22_4_22)
        have P562 : Rg p e below (T561.setTop (mkF m 25 #[sR a1, sI mm, sI 1] [(.ref W)])) B0 := fun t k => P540 t (by
          refine XS.istoreN X538.here hx rfl (hb hby dp22_4_16) rfl (l' := #[sR a1, sI mm, sI 1]) rfl ?_
          refine XS.iloadN X538.here hx rfl (hb hby dp22_4_17) rfl ?_
          refine XS.ifNo X538.here hx rfl (hb hby dp22_4_18) rfl ((if0 _ _).trans (flt (show ¬ ((1 : Int32) < (0 : Int32)) from (by decide))).1) ?_
          refine XS.aloadN X538.here hx rfl (hb hby dp22_4_21) rfl rfl ?_
          show Sg p e below (T538.setTop (mkF m 22 #[sR a1, sI mm, sI 1] [(.ref a1)])) _
          exact st561 _ k)
        obtain ⟨cl563, Ar563, -, S563, N563, H563, -⟩ := id AW
        have hin563 : ¬ ((1 : Int32) < 0 ∨ cl563.slots.size ≤ ((1 : Int32)).toNatClampNeg) := inb_of S563 (own_inb (own_hM2 hM hl hv) (k := 1) (by simp) (own_hm2 hm hl hv))
        obtain ⟨cl564, Ar564, q564, S564, N564, H564, G564⟩ := id AW
        obtain ⟨T564, h564, X564, e564, W564, st564⟩ := stJ X561 hx hZ e561 Ar564 (j := (1 : Int32)) (inb_of S564 (own_inb (own_hM2 hM hl hv) (k := 1) (by simp) (own_hm2 hm hl hv))) (g := (mkF m 36 #[sR a1, sI mm, sI 1] [(.long (y1 &&& (((1 : Int64) <<< (mm &&& 0x3f).toInt64) ^^^ (-1 : Int64)))), (.int (1 : Int32)), (.ref W)])) rfl rfl (hb hby dp22_4_36)
        have v565 : Arv Z h564 W kW .long M (([y0, (y1 &&& (((1 : Int64) <<< (mm &&& 0x3f).toInt64) ^^^ (-1 : Int64)))] ++ vr).map Value.long) (.long (0 : Int64)) := Arv.set Ar564 q564 S564 N564 H564 G564 rfl W564 1 rfl (by simp)
        have P566 : Rg p e below (T564.setTop (mkF m 37 #[sR a1, sI mm, sI 1] [])) B0 := fun t k => P562 t (by
          refine XS.iloadN X561.here hx rfl (hb hby dp22_4_25) rfl ?_
          refine XT.dup2 X561.here hx rfl (hb hby dp22_4_26) rfl rfl rfl ?_
          show Sg p e below (T561.setTop (mkF m 27 #[sR a1, sI mm, sI 1] [(.int (1 : Int32)), (.ref W), (.int (1 : Int32)), (.ref W)])) _
          refine X561.laload hx (j := (1 : Int32)) (v := (.long y1)) (by rw [e561]; exact Ar563.1) (State.isArrayOf_alike hZ.alike Ar563.2.1) Ar563.2.2 hin563 (H563.at hin563 rfl) (g := (mkF m 27 #[sR a1, sI mm, sI 1] [(.int (1 : Int32)), (.ref W), (.int (1 : Int32)), (.ref W)])) rfl rfl (hb hby dp22_4_27) _ ?_
          show Sg p e below (T561.setTop (mkF m 28 #[sR a1, sI mm, sI 1] [(.long y1), (.int (1 : Int32)), (.ref W)])) _
          refine XS.lconst X561.here hx rfl (hb hby dp22_4_28) ?_
          refine XS.iloadN X561.here hx rfl (hb hby dp22_4_29) rfl ?_
          refine XS.lshl X561.here hx rfl (hb hby dp22_4_30) rfl ?_
          show Sg p e below (T561.setTop (mkF m 31 #[sR a1, sI mm, sI 1] [(.long ((1 : Int64) <<< (mm &&& 0x3f).toInt64)), (.long y1), (.int (1 : Int32)), (.ref W)])) _
          refine X561.ldc2Long hx hown (mvT hZ (own_hw hw 79 rfl)) (g := (mkF m 31 #[sR a1, sI mm, sI 1] [(.long ((1 : Int64) <<< (mm &&& 0x3f).toInt64)), (.long y1), (.int (1 : Int32)), (.ref W)])) rfl (hb hby dp22_4_31) _ ?_
          show Sg p e below (T561.setTop (mkF m 34 #[sR a1, sI mm, sI 1] [(.long (-1 : Int64)), (.long ((1 : Int64) <<< (mm &&& 0x3f).toInt64)), (.long y1), (.int (1 : Int32)), (.ref W)])) _
          refine XS.lxor X561.here hx rfl (hb hby dp22_4_34) rfl ?_
          refine XS.land X561.here hx rfl (hb hby dp22_4_35) rfl ?_
          show Sg p e below (T561.setTop (mkF m 36 #[sR a1, sI mm, sI 1] [(.long (y1 &&& (((1 : Int64) <<< (mm &&& 0x3f).toInt64) ^^^ (-1 : Int64)))), (.int (1 : Int32)), (.ref W)])) _
          exact st564 _ k)
        have N567 := Fr.snoc X564 N539 g_W
        have Z568 : n0 ≤ h564.size := Nat.le_trans Z0 (Keep.of_wr W564).1
        have K569 : Keep h0 h564 [W] := (Keep.refl h0 [W]).wr W564 (Or.inl (List.mem_of_getElem? (i := 0) rfl))
        obtain ⟨fs570, hr570, hrun570, hended570, hW570, hsame570⟩ := X564.leave (v := none) (fun _ => rfl)
        refine ⟨_, _, pre0 _ (P566 _ ?_), hrun570, hended570, _, _, rfl, ?_, ⟨⟨_, rfl⟩, hW570, hsame570.mono (Nat.le_of_ble_eq_true rfl) (Nat.le_of_ble_eq_true rfl)⟩⟩
        · show Sg p e below (T564.setTop (mkF m 37 #[sR a1, sI mm, sI 1] [])) _
          exact X564.returnOut hx Bd.returns (hb hby dp22_4_37) hr570
        · show Q_rmv Z W kW M [x0, x1] [y0, y1] vr mm h0 n0 _ T564.heap _
          rw [e564]
          exact ⟨rfl, N567, K569, by rw [hq 0]; exact v565⟩
    · exact absurd hlen (by simp)
  · skip
    obtain ⟨fs571, hr571, hrun571, hended571, hW571, hsame571⟩ := X538.leave (v := none) (fun _ => rfl)
    refine ⟨_, _, pre0 _ (P540 _ ?_), hrun571, hended571, _, _, rfl, ?_, ⟨⟨_, rfl⟩, hW571, hsame571.mono (Nat.le_of_ble_eq_true rfl) (Nat.le_of_ble_eq_true rfl)⟩⟩
    · show Sg p e below (T538.setTop (mkF m 16 #[sR a1, sI mm, sU] [(.int r538)])) _
      refine XS.istoreN X538.here hx rfl (hb hby dp22_4_16) rfl (l' := #[sR a1, sI mm, sI r538]) rfl ?_
      refine XS.iloadN X538.here hx rfl (hb hby dp22_4_17) rfl ?_
      refine XS.ifYes X538.here hx rfl (pc0 := 18) (pc' := 37) rfl (hb hby dp22_4_18) rfl ((if0 _ _).trans (tlt (show r538 < (0 : Int32) from hneg)).1) (by decide) (by decide) ?_
      show Sg p e below (T538.setTop (mkF m 37 #[sR a1, sI mm, sI r538] [])) _
      exact X538.returnOut hx Bd.returns (hb hby dp22_4_37) hr571
    · show Q_rmv Z W kW M pl wv vr mm h0 n0 _ T538.heap _
      rw [e538]
      exact ⟨rfl, N539, Keep.refl h0 [W], by rw [own_rem_none hni]; exact AW⟩
theorem dp22_5_0 : decode prog_22_method_5_code 0 = .ok (.iconst 0, 1) := by decide +kernel
theorem dp22_5_1 : decode prog_22_method_5_code 1 = .ok (.istore_n 1, 1) := by decide +kernel
theorem dp22_5_2 : decode prog_22_method_5_code 2 = .ok (.iload_n 1, 1) := by decide +kernel
theorem dp22_5_3 : decode prog_22_method_5_code 3 = .ok (.aload_n 0, 1) := by decide +kernel
theorem dp22_5_4 : decode prog_22_method_5_code 4 = .ok (.getfield 25, 3) := by decide +kernel
theorem dp22_5_7 : decode prog_22_method_5_code 7 = .ok (.if_icmp .ge 22, 3) := by decide +kernel
theorem dp22_5_29 : decode prog_22_method_5_code 29 = .ok (.iconst 1, 1) := by decide +kernel
theorem dp22_5_30 : decode prog_22_method_5_code 30 = .ok (.ireturn, 1) := by decide +kernel
theorem dp22_5_10 : decode prog_22_method_5_code 10 = .ok (.aload_n 0, 1) := by decide +kernel
theorem dp22_5_11 : decode prog_22_method_5_code 11 = .ok (.getfield 13, 3) := by decide +kernel
theorem dp22_5_14 : decode prog_22_method_5_code 14 = .ok (.iload_n 1, 1) := by decide +kernel
theorem dp22_5_15 : decode prog_22_method_5_code 15 = .ok (.laload, 1) := by decide +kernel
theorem dp22_5_16 : decode prog_22_method_5_code 16 = .ok (.lconst 0, 1) := by decide +kernel
theorem dp22_5_17 : decode prog_22_method_5_code 17 = .ok (.lcmp, 1) := by decide +kernel
theorem dp22_5_18 : decode prog_22_method_5_code 18 = .ok (.ifCond .eq 5, 3) := by decide +kernel
theorem dp22_5_23 : decode prog_22_method_5_code 23 = .ok (.iinc 1 1, 3) := by decide +kernel
theorem dp22_5_26 : decode prog_22_method_5_code 26 = .ok (.goto (-24), 3) := by decide +kernel
theorem dp22_5_21 : decode prog_22_method_5_code 21 = .ok (.iconst 0, 1) := by decide +kernel
theorem dp22_5_22 : decode prog_22_method_5_code 22 = .ok (.ireturn, 1) := by decide +kernel
theorem ef_emp (m : MethodId) (x0 : Addr) : entryFrame m #[(.ref x0)] 2 = mkF m 0 #[sR x0, sU] [] := by (first | (simp [entryFrame, mkF, argsToLocals, Value.category]; done) | rfl)
def Q_emp (wv : List Int64) (h0 : Heap) (n0 : Nat) (v : Option Value) (h : Heap) (L : List Loc) : Prop := v = some (.int (own_emp wv)) ∧ Fr n0 L ∧ h = h0
set_option maxRecDepth 65536 in
set_option maxHeartbeats 40000000 in
theorem rm_emp (l : Launch) (Z : State) (a0 : Array Value) (hw : ∀ d ∈ tables_1, d.before a0 Z = true) (ws : List Jvm.Cond) (a1 P W : Addr) (kP kW : ClassId) (M : Int32) (pl ur : List Int32) (wv vr : List Int64) (cn : Int32) (h0 : Heap) (n0 : Nat) (Z0 : n0 ≤ h0.size) (g_a1 : n0 ≤ a1) (g_P : n0 ≤ P) (g_W : n0 ≤ W) (E1 : Exa Z h0 a1 sM) (EP : Exa Z h0 P "[I") (EW1 : Exa Z h0 W "[J") (Fp : Fld Z h0 a1 sM "places" "[I" (.ref P)) (Fw : Fld Z h0 a1 sM "words" "[J" (.ref W)) (Fc : Fld Z h0 a1 sM "count" "I" (.int cn)) (AP : Arv Z h0 P kP .int M ((pl ++ ur).map Value.int) (.int (0 : Int32))) (AW : Arv Z h0 W kW .long M ((wv ++ vr).map Value.long) (.long (0 : Int64))) (hM : M = Int32.ofNat (pl ++ ur).length) (hm : (pl ++ ur).length ≤ 3) (hc : cn = Int32.ofNat pl.length) (hl : wv.length = pl.length) (hv : vr.length = ur.length) (hp2 : pl.length ≤ 2) :
    MetFree l (⟨"com/example/whittle/whittle/engine/WordSets$Meet", "isEmpty", "()Z"⟩ : MethodName) (head1 (Jvm.Cond.code (⟨"com/example/whittle/whittle/engine/WordSets$Meet", "isEmpty", "()Z"⟩ : MethodName) prog_22_method_5_code 2 (some .boolean) :: ws) ({ frames := 0, cells := 0, slots := 0, locals := 0 } : Room)) (fun a U => a = #[(.ref a1)] ∧ Z.Warmed39 U.vm ∧ U.heap = h0) (fun _ _ _ _ _ => True) (fun _ U o U' => ∃ v L, o = .returned v ∧ Q_emp wv h0 n0 v U'.heap L ∧ FrameEnd U o U' L ({ frames := 0, cells := 0, slots := 0, locals := 0 } : Room).cells ({ frames := 0, cells := 0, slots := 0, locals := 0 } : Room).slots) := by
  refine MetFree.of_bodySF (plainFor_of_name pn_com_example_whittle_whittle_engine_WordSets_Meet) hisR ?_
  intro p e s m args below meth c s₁ Bd hml0 hP hK
  obtain ⟨rfl, hZ, hh⟩ := hP
  have hx := Bd.exec
  have hby := Bd.bytes
  have hml : c.maxLocals = 2 := hml0
  have hown : s.vm.findClass "com/example/whittle/whittle/engine/WordSets$Meet" = some m.cls := findClass_of_methodNamed Bd.named
  have hnm := (name_of_methodNamed Bd.named Bd.method).1
  have X0 : Stand p l e ({ frames := 0, cells := 0, slots := 0, locals := 0 } : Room) s m #[(.ref a1)] below meth c s₁ [] 0 0 := Stand.of_body Bd
  have e0 : s₁.heap = h0 := by rw [← hh, Bd.state]; rfl
  have N0 := Fr.nil n0
  have pre0 : ∀ t, Sg p e below (s₁.setTop (mkF m 0 #[sR a1, sU] [])) t → Steps p.tables e below (s₁.setTop (entryFrame m #[(.ref a1)] 2)) t := fun t k => castTop (ef_emp m a1) k
  have P0 : ∀ t, Sg p e below (s₁.setTop (mkF m 0 #[sR a1, sU] [])) t → Sg p e below (s₁.setTop (mkF m 0 #[sR a1, sU] [])) t := fun t k => k
  obtain ⟨B0, pre0, P0⟩ : ∃ B : State, (∀ t, Steps p.tables e below B t → Steps p.tables e below (s₁.setTop (entryFrame m #[(.ref a1)] 2)) t) ∧ Rg p e below (s₁.setTop (mkF m 0 #[sR a1, sU] [])) B := ⟨_, pre0, P0⟩
  have hlen := hp2
  rcases pl with _ | ⟨x0, _ | ⟨x1, _ | ⟨x2, pl⟩⟩⟩
  · skip
    have hc' : cn = (0 : Int32) := hc
    subst hc'
    obtain rfl := own_len0 hl
    obtain ⟨T572, X572, e572, st572⟩ := getF X0 hx hZ hown (host := "") (Or.inl (own_hw hw 48 rfl)) Via.refl e0 Fc (g := (mkF m 4 #[sR a1, sI 0] [(.ref a1), (.int (0 : Int32))])) rfl rfl (hb hby dp22_5_4)
    have P573 : Rg p e below (T572.setTop (mkF m 7 #[sR a1, sI 0] [(.int (0 : Int32)), (.int (0 : Int32))])) B0 := fun t k => P0 t (by
      refine XS.iconst X0.here hx rfl (hb hby dp22_5_0) ?_
      refine XS.istoreN X0.here hx rfl (hb hby dp22_5_1) rfl (l' := #[sR a1, sI 0]) rfl ?_
      refine XS.iloadN X0.here hx rfl (hb hby dp22_5_2) rfl ?_
      refine XS.aloadN X0.here hx rfl (hb hby dp22_5_3) rfl rfl ?_
      show Sg p e below (s₁.setTop (mkF m 4 #[sR a1, sI 0] [(.ref a1), (.int (0 : Int32))])) _
      exact st572 _ k)
    obtain ⟨fs574, hr574, hrun574, hended574, hW574, hsame574⟩ := X572.leave (v := some (.int (1 : Int32))) (fun h => by rw [Bd.returns] at h; cases h)
    refine ⟨_, _, pre0 _ (P573 _ ?_), hrun574, hended574, _, _, rfl, ?_, ⟨⟨_, rfl⟩, hW574, hsame574.mono (Nat.le_of_ble_eq_true rfl) (Nat.le_of_ble_eq_true rfl)⟩⟩
    · show Sg p e below (T572.setTop (mkF m 7 #[sR a1, sI 0] [(.int (0 : Int32)), (.int (0 : Int32))])) _
      refine XS.icmpYes X572.here hx rfl (pc0 := 7) (pc' := 29) rfl (hb hby dp22_5_7) rfl (flt (show ¬ ((0 : Int32) < (0 : Int32)) from (by decide))).2.1 (by decide) (by decide) ?_
      refine XS.iconst X572.here hx rfl (hb hby dp22_5_29) ?_
      show Sg p e below (T572.setTop (mkF m 30 #[sR a1, sI 0] [(.int (1 : Int32))])) _
      exact retN X572 hx (t := .boolean) Bd.returns (by simp) (hb hby dp22_5_30) hr574
    · show Q_emp [] h0 n0 _ T572.heap _
      rw [e572]
      exact ⟨rfl, N0, rfl⟩
  · skip
    have hc' : cn = (1 : Int32) := hc
    subst hc'
    obtain ⟨y0, rfl⟩ := own_len1 hl
    obtain ⟨T575, X575, e575, st575⟩ := getF X0 hx hZ hown (host := "") (Or.inl (own_hw hw 48 rfl)) Via.refl e0 Fc (g := (mkF m 4 #[sR a1, sI 0] [(.ref a1), (.int (0 : Int32))])) rfl rfl (hb hby dp22_5_4)
    have P576 : Rg p e below (T575.setTop (mkF m 7 #[sR a1, sI 0] [(.int (1 : Int32)), (.int (0 : Int32))])) B0 := fun t k => P0 t (by
      refine XS.iconst X0.here hx rfl (hb hby dp22_5_0) ?_
      refine XS.istoreN X0.here hx rfl (hb hby dp22_5_1) rfl (l' := #[sR a1, sI 0]) rfl ?_
      refine XS.iloadN X0.here hx rfl (hb hby dp22_5_2) rfl ?_
      refine XS.aloadN X0.here hx rfl (hb hby dp22_5_3) rfl rfl ?_
      show Sg p e below (s₁.setTop (mkF m 4 #[sR a1, sI 0] [(.ref a1), (.int (0 : Int32))])) _
      exact st575 _ k)
    obtain ⟨T577, X577, e577, st577⟩ := getF X575 hx hZ hown (host := "") (Or.inl (own_hw hw 39 rfl)) Via.refl e575 Fw (g := (mkF m 11 #[sR a1, sI 0] [(.ref a1)])) rfl rfl (hb hby dp22_5_11)
    have P578 : Rg p e below (T577.setTop (mkF m 14 #[sR a1, sI 0] [(.ref W)])) B0 := fun t k => P576 t (by
      refine XS.icmpNo X575.here hx rfl (hb hby dp22_5_7) rfl (tlt (show (0 : Int32) < (1 : Int32) from (by decide))).2.1 ?_
      refine XS.aloadN X575.here hx rfl (hb hby dp22_5_10) rfl rfl ?_
      show Sg p e below (T575.setTop (mkF m 11 #[sR a1, sI 0] [(.ref a1)])) _
      exact st577 _ k)
    obtain ⟨cl579, Ar579, -, S579, N579, H579, -⟩ := id AW
    have hin579 : ¬ ((0 : Int32) < 0 ∨ cl579.slots.size ≤ ((0 : Int32)).toNatClampNeg) := inb_of S579 (own_inb (own_hM2 hM hl hv) (k := 0) (by simp) (own_hm2 hm hl hv))
    have P580 : Rg p e below (T577.setTop (mkF m 18 #[sR a1, sI 0] [(.int (lcmpW y0 (0 : Int64)))])) B0 := fun t k => P578 t (by
      refine XS.iloadN X577.here hx rfl (hb hby dp22_5_14) rfl ?_
      show Sg p e below (T577.setTop (mkF m 15 #[sR a1, sI 0] [(.int (0 : Int32)), (.ref W)])) _
      refine X577.laload hx (j := (0 : Int32)) (v := (.long y0)) (by rw [e577]; exact Ar579.1) (State.isArrayOf_alike hZ.alike Ar579.2.1) Ar579.2.2 hin579 (H579.at hin579 rfl) (g := (mkF m 15 #[sR a1, sI 0] [(.int (0 : Int32)), (.ref W)])) rfl rfl (hb hby dp22_5_15) _ ?_
      show Sg p e below (T577.setTop (mkF m 16 #[sR a1, sI 0] [(.long y0)])) _
      refine XS.lconst X577.here hx rfl (hb hby dp22_5_16) ?_
      refine XS.lcmp X577.here hx rfl (hb hby dp22_5_17) rfl ?_
      show Sg p e below (T577.setTop (mkF m 18 #[sR a1, sI 0] [(.int (lcmpW y0 (0 : Int64)))])) _
      exact k)
    by_cases q581 : y0 = (0 : Int64)
    · skip
      obtain ⟨T582, X582, e582, st582⟩ := getF X577 hx hZ hown (host := "") (Or.inl (own_hw hw 48 rfl)) Via.refl e577 Fc (g := (mkF m 4 #[sR a1, sI 1] [(.ref a1), (.int (1 : Int32))])) rfl rfl (hb hby dp22_5_4)
      have P583 : Rg p e below (T582.setTop (mkF m 7 #[sR a1, sI 1] [(.int (1 : Int32)), (.int (1 : Int32))])) B0 := fun t k => P580 t (by
        refine XS.ifYes X577.here hx rfl (pc0 := 18) (pc' := 23) rfl (hb hby dp22_5_18) rfl (XT.ll_eq_t (show y0 = (0 : Int64) from q581)) (by decide) (by decide) ?_
        refine XS.iinc X577.here hx rfl (hb hby dp22_5_23) rfl (l' := #[sR a1, sI 1]) rfl ?_
        refine XS.goto X577.here hx rfl (pc0 := 26) (pc' := 2) rfl (hb hby dp22_5_26) (by decide) (by decide) ?_
        refine XS.iloadN X577.here hx rfl (hb hby dp22_5_2) rfl ?_
        refine XS.aloadN X577.here hx rfl (hb hby dp22_5_3) rfl rfl ?_
        show Sg p e below (T577.setTop (mkF m 4 #[sR a1, sI 1] [(.ref a1), (.int (1 : Int32))])) _
        exact st582 _ k)
      obtain ⟨fs584, hr584, hrun584, hended584, hW584, hsame584⟩ := X582.leave (v := some (.int (1 : Int32))) (fun h => by rw [Bd.returns] at h; cases h)
      refine ⟨_, _, pre0 _ (P583 _ ?_), hrun584, hended584, _, _, rfl, ?_, ⟨⟨_, rfl⟩, hW584, hsame584.mono (Nat.le_of_ble_eq_true rfl) (Nat.le_of_ble_eq_true rfl)⟩⟩
      · show Sg p e below (T582.setTop (mkF m 7 #[sR a1, sI 1] [(.int (1 : Int32)), (.int (1 : Int32))])) _
        refine XS.icmpYes X582.here hx rfl (pc0 := 7) (pc' := 29) rfl (hb hby dp22_5_7) rfl (flt (show ¬ ((1 : Int32) < (1 : Int32)) from (by decide))).2.1 (by decide) (by decide) ?_
        refine XS.iconst X582.here hx rfl (hb hby dp22_5_29) ?_
        show Sg p e below (T582.setTop (mkF m 30 #[sR a1, sI 1] [(.int (1 : Int32))])) _
        exact retN X582 hx (t := .boolean) Bd.returns (by simp) (hb hby dp22_5_30) hr584
      · show Q_emp [y0] h0 n0 _ T582.heap _
        rw [e582]
        exact ⟨congrArg (fun z => some (Value.int z)) (Eq.symm ((if_pos q581).trans (rfl))), N0, rfl⟩
    · skip
      obtain ⟨fs585, hr585, hrun585, hended585, hW585, hsame585⟩ := X577.leave (v := some (.int (0 : Int32))) (fun h => by rw [Bd.returns] at h; cases h)
      refine ⟨_, _, pre0 _ (P580 _ ?_), hrun585, hended585, _, _, rfl, ?_, ⟨⟨_, rfl⟩, hW585, hsame585.mono (Nat.le_of_ble_eq_true rfl) (Nat.le_of_ble_eq_true rfl)⟩⟩
      · show Sg p e below (T577.setTop (mkF m 18 #[sR a1, sI 0] [(.int (lcmpW y0 (0 : Int64)))])) _
        refine XS.ifNo X577.here hx rfl (hb hby dp22_5_18) rfl (XT.ll_eq_f (show ¬ (y0 = (0 : Int64)) from q581)) ?_
        refine XS.iconst X577.here hx rfl (hb hby dp22_5_21) ?_
        show Sg p e below (T577.setTop (mkF m 22 #[sR a1, sI 0] [(.int (0 : Int32))])) _
        exact retN X577 hx (t := .boolean) Bd.returns (by simp) (hb hby dp22_5_22) hr585
      · show Q_emp [y0] h0 n0 _ T577.heap _
        rw [e577]
        exact ⟨congrArg (fun z => some (Value.int z)) (Eq.symm ((if_neg q581).trans (rfl))), N0, rfl⟩
  · skip
    have hc' : cn = (2 : Int32) := hc
    subst hc'
    obtain ⟨y0, y1, rfl⟩ := own_len2 hl
    obtain ⟨T586, X586, e586, st586⟩ := getF X0 hx hZ hown (host := "") (Or.inl (own_hw hw 48 rfl)) Via.refl e0 Fc (g := (mkF m 4 #[sR a1, sI 0] [(.ref a1), (.int (0 : Int32))])) rfl rfl (hb hby dp22_5_4)
    have P587 : Rg p e below (T586.setTop (mkF m 7 #[sR a1, sI 0] [(.int (2 : Int32)), (.int (0 : Int32))])) B0 := fun t k => P0 t (by
      refine XS.iconst X0.here hx rfl (hb hby dp22_5_0) ?_
      refine XS.istoreN X0.here hx rfl (hb hby dp22_5_1) rfl (l' := #[sR a1, sI 0]) rfl ?_
      refine XS.iloadN X0.here hx rfl (hb hby dp22_5_2) rfl ?_
      refine XS.aloadN X0.here hx rfl (hb hby dp22_5_3) rfl rfl ?_
      show Sg p e below (s₁.setTop (mkF m 4 #[sR a1, sI 0] [(.ref a1), (.int (0 : Int32))])) _
      exact st586 _ k)
    obtain ⟨T588, X588, e588, st588⟩ := getF X586 hx hZ hown (host := "") (Or.inl (own_hw hw 39 rfl)) Via.refl e586 Fw (g := (mkF m 11 #[sR a1, sI 0] [(.ref a1)])) rfl rfl (hb hby dp22_5_11)
    have P589 : Rg p e below (T588.setTop (mkF m 14 #[sR a1, sI 0] [(.ref W)])) B0 := fun t k => P587 t (by
      refine XS.icmpNo X586.here hx rfl (hb hby dp22_5_7) rfl (tlt (show (0 : Int32) < (2 : Int32) from (by decide))).2.1 ?_
      refine XS.aloadN X586.here hx rfl (hb hby dp22_5_10) rfl rfl ?_
      show Sg p e below (T586.setTop (mkF m 11 #[sR a1, sI 0] [(.ref a1)])) _
      exact st588 _ k)
    obtain ⟨cl590, Ar590, -, S590, N590, H590, -⟩ := id AW
    have hin590 : ¬ ((0 : Int32) < 0 ∨ cl590.slots.size ≤ ((0 : Int32)).toNatClampNeg) := inb_of S590 (own_inb (own_hM2 hM hl hv) (k := 0) (by simp) (own_hm2 hm hl hv))
    have P591 : Rg p e below (T588.setTop (mkF m 18 #[sR a1, sI 0] [(.int (lcmpW y0 (0 : Int64)))])) B0 := fun t k => P589 t (by
      refine XS.iloadN X588.here hx rfl (hb hby dp22_5_14) rfl ?_
      show Sg p e below (T588.setTop (mkF m 15 #[sR a1, sI 0] [(.int (0 : Int32)), (.ref W)])) _
      refine X588.laload hx (j := (0 : Int32)) (v := (.long y0)) (by rw [e588]; exact Ar590.1) (State.isArrayOf_alike hZ.alike Ar590.2.1) Ar590.2.2 hin590 (H590.at hin590 rfl) (g := (mkF m 15 #[sR a1, sI 0] [(.int (0 : Int32)), (.ref W)])) rfl rfl (hb hby dp22_5_15) _ ?_
      show Sg p e below (T588.setTop (mkF m 16 #[sR a1, sI 0] [(.long y0)])) _
      refine XS.lconst X588.here hx rfl (hb hby dp22_5_16) ?_
      refine XS.lcmp X588.here hx rfl (hb hby dp22_5_17) rfl ?_
      show Sg p e below (T588.setTop (mkF m 18 #[sR a1, sI 0] [(.int (lcmpW y0 (0 : Int64)))])) _
      exact k)
    by_cases q592 : y0 = (0 : Int64)
    · skip
      obtain ⟨T593, X593, e593, st593⟩ := getF X588 hx hZ hown (host := "") (Or.inl (own_hw hw 48 rfl)) Via.refl e588 Fc (g := (mkF m 4 #[sR a1, sI 1] [(.ref a1), (.int (1 : Int32))])) rfl rfl (hb hby dp22_5_4)
      have P594 : Rg p e below (T593.setTop (mkF m 7 #[sR a1, sI 1] [(.int (2 : Int32)), (.int (1 : Int32))])) B0 := fun t k => P591 t (by
        refine XS.ifYes X588.here hx rfl (pc0 := 18) (pc' := 23) rfl (hb hby dp22_5_18) rfl (XT.ll_eq_t (show y0 = (0 : Int64) from q592)) (by decide) (by decide) ?_
        refine XS.iinc X588.here hx rfl (hb hby dp22_5_23) rfl (l' := #[sR a1, sI 1]) rfl ?_
        refine XS.goto X588.here hx rfl (pc0 := 26) (pc' := 2) rfl (hb hby dp22_5_26) (by decide) (by decide) ?_
        refine XS.iloadN X588.here hx rfl (hb hby dp22_5_2) rfl ?_
        refine XS.aloadN X588.here hx rfl (hb hby dp22_5_3) rfl rfl ?_
        show Sg p e below (T588.setTop (mkF m 4 #[sR a1, sI 1] [(.ref a1), (.int (1 : Int32))])) _
        exact st593 _ k)
      obtain ⟨T595, X595, e595, st595⟩ := getF X593 hx hZ hown (host := "") (Or.inl (own_hw hw 39 rfl)) Via.refl e593 Fw (g := (mkF m 11 #[sR a1, sI 1] [(.ref a1)])) rfl rfl (hb hby dp22_5_11)
      have P596 : Rg p e below (T595.setTop (mkF m 14 #[sR a1, sI 1] [(.ref W)])) B0 := fun t k => P594 t (by
        refine XS.icmpNo X593.here hx rfl (hb hby dp22_5_7) rfl (tlt (show (1 : Int32) < (2 : Int32) from (by decide))).2.1 ?_
        refine XS.aloadN X593.here hx rfl (hb hby dp22_5_10) rfl rfl ?_
        show Sg p e below (T593.setTop (mkF m 11 #[sR a1, sI 1] [(.ref a1)])) _
        exact st595 _ k)
      obtain ⟨cl597, Ar597, -, S597, N597, H597, -⟩ := id AW
      have hin597 : ¬ ((1 : Int32) < 0 ∨ cl597.slots.size ≤ ((1 : Int32)).toNatClampNeg) := inb_of S597 (own_inb (own_hM2 hM hl hv) (k := 1) (by simp) (own_hm2 hm hl hv))
      have P598 : Rg p e below (T595.setTop (mkF m 18 #[sR a1, sI 1] [(.int (lcmpW y1 (0 : Int64)))])) B0 := fun t k => P596 t (by
        refine XS.iloadN X595.here hx rfl (hb hby dp22_5_14) rfl ?_
        show Sg p e below (T595.setTop (mkF m 15 #[sR a1, sI 1] [(.int (1 : Int32)), (.ref W)])) _
        refine X595.laload hx (j := (1 : Int32)) (v := (.long y1)) (by rw [e595]; exact Ar597.1) (State.isArrayOf_alike hZ.alike Ar597.2.1) Ar597.2.2 hin597 (H597.at hin597 rfl) (g := (mkF m 15 #[sR a1, sI 1] [(.int (1 : Int32)), (.ref W)])) rfl rfl (hb hby dp22_5_15) _ ?_
        show Sg p e below (T595.setTop (mkF m 16 #[sR a1, sI 1] [(.long y1)])) _
        refine XS.lconst X595.here hx rfl (hb hby dp22_5_16) ?_
        refine XS.lcmp X595.here hx rfl (hb hby dp22_5_17) rfl ?_
        show Sg p e below (T595.setTop (mkF m 18 #[sR a1, sI 1] [(.int (lcmpW y1 (0 : Int64)))])) _
        exact k)
      by_cases q599 : y1 = (0 : Int64)
      · skip
        obtain ⟨T600, X600, e600, st600⟩ := getF X595 hx hZ hown (host := "") (Or.inl (own_hw hw 48 rfl)) Via.refl e595 Fc (g := (mkF m 4 #[sR a1, sI 2] [(.ref a1), (.int (2 : Int32))])) rfl rfl (hb hby dp22_5_4)
        have P601 : Rg p e below (T600.setTop (mkF m 7 #[sR a1, sI 2] [(.int (2 : Int32)), (.int (2 : Int32))])) B0 := fun t k => P598 t (by
          refine XS.ifYes X595.here hx rfl (pc0 := 18) (pc' := 23) rfl (hb hby dp22_5_18) rfl (XT.ll_eq_t (show y1 = (0 : Int64) from q599)) (by decide) (by decide) ?_
          refine XS.iinc X595.here hx rfl (hb hby dp22_5_23) rfl (l' := #[sR a1, sI 2]) rfl ?_
          refine XS.goto X595.here hx rfl (pc0 := 26) (pc' := 2) rfl (hb hby dp22_5_26) (by decide) (by decide) ?_
          refine XS.iloadN X595.here hx rfl (hb hby dp22_5_2) rfl ?_
          refine XS.aloadN X595.here hx rfl (hb hby dp22_5_3) rfl rfl ?_
          show Sg p e below (T595.setTop (mkF m 4 #[sR a1, sI 2] [(.ref a1), (.int (2 : Int32))])) _
          exact st600 _ k)
        obtain ⟨fs602, hr602, hrun602, hended602, hW602, hsame602⟩ := X600.leave (v := some (.int (1 : Int32))) (fun h => by rw [Bd.returns] at h; cases h)
        refine ⟨_, _, pre0 _ (P601 _ ?_), hrun602, hended602, _, _, rfl, ?_, ⟨⟨_, rfl⟩, hW602, hsame602.mono (Nat.le_of_ble_eq_true rfl) (Nat.le_of_ble_eq_true rfl)⟩⟩
        · show Sg p e below (T600.setTop (mkF m 7 #[sR a1, sI 2] [(.int (2 : Int32)), (.int (2 : Int32))])) _
          refine XS.icmpYes X600.here hx rfl (pc0 := 7) (pc' := 29) rfl (hb hby dp22_5_7) rfl (flt (show ¬ ((2 : Int32) < (2 : Int32)) from (by decide))).2.1 (by decide) (by decide) ?_
          refine XS.iconst X600.here hx rfl (hb hby dp22_5_29) ?_
          show Sg p e below (T600.setTop (mkF m 30 #[sR a1, sI 2] [(.int (1 : Int32))])) _
          exact retN X600 hx (t := .boolean) Bd.returns (by simp) (hb hby dp22_5_30) hr602
        · show Q_emp [y0, y1] h0 n0 _ T600.heap _
          rw [e600]
          exact ⟨congrArg (fun z => some (Value.int z)) (Eq.symm ((if_pos q592).trans ((if_pos q599).trans (rfl)))), N0, rfl⟩
      · skip
        obtain ⟨fs603, hr603, hrun603, hended603, hW603, hsame603⟩ := X595.leave (v := some (.int (0 : Int32))) (fun h => by rw [Bd.returns] at h; cases h)
        refine ⟨_, _, pre0 _ (P598 _ ?_), hrun603, hended603, _, _, rfl, ?_, ⟨⟨_, rfl⟩, hW603, hsame603.mono (Nat.le_of_ble_eq_true rfl) (Nat.le_of_ble_eq_true rfl)⟩⟩
        · show Sg p e below (T595.setTop (mkF m 18 #[sR a1, sI 1] [(.int (lcmpW y1 (0 : Int64)))])) _
          refine XS.ifNo X595.here hx rfl (hb hby dp22_5_18) rfl (XT.ll_eq_f (show ¬ (y1 = (0 : Int64)) from q599)) ?_
          refine XS.iconst X595.here hx rfl (hb hby dp22_5_21) ?_
          show Sg p e below (T595.setTop (mkF m 22 #[sR a1, sI 1] [(.int (0 : Int32))])) _
          exact retN X595 hx (t := .boolean) Bd.returns (by simp) (hb hby dp22_5_22) hr603
        · show Q_emp [y0, y1] h0 n0 _ T595.heap _
          rw [e595]
          exact ⟨congrArg (fun z => some (Value.int z)) (Eq.symm ((if_pos q592).trans ((if_neg q599).trans (rfl)))), N0, rfl⟩
    · skip
      obtain ⟨fs604, hr604, hrun604, hended604, hW604, hsame604⟩ := X588.leave (v := some (.int (0 : Int32))) (fun h => by rw [Bd.returns] at h; cases h)
      refine ⟨_, _, pre0 _ (P591 _ ?_), hrun604, hended604, _, _, rfl, ?_, ⟨⟨_, rfl⟩, hW604, hsame604.mono (Nat.le_of_ble_eq_true rfl) (Nat.le_of_ble_eq_true rfl)⟩⟩
      · show Sg p e below (T588.setTop (mkF m 18 #[sR a1, sI 0] [(.int (lcmpW y0 (0 : Int64)))])) _
        refine XS.ifNo X588.here hx rfl (hb hby dp22_5_18) rfl (XT.ll_eq_f (show ¬ (y0 = (0 : Int64)) from q592)) ?_
        refine XS.iconst X588.here hx rfl (hb hby dp22_5_21) ?_
        show Sg p e below (T588.setTop (mkF m 22 #[sR a1, sI 0] [(.int (0 : Int32))])) _
        exact retN X588 hx (t := .boolean) Bd.returns (by simp) (hb hby dp22_5_22) hr604
      · show Q_emp [y0, y1] h0 n0 _ T588.heap _
        rw [e588]
        exact ⟨congrArg (fun z => some (Value.int z)) (Eq.symm ((if_neg q592).trans (rfl))), N0, rfl⟩
  · exact absurd hlen (by simp)
theorem dp22_3_40 : decode prog_22_method_3_code 40 = .ok (.iload 6, 2) := by decide +kernel
theorem dp22_3_42 : decode prog_22_method_3_code 42 = .ok (.aload_n 3, 1) := by decide +kernel
theorem dp22_3_43 : decode prog_22_method_3_code 43 = .ok (.arraylength, 1) := by decide +kernel
theorem dp22_3_44 : decode prog_22_method_3_code 44 = .ok (.if_icmp .ge 23, 3) := by decide +kernel
theorem dp22_3_47 : decode prog_22_method_3_code 47 = .ok (.aload_n 3, 1) := by decide +kernel
theorem dp22_3_48 : decode prog_22_method_3_code 48 = .ok (.iload 6, 2) := by decide +kernel
theorem dp22_3_50 : decode prog_22_method_3_code 50 = .ok (.iaload, 1) := by decide +kernel
theorem dp22_3_51 : decode prog_22_method_3_code 51 = .ok (.aload_n 0, 1) := by decide +kernel
theorem dp22_3_52 : decode prog_22_method_3_code 52 = .ok (.getfield 7, 3) := by decide +kernel
theorem dp22_3_55 : decode prog_22_method_3_code 55 = .ok (.iload 7, 2) := by decide +kernel
theorem dp22_3_57 : decode prog_22_method_3_code 57 = .ok (.iaload, 1) := by decide +kernel
theorem dp22_3_58 : decode prog_22_method_3_code 58 = .ok (.if_icmp .ge 9, 3) := by decide +kernel
theorem dp22_3_61 : decode prog_22_method_3_code 61 = .ok (.iinc 6 1, 3) := by decide +kernel
theorem dp22_3_64 : decode prog_22_method_3_code 64 = .ok (.goto (-24), 3) := by decide +kernel
set_option maxRecDepth 65536 in
set_option maxHeartbeats 40000000 in
theorem pc_rtv {p : Program} {l : Launch} {e : Env} {R : Room} {s : State} {m : MethodId} {args : Array Value} {below : List Frame} {meth : Method} {c : Code} {T0 : State} {locs : List Loc} {cells slots : Nat} {Z : State} {a0 : Array Value} {h0 : Heap} {n0 : Nat} (a1 fa f g P W : Addr) (kf kg kP kW : ClassId) (sv N M kv jv iv qx px : Int32) (wx vx : Int64) (vf vg vp vw : List Value) (g8 g9 : Slot) (X0 : Stand p l e R s m args below meth c T0 locs cells slots) (hx : p.tables.exec = Jvm.exec) (hZ : Z.Warmed39 s.vm) (hw : ∀ d ∈ tables_1, d.before a0 Z = true) (hby : c.code = prog_22_method_3_code) (hml : c.maxLocals = 10) (hown : s.vm.findClass "com/example/whittle/whittle/engine/WordSets$Meet" = some m.cls) (e0 : T0.heap = h0) (N0 : Fr n0 locs) (Z0 : n0 ≤ h0.size) (hcc : cells + 0 ≤ R.cells) (hcs : slots + 0 ≤ R.slots) (hfr : 0 ≤ R.frames) (hlo : 0 ≤ R.locals) (g_P : n0 ≤ P) (g_W : n0 ≤ W) (E1 : Exa Z h0 a1 "com/example/whittle/whittle/engine/WordSets$Meet") (EP : Exa Z h0 P "[I") (EW1 : Exa Z h0 W "[J") (Fp : Fld Z h0 a1 "com/example/whittle/whittle/engine/WordSets$Meet" "places" "[I" (.ref P)) (Fw : Fld Z h0 a1 "com/example/whittle/whittle/engine/WordSets$Meet" "words" "[J" (.ref W)) (Af : Arv Z h0 f kf .int N vf (.int (0 : Int32))) (Ag : Arv Z h0 g kg .long N vg (.long (0 : Int64))) (AP : Arv Z h0 P kP .int M vp (.int (0 : Int32))) (AW : Arv Z h0 W kW .long M vw (.long (0 : Int64))) (hlt : jv < N) (hj : ¬ jv < 0 ∧ jv < N) (ef : vf.getD jv.toNatClampNeg (.int (0 : Int32)) = .int qx) (eg : vg.getD jv.toNatClampNeg (.long (0 : Int64)) = .long vx) (hi : ¬ iv < 0 ∧ iv < M) (ep : vp.getD iv.toNatClampNeg (.int (0 : Int32)) = .int px) (ew : vw.getD iv.toNatClampNeg (.long (0 : Int64)) = .long wx) (h89 : (g8 = sU ∧ g9 = sU) ∨ ∃ y, g8 = .val (.long y) ∧ g9 = .second) (hq : qx < px) :
    ∃ (T' : State) (h' : Heap) (locs' : List Loc), Stand p l e R s m args below meth c T' locs' (cells + 0) (slots + 0) ∧ T'.heap = h' ∧ Fr n0 locs' ∧ Keep h0 h' [] ∧ ∀ t, Sg p e below (T'.setTop (mkF m 40 #[sR a1, sR fa, sI sv, sR f, sR g, sI kv, .val (.int (jv + (1 : Int32))), sI iv, g8, g9] [])) t → Sg p e below (T0.setTop (mkF m 40 #[sR a1, sR fa, sI sv, sR f, sR g, sI kv, sI jv, sI iv, g8, g9] [])) t := by
  have P0 : ∀ t, Sg p e below (T0.setTop (mkF m 40 #[sR a1, sR fa, sI sv, sR f, sR g, sI kv, sI jv, sI iv, g8, g9] [])) t → Sg p e below (T0.setTop (mkF m 40 #[sR a1, sR fa, sI sv, sR f, sR g, sI kv, sI jv, sI iv, g8, g9] [])) t := fun t k => k
  obtain ⟨cl605, Ar605, -, S605, N605, -, -⟩ := id Af
  obtain ⟨cl606, Ar606, -, S606, N606, H606, -⟩ := id Af
  have hin606 : ¬ (jv < 0 ∨ cl606.slots.size ≤ (jv).toNatClampNeg) := inb_of S606 hj
  obtain ⟨T607, X607, e607, st607⟩ := getF X0 hx hZ hown (host := "") (Or.inl (own_hw hw 37 rfl)) Via.refl e0 Fp (g := (mkF m 52 #[sR a1, sR fa, sI sv, sR f, sR g, sI kv, sI jv, sI iv, g8, g9] [(.ref a1), (.int qx)])) rfl rfl (hb hby dp22_3_52)
  have P608 : ∀ t, Sg p e below (T607.setTop (mkF m 55 #[sR a1, sR fa, sI sv, sR f, sR g, sI kv, sI jv, sI iv, g8, g9] [(.ref P), (.int qx)])) t → Sg p e below (T0.setTop (mkF m 40 #[sR a1, sR fa, sI sv, sR f, sR g, sI kv, sI jv, sI iv, g8, g9] [])) t := fun t k => P0 t (by
    refine XS.iload X0.here hx rfl (hb hby dp22_3_40) rfl ?_
    refine XS.aloadN X0.here hx rfl (hb hby dp22_3_42) rfl rfl ?_
    show Sg p e below (T0.setTop (mkF m 43 #[sR a1, sR fa, sI sv, sR f, sR g, sI kv, sI jv, sI iv, g8, g9] [(.ref f), (.int jv)])) _
    refine X0.arraylength hx (by rw [e0]; exact Ar605.1) (State.isArrayOf_alike hZ.alike Ar605.2.1) (g := (mkF m 43 #[sR a1, sR fa, sI sv, sR f, sR g, sI kv, sI jv, sI iv, g8, g9] [(.ref f), (.int jv)])) rfl rfl (hb hby dp22_3_43) _ ?_
    rw [len_of S605 N605]
    show Sg p e below (T0.setTop (mkF m 44 #[sR a1, sR fa, sI sv, sR f, sR g, sI kv, sI jv, sI iv, g8, g9] [(.int N), (.int jv)])) _
    refine XS.icmpNo X0.here hx rfl (hb hby dp22_3_44) rfl (tlt (show jv < N from hlt)).2.1 ?_
    refine XS.aloadN X0.here hx rfl (hb hby dp22_3_47) rfl rfl ?_
    refine XS.iload X0.here hx rfl (hb hby dp22_3_48) rfl ?_
    show Sg p e below (T0.setTop (mkF m 50 #[sR a1, sR fa, sI sv, sR f, sR g, sI kv, sI jv, sI iv, g8, g9] [(.int jv), (.ref f)])) _
    refine X0.iaload hx (j := jv) (v := (.int qx)) (by rw [e0]; exact Ar606.1) (State.isArrayOf_alike hZ.alike Ar606.2.1) Ar606.2.2 hin606 (H606.at hin606 ef) (g := (mkF m 50 #[sR a1, sR fa, sI sv, sR f, sR g, sI kv, sI jv, sI iv, g8, g9] [(.int jv), (.ref f)])) rfl rfl (hb hby dp22_3_50) _ ?_
    show Sg p e below (T0.setTop (mkF m 51 #[sR a1, sR fa, sI sv, sR f, sR g, sI kv, sI jv, sI iv, g8, g9] [(.int qx)])) _
    refine XS.aloadN X0.here hx rfl (hb hby dp22_3_51) rfl rfl ?_
    show Sg p e below (T0.setTop (mkF m 52 #[sR a1, sR fa, sI sv, sR f, sR g, sI kv, sI jv, sI iv, g8, g9] [(.ref a1), (.int qx)])) _
    exact st607 _ k)
  obtain ⟨cl609, Ar609, -, S609, N609, H609, -⟩ := id AP
  have hin609 : ¬ (iv < 0 ∨ cl609.slots.size ≤ (iv).toNatClampNeg) := inb_of S609 hi
  have P610 : ∀ t, Sg p e below (T607.setTop (mkF m 40 #[sR a1, sR fa, sI sv, sR f, sR g, sI kv, .val (.int (jv + (1 : Int32))), sI iv, g8, g9] [])) t → Sg p e below (T0.setTop (mkF m 40 #[sR a1, sR fa, sI sv, sR f, sR g, sI kv, sI jv, sI iv, g8, g9] [])) t := fun t k => P608 t (by
    refine XS.iload X607.here hx rfl (hb hby dp22_3_55) rfl ?_
    show Sg p e below (T607.setTop (mkF m 57 #[sR a1, sR fa, sI sv, sR f, sR g, sI kv, sI jv, sI iv, g8, g9] [(.int iv), (.ref P), (.int qx)])) _
    refine X607.iaload hx (j := iv) (v := (.int px)) (by rw [e607]; exact Ar609.1) (State.isArrayOf_alike hZ.alike Ar609.2.1) Ar609.2.2 hin609 (H609.at hin609 ep) (g := (mkF m 57 #[sR a1, sR fa, sI sv, sR f, sR g, sI kv, sI jv, sI iv, g8, g9] [(.int iv), (.ref P), (.int qx)])) rfl rfl (hb hby dp22_3_57) _ ?_
    show Sg p e below (T607.setTop (mkF m 58 #[sR a1, sR fa, sI sv, sR f, sR g, sI kv, sI jv, sI iv, g8, g9] [(.int px), (.int qx)])) _
    refine XS.icmpNo X607.here hx rfl (hb hby dp22_3_58) rfl (tlt (show qx < px from hq)).2.1 ?_
    refine XS.iinc X607.here hx rfl (hb hby dp22_3_61) rfl (l' := #[sR a1, sR fa, sI sv, sR f, sR g, sI kv, .val (.int (jv + (1 : Int32))), sI iv, g8, g9]) rfl ?_
    refine XS.goto X607.here hx rfl (pc0 := 64) (pc' := 40) rfl (hb hby dp22_3_64) (by decide) (by decide) ?_
    show Sg p e below (T607.setTop (mkF m 40 #[sR a1, sR fa, sI sv, sR f, sR g, sI kv, .val (.int (jv + (1 : Int32))), sI iv, g8, g9] [])) _
    exact k)
  exact ⟨T607, h0, _, X607.more (by omega) (by omega), e607, N0, (Keep.refl h0 []), P610⟩
theorem dp22_3_67 : decode prog_22_method_3_code 67 = .ok (.iload 6, 2) := by decide +kernel
theorem dp22_3_69 : decode prog_22_method_3_code 69 = .ok (.aload_n 3, 1) := by decide +kernel
theorem dp22_3_70 : decode prog_22_method_3_code 70 = .ok (.arraylength, 1) := by decide +kernel
theorem dp22_3_71 : decode prog_22_method_3_code 71 = .ok (.if_icmp .ge 65, 3) := by decide +kernel
theorem dp22_3_74 : decode prog_22_method_3_code 74 = .ok (.aload_n 3, 1) := by decide +kernel
theorem dp22_3_75 : decode prog_22_method_3_code 75 = .ok (.iload 6, 2) := by decide +kernel
theorem dp22_3_77 : decode prog_22_method_3_code 77 = .ok (.iaload, 1) := by decide +kernel
theorem dp22_3_78 : decode prog_22_method_3_code 78 = .ok (.aload_n 0, 1) := by decide +kernel
theorem dp22_3_79 : decode prog_22_method_3_code 79 = .ok (.getfield 7, 3) := by decide +kernel
theorem dp22_3_82 : decode prog_22_method_3_code 82 = .ok (.iload 7, 2) := by decide +kernel
theorem dp22_3_84 : decode prog_22_method_3_code 84 = .ok (.iaload, 1) := by decide +kernel
theorem dp22_3_85 : decode prog_22_method_3_code 85 = .ok (.if_icmp .ne 51, 3) := by decide +kernel
theorem dp22_3_136 : decode prog_22_method_3_code 136 = .ok (.iinc 7 1, 3) := by decide +kernel
theorem dp22_3_139 : decode prog_22_method_3_code 139 = .ok (.goto (-115), 3) := by decide +kernel
set_option maxRecDepth 65536 in
set_option maxHeartbeats 40000000 in
theorem pc_rtn {p : Program} {l : Launch} {e : Env} {R : Room} {s : State} {m : MethodId} {args : Array Value} {below : List Frame} {meth : Method} {c : Code} {T0 : State} {locs : List Loc} {cells slots : Nat} {Z : State} {a0 : Array Value} {h0 : Heap} {n0 : Nat} (a1 fa f g P W : Addr) (kf kg kP kW : ClassId) (sv N M kv jv iv qx px : Int32) (wx vx : Int64) (vf vg vp vw : List Value) (g8 g9 : Slot) (X0 : Stand p l e R s m args below meth c T0 locs cells slots) (hx : p.tables.exec = Jvm.exec) (hZ : Z.Warmed39 s.vm) (hw : ∀ d ∈ tables_1, d.before a0 Z = true) (hby : c.code = prog_22_method_3_code) (hml : c.maxLocals = 10) (hown : s.vm.findClass "com/example/whittle/whittle/engine/WordSets$Meet" = some m.cls) (e0 : T0.heap = h0) (N0 : Fr n0 locs) (Z0 : n0 ≤ h0.size) (hcc : cells + 0 ≤ R.cells) (hcs : slots + 0 ≤ R.slots) (hfr : 0 ≤ R.frames) (hlo : 0 ≤ R.locals) (g_P : n0 ≤ P) (g_W : n0 ≤ W) (E1 : Exa Z h0 a1 "com/example/whittle/whittle/engine/WordSets$Meet") (EP : Exa Z h0 P "[I") (EW1 : Exa Z h0 W "[J") (Fp : Fld Z h0 a1 "com/example/whittle/whittle/engine/WordSets$Meet" "places" "[I" (.ref P)) (Fw : Fld Z h0 a1 "com/example/whittle/whittle/engine/WordSets$Meet" "words" "[J" (.ref W)) (Af : Arv Z h0 f kf .int N vf (.int (0 : Int32))) (Ag : Arv Z h0 g kg .long N vg (.long (0 : Int64))) (AP : Arv Z h0 P kP .int M vp (.int (0 : Int32))) (AW : Arv Z h0 W kW .long M vw (.long (0 : Int64))) (hlt : jv < N) (hj : ¬ jv < 0 ∧ jv < N) (ef : vf.getD jv.toNatClampNeg (.int (0 : Int32)) = .int qx) (eg : vg.getD jv.toNatClampNeg (.long (0 : Int64)) = .long vx) (hi : ¬ iv < 0 ∧ iv < M) (ep : vp.getD iv.toNatClampNeg (.int (0 : Int32)) = .int px) (ew : vw.getD iv.toNatClampNeg (.long (0 : Int64)) = .long wx) (h89 : (g8 = sU ∧ g9 = sU) ∨ ∃ y, g8 = .val (.long y) ∧ g9 = .second) (hq : ¬ qx < px) (hne : ¬ qx = px) :
    ∃ (T' : State) (h' : Heap) (locs' : List Loc), Stand p l e R s m args below meth c T' locs' (cells + 0) (slots + 0) ∧ T'.heap = h' ∧ Fr n0 locs' ∧ Keep h0 h' [] ∧ ∀ t, Sg p e below (T'.setTop (mkF m 24 #[sR a1, sR fa, sI sv, sR f, sR g, sI kv, sI jv, .val (.int (iv + (1 : Int32))), g8, g9] [])) t → Sg p e below (T0.setTop (mkF m 40 #[sR a1, sR fa, sI sv, sR f, sR g, sI kv, sI jv, sI iv, g8, g9] [])) t := by
  have P0 : ∀ t, Sg p e below (T0.setTop (mkF m 40 #[sR a1, sR fa, sI sv, sR f, sR g, sI kv, sI jv, sI iv, g8, g9] [])) t → Sg p e below (T0.setTop (mkF m 40 #[sR a1, sR fa, sI sv, sR f, sR g, sI kv, sI jv, sI iv, g8, g9] [])) t := fun t k => k
  obtain ⟨cl611, Ar611, -, S611, N611, -, -⟩ := id Af
  obtain ⟨cl612, Ar612, -, S612, N612, H612, -⟩ := id Af
  have hin612 : ¬ (jv < 0 ∨ cl612.slots.size ≤ (jv).toNatClampNeg) := inb_of S612 hj
  obtain ⟨T613, X613, e613, st613⟩ := getF X0 hx hZ hown (host := "") (Or.inl (own_hw hw 37 rfl)) Via.refl e0 Fp (g := (mkF m 52 #[sR a1, sR fa, sI sv, sR f, sR g, sI kv, sI jv, sI iv, g8, g9] [(.ref a1), (.int qx)])) rfl rfl (hb hby dp22_3_52)
  have P614 : ∀ t, Sg p e below (T613.setTop (mkF m 55 #[sR a1, sR fa, sI sv, sR f, sR g, sI kv, sI jv, sI iv, g8, g9] [(.ref P), (.int qx)])) t → Sg p e below (T0.setTop (mkF m 40 #[sR a1, sR fa, sI sv, sR f, sR g, sI kv, sI jv, sI iv, g8, g9] [])) t := fun t k => P0 t (by
    refine XS.iload X0.here hx rfl (hb hby dp22_3_40) rfl ?_
    refine XS.aloadN X0.here hx rfl (hb hby dp22_3_42) rfl rfl ?_
    show Sg p e below (T0.setTop (mkF m 43 #[sR a1, sR fa, sI sv, sR f, sR g, sI kv, sI jv, sI iv, g8, g9] [(.ref f), (.int jv)])) _
    refine X0.arraylength hx (by rw [e0]; exact Ar611.1) (State.isArrayOf_alike hZ.alike Ar611.2.1) (g := (mkF m 43 #[sR a1, sR fa, sI sv, sR f, sR g, sI kv, sI jv, sI iv, g8, g9] [(.ref f), (.int jv)])) rfl rfl (hb hby dp22_3_43) _ ?_
    rw [len_of S611 N611]
    show Sg p e below (T0.setTop (mkF m 44 #[sR a1, sR fa, sI sv, sR f, sR g, sI kv, sI jv, sI iv, g8, g9] [(.int N), (.int jv)])) _
    refine XS.icmpNo X0.here hx rfl (hb hby dp22_3_44) rfl (tlt (show jv < N from hlt)).2.1 ?_
    refine XS.aloadN X0.here hx rfl (hb hby dp22_3_47) rfl rfl ?_
    refine XS.iload X0.here hx rfl (hb hby dp22_3_48) rfl ?_
    show Sg p e below (T0.setTop (mkF m 50 #[sR a1, sR fa, sI sv, sR f, sR g, sI kv, sI jv, sI iv, g8, g9] [(.int jv), (.ref f)])) _
    refine X0.iaload hx (j := jv) (v := (.int qx)) (by rw [e0]; exact Ar612.1) (State.isArrayOf_alike hZ.alike Ar612.2.1) Ar612.2.2 hin612 (H612.at hin612 ef) (g := (mkF m 50 #[sR a1, sR fa, sI sv, sR f, sR g, sI kv, sI jv, sI iv, g8, g9] [(.int jv), (.ref f)])) rfl rfl (hb hby dp22_3_50) _ ?_
    show Sg p e below (T0.setTop (mkF m 51 #[sR a1, sR fa, sI sv, sR f, sR g, sI kv, sI jv, sI iv, g8, g9] [(.int qx)])) _
    refine XS.aloadN X0.here hx rfl (hb hby dp22_3_51) rfl rfl ?_
    show Sg p e below (T0.setTop (mkF m 52 #[sR a1, sR fa, sI sv, sR f, sR g, sI kv, sI jv, sI iv, g8, g9] [(.ref a1), (.int qx)])) _
    exact st613 _ k)
  obtain ⟨cl615, Ar615, -, S615, N615, H615, -⟩ := id AP
  have hin615 : ¬ (iv < 0 ∨ cl615.slots.size ≤ (iv).toNatClampNeg) := inb_of S615 hi
  obtain ⟨cl616, Ar616, -, S616, N616, -, -⟩ := id Af
  obtain ⟨cl617, Ar617, -, S617, N617, H617, -⟩ := id Af
  have hin617 : ¬ (jv < 0 ∨ cl617.slots.size ≤ (jv).toNatClampNeg) := inb_of S617 hj
  obtain ⟨T618, X618, e618, st618⟩ := getF X613 hx hZ hown (host := "") (Or.inl (own_hw hw 37 rfl)) Via.refl e613 Fp (g := (mkF m 79 #[sR a1, sR fa, sI sv, sR f, sR g, sI kv, sI jv, sI iv, g8, g9] [(.ref a1), (.int qx)])) rfl rfl (hb hby dp22_3_79)
  have P619 : ∀ t, Sg p e below (T618.setTop (mkF m 82 #[sR a1, sR fa, sI sv, sR f, sR g, sI kv, sI jv, sI iv, g8, g9] [(.ref P), (.int qx)])) t → Sg p e below (T0.setTop (mkF m 40 #[sR a1, sR fa, sI sv, sR f, sR g, sI kv, sI jv, sI iv, g8, g9] [])) t := fun t k => P614 t (by
    refine XS.iload X613.here hx rfl (hb hby dp22_3_55) rfl ?_
    show Sg p e below (T613.setTop (mkF m 57 #[sR a1, sR fa, sI sv, sR f, sR g, sI kv, sI jv, sI iv, g8, g9] [(.int iv), (.ref P), (.int qx)])) _
    refine X613.iaload hx (j := iv) (v := (.int px)) (by rw [e613]; exact Ar615.1) (State.isArrayOf_alike hZ.alike Ar615.2.1) Ar615.2.2 hin615 (H615.at hin615 ep) (g := (mkF m 57 #[sR a1, sR fa, sI sv, sR f, sR g, sI kv, sI jv, sI iv, g8, g9] [(.int iv), (.ref P), (.int qx)])) rfl rfl (hb hby dp22_3_57) _ ?_
    show Sg p e below (T613.setTop (mkF m 58 #[sR a1, sR fa, sI sv, sR f, sR g, sI kv, sI jv, sI iv, g8, g9] [(.int px), (.int qx)])) _
    refine XS.icmpYes X613.here hx rfl (pc0 := 58) (pc' := 67) rfl (hb hby dp22_3_58) rfl (flt (show ¬ (qx < px) from hq)).2.1 (by decide) (by decide) ?_
    refine XS.iload X613.here hx rfl (hb hby dp22_3_67) rfl ?_
    refine XS.aloadN X613.here hx rfl (hb hby dp22_3_69) rfl rfl ?_
    show Sg p e below (T613.setTop (mkF m 70 #[sR a1, sR fa, sI sv, sR f, sR g, sI kv, sI jv, sI iv, g8, g9] [(.ref f), (.int jv)])) _
    refine X613.arraylength hx (by rw [e613]; exact Ar616.1) (State.isArrayOf_alike hZ.alike Ar616.2.1) (g := (mkF m 70 #[sR a1, sR fa, sI sv, sR f, sR g, sI kv, sI jv, sI iv, g8, g9] [(.ref f), (.int jv)])) rfl rfl (hb hby dp22_3_70) _ ?_
    rw [len_of S616 N616]
    show Sg p e below (T613.setTop (mkF m 71 #[sR a1, sR fa, sI sv, sR f, sR g, sI kv, sI jv, sI iv, g8, g9] [(.int N), (.int jv)])) _
    refine XS.icmpNo X613.here hx rfl (hb hby dp22_3_71) rfl (tlt (show jv < N from hlt)).2.1 ?_
    refine XS.aloadN X613.here hx rfl (hb hby dp22_3_74) rfl rfl ?_
    refine XS.iload X613.here hx rfl (hb hby dp22_3_75) rfl ?_
    show Sg p e below (T613.setTop (mkF m 77 #[sR a1, sR fa, sI sv, sR f, sR g, sI kv, sI jv, sI iv, g8, g9] [(.int jv), (.ref f)])) _
    refine X613.iaload hx (j := jv) (v := (.int qx)) (by rw [e613]; exact Ar617.1) (State.isArrayOf_alike hZ.alike Ar617.2.1) Ar617.2.2 hin617 (H617.at hin617 ef) (g := (mkF m 77 #[sR a1, sR fa, sI sv, sR f, sR g, sI kv, sI jv, sI iv, g8, g9] [(.int jv), (.ref f)])) rfl rfl (hb hby dp22_3_77) _ ?_
    show Sg p e below (T613.setTop (mkF m 78 #[sR a1, sR fa, sI sv, sR f, sR g, sI kv, sI jv, sI iv, g8, g9] [(.int qx)])) _
    refine XS.aloadN X613.here hx rfl (hb hby dp22_3_78) rfl rfl ?_
    show Sg p e below (T613.setTop (mkF m 79 #[sR a1, sR fa, sI sv, sR f, sR g, sI kv, sI jv, sI iv, g8, g9] [(.ref a1), (.int qx)])) _
    exact st618 _ k)
  obtain ⟨cl620, Ar620, -, S620, N620, H620, -⟩ := id AP
  have hin620 : ¬ (iv < 0 ∨ cl620.slots.size ≤ (iv).toNatClampNeg) := inb_of S620 hi
  have P621 : ∀ t, Sg p e below (T618.setTop (mkF m 24 #[sR a1, sR fa, sI sv, sR f, sR g, sI kv, sI jv, .val (.int (iv + (1 : Int32))), g8, g9] [])) t → Sg p e below (T0.setTop (mkF m 40 #[sR a1, sR fa, sI sv, sR f, sR g, sI kv, sI jv, sI iv, g8, g9] [])) t := fun t k => P619 t (by
    refine XS.iload X618.here hx rfl (hb hby dp22_3_82) rfl ?_
    show Sg p e below (T618.setTop (mkF m 84 #[sR a1, sR fa, sI sv, sR f, sR g, sI kv, sI jv, sI iv, g8, g9] [(.int iv), (.ref P), (.int qx)])) _
    refine X618.iaload hx (j := iv) (v := (.int px)) (by rw [e618]; exact Ar620.1) (State.isArrayOf_alike hZ.alike Ar620.2.1) Ar620.2.2 hin620 (H620.at hin620 ep) (g := (mkF m 84 #[sR a1, sR fa, sI sv, sR f, sR g, sI kv, sI jv, sI iv, g8, g9] [(.int iv), (.ref P), (.int qx)])) rfl rfl (hb hby dp22_3_84) _ ?_
    show Sg p e below (T618.setTop (mkF m 85 #[sR a1, sR fa, sI sv, sR f, sR g, sI kv, sI jv, sI iv, g8, g9] [(.int px), (.int qx)])) _
    refine XS.icmpYes X618.here hx rfl (pc0 := 85) (pc' := 136) rfl (hb hby dp22_3_85) rfl (feq (show ¬ (qx = px) from hne)).2 (by decide) (by decide) ?_
    refine XS.iinc X618.here hx rfl (hb hby dp22_3_136) rfl (l' := #[sR a1, sR fa, sI sv, sR f, sR g, sI kv, sI jv, .val (.int (iv + (1 : Int32))), g8, g9]) rfl ?_
    refine XS.goto X618.here hx rfl (pc0 := 139) (pc' := 24) rfl (hb hby dp22_3_139) (by decide) (by decide) ?_
    show Sg p e below (T618.setTop (mkF m 24 #[sR a1, sR fa, sI sv, sR f, sR g, sI kv, sI jv, .val (.int (iv + (1 : Int32))), g8, g9] [])) _
    exact k)
  exact ⟨T618, h0, _, X618.more (by omega) (by omega), e618, N0, (Keep.refl h0 []), P621⟩
theorem dp22_3_88 : decode prog_22_method_3_code 88 = .ok (.aload_n 0, 1) := by decide +kernel
theorem dp22_3_89 : decode prog_22_method_3_code 89 = .ok (.getfield 13, 3) := by decide +kernel
theorem dp22_3_92 : decode prog_22_method_3_code 92 = .ok (.iload 7, 2) := by decide +kernel
theorem dp22_3_94 : decode prog_22_method_3_code 94 = .ok (.laload, 1) := by decide +kernel
theorem dp22_3_95 : decode prog_22_method_3_code 95 = .ok (.aload 4, 2) := by decide +kernel
theorem dp22_3_97 : decode prog_22_method_3_code 97 = .ok (.iload 6, 2) := by decide +kernel
theorem dp22_3_99 : decode prog_22_method_3_code 99 = .ok (.laload, 1) := by decide +kernel
theorem dp22_3_100 : decode prog_22_method_3_code 100 = .ok (.land, 1) := by decide +kernel
theorem dp22_3_101 : decode prog_22_method_3_code 101 = .ok (.lstore 8, 2) := by decide +kernel
theorem dp22_3_103 : decode prog_22_method_3_code 103 = .ok (.lload 8, 2) := by decide +kernel
theorem dp22_3_105 : decode prog_22_method_3_code 105 = .ok (.lconst 0, 1) := by decide +kernel
theorem dp22_3_106 : decode prog_22_method_3_code 106 = .ok (.lcmp, 1) := by decide +kernel
theorem dp22_3_107 : decode prog_22_method_3_code 107 = .ok (.ifCond .eq 29, 3) := by decide +kernel
set_option maxRecDepth 65536 in
set_option maxHeartbeats 40000000 in
theorem pc_rtz {p : Program} {l : Launch} {e : Env} {R : Room} {s : State} {m : MethodId} {args : Array Value} {below : List Frame} {meth : Method} {c : Code} {T0 : State} {locs : List Loc} {cells slots : Nat} {Z : State} {a0 : Array Value} {h0 : Heap} {n0 : Nat} (a1 fa f g P W : Addr) (kf kg kP kW : ClassId) (sv N M kv jv iv qx px : Int32) (wx vx : Int64) (vf vg vp vw : List Value) (g8 g9 : Slot) (X0 : Stand p l e R s m args below meth c T0 locs cells slots) (hx : p.tables.exec = Jvm.exec) (hZ : Z.Warmed39 s.vm) (hw : ∀ d ∈ tables_1, d.before a0 Z = true) (hby : c.code = prog_22_method_3_code) (hml : c.maxLocals = 10) (hown : s.vm.findClass "com/example/whittle/whittle/engine/WordSets$Meet" = some m.cls) (e0 : T0.heap = h0) (N0 : Fr n0 locs) (Z0 : n0 ≤ h0.size) (hcc : cells + 0 ≤ R.cells) (hcs : slots + 0 ≤ R.slots) (hfr : 0 ≤ R.frames) (hlo : 0 ≤ R.locals) (g_P : n0 ≤ P) (g_W : n0 ≤ W) (E1 : Exa Z h0 a1 "com/example/whittle/whittle/engine/WordSets$Meet") (EP : Exa Z h0 P "[I") (EW1 : Exa Z h0 W "[J") (Fp : Fld Z h0 a1 "com/example/whittle/whittle/engine/WordSets$Meet" "places" "[I" (.ref P)) (Fw : Fld Z h0 a1 "com/example/whittle/whittle/engine/WordSets$Meet" "words" "[J" (.ref W)) (Af : Arv Z h0 f kf .int N vf (.int (0 : Int32))) (Ag : Arv Z h0 g kg .long N vg (.long (0 : Int64))) (AP : Arv Z h0 P kP .int M vp (.int (0 : Int32))) (AW : Arv Z h0 W kW .long M vw (.long (0 : Int64))) (hlt : jv < N) (hj : ¬ jv < 0 ∧ jv < N) (ef : vf.getD jv.toNatClampNeg (.int (0 : Int32)) = .int qx) (eg : vg.getD jv.toNatClampNeg (.long (0 : Int64)) = .long vx) (hi : ¬ iv < 0 ∧ iv < M) (ep : vp.getD iv.toNatClampNeg (.int (0 : Int32)) = .int px) (ew : vw.getD iv.toNatClampNeg (.long (0 : Int64)) = .long wx) (h89 : (g8 = sU ∧ g9 = sU) ∨ ∃ y, g8 = .val (.long y) ∧ g9 = .second) (hq : ¬ qx < px) (he : qx = px) (hbo : (wx &&& vx) = (0 : Int64)) :
    ∃ (T' : State) (h' : Heap) (locs' : List Loc), Stand p l e R s m args below meth c T' locs' (cells + 0) (slots + 0) ∧ T'.heap = h' ∧ Fr n0 locs' ∧ Keep h0 h' [] ∧ ∀ t, Sg p e below (T'.setTop (mkF m 24 #[sR a1, sR fa, sI sv, sR f, sR g, sI kv, sI jv, .val (.int (iv + (1 : Int32))), .val (.long (wx &&& vx)), .second] [])) t → Sg p e below (T0.setTop (mkF m 40 #[sR a1, sR fa, sI sv, sR f, sR g, sI kv, sI jv, sI iv, g8, g9] [])) t := by
  have P0 : ∀ t, Sg p e below (T0.setTop (mkF m 40 #[sR a1, sR fa, sI sv, sR f, sR g, sI kv, sI jv, sI iv, g8, g9] [])) t → Sg p e below (T0.setTop (mkF m 40 #[sR a1, sR fa, sI sv, sR f, sR g, sI kv, sI jv, sI iv, g8, g9] [])) t := fun t k => k
  obtain ⟨cl622, Ar622, -, S622, N622, -, -⟩ := id Af
  obtain ⟨cl623, Ar623, -, S623, N623, H623, -⟩ := id Af
  have hin623 : ¬ (jv < 0 ∨ cl623.slots.size ≤ (jv).toNatClampNeg) := inb_of S623 hj
  obtain ⟨T624, X624, e624, st624⟩ := getF X0 hx hZ hown (host := "") (Or.inl (own_hw hw 37 rfl)) Via.refl e0 Fp (g := (mkF m 52 #[sR a1, sR fa, sI sv, sR f, sR g, sI kv, sI jv, sI iv, g8, g9] [(.ref a1), (.int qx)])) rfl rfl (hb hby dp22_3_52)
  have P625 : ∀ t, Sg p e below (T624.setTop (mkF m 55 #[sR a1, sR fa, sI sv, sR f, sR g, sI kv, sI jv, sI iv, g8, g9] [(.ref P), (.int qx)])) t → Sg p e below (T0.setTop (mkF m 40 #[sR a1, sR fa, sI sv, sR f, sR g, sI kv, sI jv, sI iv, g8, g9] [])) t := fun t k => P0 t (by
    refine XS.iload X0.here hx rfl (hb hby dp22_3_40) rfl ?_
    refine XS.aloadN X0.here hx rfl (hb hby dp22_3_42) rfl rfl ?_
    show Sg p e below (T0.setTop (mkF m 43 #[sR a1, sR fa, sI sv, sR f, sR g, sI kv, sI jv, sI iv, g8, g9] [(.ref f), (.int jv)])) _
    refine X0.arraylength hx (by rw [e0]; exact Ar622.1) (State.isArrayOf_alike hZ.alike Ar622.2.1) (g := (mkF m 43 #[sR a1, sR fa, sI sv, sR f, sR g, sI kv, sI jv, sI iv, g8, g9] [(.ref f), (.int jv)])) rfl rfl (hb hby dp22_3_43) _ ?_
    rw [len_of S622 N622]
    show Sg p e below (T0.setTop (mkF m 44 #[sR a1, sR fa, sI sv, sR f, sR g, sI kv, sI jv, sI iv, g8, g9] [(.int N), (.int jv)])) _
    refine XS.icmpNo X0.here hx rfl (hb hby dp22_3_44) rfl (tlt (show jv < N from hlt)).2.1 ?_
    refine XS.aloadN X0.here hx rfl (hb hby dp22_3_47) rfl rfl ?_
    refine XS.iload X0.here hx rfl (hb hby dp22_3_48) rfl ?_
    show Sg p e below (T0.setTop (mkF m 50 #[sR a1, sR fa, sI sv, sR f, sR g, sI kv, sI jv, sI iv, g8, g9] [(.int jv), (.ref f)])) _
    refine X0.iaload hx (j := jv) (v := (.int qx)) (by rw [e0]; exact Ar623.1) (State.isArrayOf_alike hZ.alike Ar623.2.1) Ar623.2.2 hin623 (H623.at hin623 ef) (g := (mkF m 50 #[sR a1, sR fa, sI sv, sR f, sR g, sI kv, sI jv, sI iv, g8, g9] [(.int jv), (.ref f)])) rfl rfl (hb hby dp22_3_50) _ ?_
    show Sg p e below (T0.setTop (mkF m 51 #[sR a1, sR fa, sI sv, sR f, sR g, sI kv, sI jv, sI iv, g8, g9] [(.int qx)])) _
    refine XS.aloadN X0.here hx rfl (hb hby dp22_3_51) rfl rfl ?_
    show Sg p e below (T0.setTop (mkF m 52 #[sR a1, sR fa, sI sv, sR f, sR g, sI kv, sI jv, sI iv, g8, g9] [(.ref a1), (.int qx)])) _
    exact st624 _ k)
  obtain ⟨cl626, Ar626, -, S626, N626, H626, -⟩ := id AP
  have hin626 : ¬ (iv < 0 ∨ cl626.slots.size ≤ (iv).toNatClampNeg) := inb_of S626 hi
  obtain ⟨cl627, Ar627, -, S627, N627, -, -⟩ := id Af
  obtain ⟨cl628, Ar628, -, S628, N628, H628, -⟩ := id Af
  have hin628 : ¬ (jv < 0 ∨ cl628.slots.size ≤ (jv).toNatClampNeg) := inb_of S628 hj
  obtain ⟨T629, X629, e629, st629⟩ := getF X624 hx hZ hown (host := "") (Or.inl (own_hw hw 37 rfl)) Via.refl e624 Fp (g := (mkF m 79 #[sR a1, sR fa, sI sv, sR f, sR g, sI kv, sI jv, sI iv, g8, g9] [(.ref a1), (.int qx)])) rfl rfl (hb hby dp22_3_79)
  have P630 : ∀ t, Sg p e below (T629.setTop (mkF m 82 #[sR a1, sR fa, sI sv, sR f, sR g, sI kv, sI jv, sI iv, g8, g9] [(.ref P), (.int qx)])) t → Sg p e below (T0.setTop (mkF m 40 #[sR a1, sR fa, sI sv, sR f, sR g, sI kv, sI jv, sI iv, g8, g9] [])) t := fun t k => P625 t (by
    refine XS.iload X624.here hx rfl (hb hby dp22_3_55) rfl ?_
    show Sg p e below (T624.setTop (mkF m 57 #[sR a1, sR fa, sI sv, sR f, sR g, sI kv, sI jv, sI iv, g8, g9] [(.int iv), (.ref P), (.int qx)])) _
    refine X624.iaload hx (j := iv) (v := (.int px)) (by rw [e624]; exact Ar626.1) (State.isArrayOf_alike hZ.alike Ar626.2.1) Ar626.2.2 hin626 (H626.at hin626 ep) (g := (mkF m 57 #[sR a1, sR fa, sI sv, sR f, sR g, sI kv, sI jv, sI iv, g8, g9] [(.int iv), (.ref P), (.int qx)])) rfl rfl (hb hby dp22_3_57) _ ?_
    show Sg p e below (T624.setTop (mkF m 58 #[sR a1, sR fa, sI sv, sR f, sR g, sI kv, sI jv, sI iv, g8, g9] [(.int px), (.int qx)])) _
    refine XS.icmpYes X624.here hx rfl (pc0 := 58) (pc' := 67) rfl (hb hby dp22_3_58) rfl (flt (show ¬ (qx < px) from hq)).2.1 (by decide) (by decide) ?_
    refine XS.iload X624.here hx rfl (hb hby dp22_3_67) rfl ?_
    refine XS.aloadN X624.here hx rfl (hb hby dp22_3_69) rfl rfl ?_
    show Sg p e below (T624.setTop (mkF m 70 #[sR a1, sR fa, sI sv, sR f, sR g, sI kv, sI jv, sI iv, g8, g9] [(.ref f), (.int jv)])) _
    refine X624.arraylength hx (by rw [e624]; exact Ar627.1) (State.isArrayOf_alike hZ.alike Ar627.2.1) (g := (mkF m 70 #[sR a1, sR fa, sI sv, sR f, sR g, sI kv, sI jv, sI iv, g8, g9] [(.ref f), (.int jv)])) rfl rfl (hb hby dp22_3_70) _ ?_
    rw [len_of S627 N627]
    show Sg p e below (T624.setTop (mkF m 71 #[sR a1, sR fa, sI sv, sR f, sR g, sI kv, sI jv, sI iv, g8, g9] [(.int N), (.int jv)])) _
    refine XS.icmpNo X624.here hx rfl (hb hby dp22_3_71) rfl (tlt (show jv < N from hlt)).2.1 ?_
    refine XS.aloadN X624.here hx rfl (hb hby dp22_3_74) rfl rfl ?_
    refine XS.iload X624.here hx rfl (hb hby dp22_3_75) rfl ?_
    show Sg p e below (T624.setTop (mkF m 77 #[sR a1, sR fa, sI sv, sR f, sR g, sI kv, sI jv, sI iv, g8, g9] [(.int jv), (.ref f)])) _
    refine X624.iaload hx (j := jv) (v := (.int qx)) (by rw [e624]; exact Ar628.1) (State.isArrayOf_alike hZ.alike Ar628.2.1) Ar628.2.2 hin628 (H628.at hin628 ef) (g := (mkF m 77 #[sR a1, sR fa, sI sv, sR f, sR g, sI kv, sI jv, sI iv, g8, g9] [(.int jv), (.ref f)])) rfl rfl (hb hby dp22_3_77) _ ?_
    show Sg p e below (T624.setTop (mkF m 78 #[sR a1, sR fa, sI sv, sR f, sR g, sI kv, sI jv, sI iv, g8, g9] [(.int qx)])) _
    refine XS.aloadN X624.here hx rfl (hb hby dp22_3_78) rfl rfl ?_
    show Sg p e below (T624.setTop (mkF m 79 #[sR a1, sR fa, sI sv, sR f, sR g, sI kv, sI jv, sI iv, g8, g9] [(.ref a1), (.int qx)])) _
    exact st629 _ k)
  obtain ⟨cl631, Ar631, -, S631, N631, H631, -⟩ := id AP
  have hin631 : ¬ (iv < 0 ∨ cl631.slots.size ≤ (iv).toNatClampNeg) := inb_of S631 hi
  obtain ⟨T632, X632, e632, st632⟩ := getF X629 hx hZ hown (host := "") (Or.inl (own_hw hw 39 rfl)) Via.refl e629 Fw (g := (mkF m 89 #[sR a1, sR fa, sI sv, sR f, sR g, sI kv, sI jv, sI iv, g8, g9] [(.ref a1)])) rfl rfl (hb hby dp22_3_89)
  have P633 : ∀ t, Sg p e below (T632.setTop (mkF m 92 #[sR a1, sR fa, sI sv, sR f, sR g, sI kv, sI jv, sI iv, g8, g9] [(.ref W)])) t → Sg p e below (T0.setTop (mkF m 40 #[sR a1, sR fa, sI sv, sR f, sR g, sI kv, sI jv, sI iv, g8, g9] [])) t := fun t k => P630 t (by
    refine XS.iload X629.here hx rfl (hb hby dp22_3_82) rfl ?_
    show Sg p e below (T629.setTop (mkF m 84 #[sR a1, sR fa, sI sv, sR f, sR g, sI kv, sI jv, sI iv, g8, g9] [(.int iv), (.ref P), (.int qx)])) _
    refine X629.iaload hx (j := iv) (v := (.int px)) (by rw [e629]; exact Ar631.1) (State.isArrayOf_alike hZ.alike Ar631.2.1) Ar631.2.2 hin631 (H631.at hin631 ep) (g := (mkF m 84 #[sR a1, sR fa, sI sv, sR f, sR g, sI kv, sI jv, sI iv, g8, g9] [(.int iv), (.ref P), (.int qx)])) rfl rfl (hb hby dp22_3_84) _ ?_
    show Sg p e below (T629.setTop (mkF m 85 #[sR a1, sR fa, sI sv, sR f, sR g, sI kv, sI jv, sI iv, g8, g9] [(.int px), (.int qx)])) _
    refine XS.icmpNo X629.here hx rfl (hb hby dp22_3_85) rfl (teq (show qx = px from he)).2 ?_
    refine XS.aloadN X629.here hx rfl (hb hby dp22_3_88) rfl rfl ?_
    show Sg p e below (T629.setTop (mkF m 89 #[sR a1, sR fa, sI sv, sR f, sR g, sI kv, sI jv, sI iv, g8, g9] [(.ref a1)])) _
    exact st632 _ k)
  obtain ⟨cl634, Ar634, -, S634, N634, H634, -⟩ := id AW
  have hin634 : ¬ (iv < 0 ∨ cl634.slots.size ≤ (iv).toNatClampNeg) := inb_of S634 hi
  obtain ⟨cl635, Ar635, -, S635, N635, H635, -⟩ := id Ag
  have hin635 : ¬ (jv < 0 ∨ cl635.slots.size ≤ (jv).toNatClampNeg) := inb_of S635 hj
  have P636 : ∀ t, Sg p e below (T632.setTop (mkF m 24 #[sR a1, sR fa, sI sv, sR f, sR g, sI kv, sI jv, .val (.int (iv + (1 : Int32))), .val (.long (wx &&& vx)), .second] [])) t → Sg p e below (T0.setTop (mkF m 40 #[sR a1, sR fa, sI sv, sR f, sR g, sI kv, sI jv, sI iv, g8, g9] [])) t := fun t k => P633 t (by
    refine XS.iload X632.here hx rfl (hb hby dp22_3_92) rfl ?_
    show Sg p e below (T632.setTop (mkF m 94 #[sR a1, sR fa, sI sv, sR f, sR g, sI kv, sI jv, sI iv, g8, g9] [(.int iv), (.ref W)])) _
    refine X632.laload hx (j := iv) (v := (.long wx)) (by rw [e632]; exact Ar634.1) (State.isArrayOf_alike hZ.alike Ar634.2.1) Ar634.2.2 hin634 (H634.at hin634 ew) (g := (mkF m 94 #[sR a1, sR fa, sI sv, sR f, sR g, sI kv, sI jv, sI iv, g8, g9] [(.int iv), (.ref W)])) rfl rfl (hb hby dp22_3_94) _ ?_
    show Sg p e below (T632.setTop (mkF m 95 #[sR a1, sR fa, sI sv, sR f, sR g, sI kv, sI jv, sI iv, g8, g9] [(.long wx)])) _
    refine XS.aload X632.here hx rfl (hb hby dp22_3_95) rfl rfl ?_
    refine XS.iload X632.here hx rfl (hb hby dp22_3_97) rfl ?_
    show Sg p e below (T632.setTop (mkF m 99 #[sR a1, sR fa, sI sv, sR f, sR g, sI kv, sI jv, sI iv, g8, g9] [(.int jv), (.ref g), (.long wx)])) _
    refine X632.laload hx (j := jv) (v := (.long vx)) (by rw [e632]; exact Ar635.1) (State.isArrayOf_alike hZ.alike Ar635.2.1) Ar635.2.2 hin635 (H635.at hin635 eg) (g := (mkF m 99 #[sR a1, sR fa, sI sv, sR f, sR g, sI kv, sI jv, sI iv, g8, g9] [(.int jv), (.ref g), (.long wx)])) rfl rfl (hb hby dp22_3_99) _ ?_
    show Sg p e below (T632.setTop (mkF m 100 #[sR a1, sR fa, sI sv, sR f, sR g, sI kv, sI jv, sI iv, g8, g9] [(.long vx), (.long wx)])) _
    refine XS.land X632.here hx rfl (hb hby dp22_3_100) rfl ?_
    refine XS.lstore X632.here hx rfl (hb hby dp22_3_101) rfl (l' := #[sR a1, sR fa, sI sv, sR f, sR g, sI kv, sI jv, sI iv, .val (.long (wx &&& vx)), .second]) (by rcases h89 with ⟨rfl, rfl⟩ | ⟨_, rfl, rfl⟩ <;> rfl) ?_
    refine XS.lload X632.here hx rfl (hb hby dp22_3_103) rfl ?_
    refine XS.lconst X632.here hx rfl (hb hby dp22_3_105) ?_
    refine XS.lcmp X632.here hx rfl (hb hby dp22_3_106) rfl ?_
    refine XS.ifYes X632.here hx rfl (pc0 := 107) (pc' := 136) rfl (hb hby dp22_3_107) rfl (XT.ll_eq_t (show (wx &&& vx) = (0 : Int64) from hbo)) (by decide) (by decide) ?_
    refine XS.iinc X632.here hx rfl (hb hby dp22_3_136) rfl (l' := #[sR a1, sR fa, sI sv, sR f, sR g, sI kv, sI jv, .val (.int (iv + (1 : Int32))), .val (.long (wx &&& vx)), .second]) rfl ?_
    refine XS.goto X632.here hx rfl (pc0 := 139) (pc' := 24) rfl (hb hby dp22_3_139) (by decide) (by decide) ?_
    show Sg p e below (T632.setTop (mkF m 24 #[sR a1, sR fa, sI sv, sR f, sR g, sI kv, sI jv, .val (.int (iv + (1 : Int32))), .val (.long (wx &&& vx)), .second] [])) _
    exact k)
  exact ⟨T632, h0, _, X632.more (by omega) (by omega), e632, N0, (Keep.refl h0 []), P636⟩
theorem dp22_3_110 : decode prog_22_method_3_code 110 = .ok (.aload_n 0, 1) := by decide +kernel
theorem dp22_3_111 : decode prog_22_method_3_code 111 = .ok (.getfield 7, 3) := by decide +kernel
theorem dp22_3_114 : decode prog_22_method_3_code 114 = .ok (.iload 5, 2) := by decide +kernel
theorem dp22_3_116 : decode prog_22_method_3_code 116 = .ok (.aload_n 0, 1) := by decide +kernel
theorem dp22_3_117 : decode prog_22_method_3_code 117 = .ok (.getfield 7, 3) := by decide +kernel
theorem dp22_3_120 : decode prog_22_method_3_code 120 = .ok (.iload 7, 2) := by decide +kernel
theorem dp22_3_122 : decode prog_22_method_3_code 122 = .ok (.iaload, 1) := by decide +kernel
theorem dp22_3_123 : decode prog_22_method_3_code 123 = .ok (.iastore, 1) := by decide +kernel
theorem dp22_3_124 : decode prog_22_method_3_code 124 = .ok (.aload_n 0, 1) := by decide +kernel
theorem dp22_3_125 : decode prog_22_method_3_code 125 = .ok (.getfield 13, 3) := by decide +kernel
theorem dp22_3_128 : decode prog_22_method_3_code 128 = .ok (.iload 5, 2) := by decide +kernel
theorem dp22_3_130 : decode prog_22_method_3_code 130 = .ok (.iinc 5 1, 3) := by decide +kernel
theorem dp22_3_133 : decode prog_22_method_3_code 133 = .ok (.lload 8, 2) := by decide +kernel
theorem dp22_3_135 : decode prog_22_method_3_code 135 = .ok (.lastore, 1) := by decide +kernel
set_option maxRecDepth 65536 in
set_option maxHeartbeats 40000000 in
theorem pc_rtk {p : Program} {l : Launch} {e : Env} {R : Room} {s : State} {m : MethodId} {args : Array Value} {below : List Frame} {meth : Method} {c : Code} {T0 : State} {locs : List Loc} {cells slots : Nat} {Z : State} {a0 : Array Value} {h0 : Heap} {n0 : Nat} (a1 fa f g P W : Addr) (kf kg kP kW : ClassId) (sv N M kv jv iv qx px : Int32) (wx vx : Int64) (vf vg vp vw : List Value) (g8 g9 : Slot) (kk : Nat) (X0 : Stand p l e R s m args below meth c T0 locs cells slots) (hx : p.tables.exec = Jvm.exec) (hZ : Z.Warmed39 s.vm) (hw : ∀ d ∈ tables_1, d.before a0 Z = true) (hby : c.code = prog_22_method_3_code) (hml : c.maxLocals = 10) (hown : s.vm.findClass "com/example/whittle/whittle/engine/WordSets$Meet" = some m.cls) (e0 : T0.heap = h0) (N0 : Fr n0 locs) (Z0 : n0 ≤ h0.size) (hcc : cells + 0 ≤ R.cells) (hcs : slots + 0 ≤ R.slots) (hfr : 0 ≤ R.frames) (hlo : 0 ≤ R.locals) (g_P : n0 ≤ P) (g_W : n0 ≤ W) (E1 : Exa Z h0 a1 "com/example/whittle/whittle/engine/WordSets$Meet") (EP : Exa Z h0 P "[I") (EW1 : Exa Z h0 W "[J") (Fp : Fld Z h0 a1 "com/example/whittle/whittle/engine/WordSets$Meet" "places" "[I" (.ref P)) (Fw : Fld Z h0 a1 "com/example/whittle/whittle/engine/WordSets$Meet" "words" "[J" (.ref W)) (Af : Arv Z h0 f kf .int N vf (.int (0 : Int32))) (Ag : Arv Z h0 g kg .long N vg (.long (0 : Int64))) (AP : Arv Z h0 P kP .int M vp (.int (0 : Int32))) (AW : Arv Z h0 W kW .long M vw (.long (0 : Int64))) (hlt : jv < N) (hj : ¬ jv < 0 ∧ jv < N) (ef : vf.getD jv.toNatClampNeg (.int (0 : Int32)) = .int qx) (eg : vg.getD jv.toNatClampNeg (.long (0 : Int64)) = .long vx) (hi : ¬ iv < 0 ∧ iv < M) (ep : vp.getD iv.toNatClampNeg (.int (0 : Int32)) = .int px) (ew : vw.getD iv.toNatClampNeg (.long (0 : Int64)) = .long wx) (h89 : (g8 = sU ∧ g9 = sU) ∨ ∃ y, g8 = .val (.long y) ∧ g9 = .second) (hq : ¬ qx < px) (he : qx = px) (hbo : ¬ (wx &&& vx) = (0 : Int64)) (hin : ¬ kv < 0 ∧ kv < M) (hk : kv.toNatClampNeg = kk) (hlp : kk < vp.length) (hlw : kk < vw.length) :
    ∃ (T' : State) (h' : Heap) (locs' : List Loc), Stand p l e R s m args below meth c T' locs' (cells + 0) (slots + 0) ∧ T'.heap = h' ∧ Fr n0 locs' ∧ Keep h0 h' [P, W] ∧ Arv Z h' P kP .int M (vp.set kk (.int px)) (.int (0 : Int32)) ∧ Arv Z h' W kW .long M (vw.set kk (.long (wx &&& vx))) (.long (0 : Int64)) ∧ ∀ t, Sg p e below (T'.setTop (mkF m 24 #[sR a1, sR fa, sI sv, sR f, sR g, .val (.int (kv + (1 : Int32))), sI jv, .val (.int (iv + (1 : Int32))), .val (.long (wx &&& vx)), .second] [])) t → Sg p e below (T0.setTop (mkF m 40 #[sR a1, sR fa, sI sv, sR f, sR g, sI kv, sI jv, sI iv, g8, g9] [])) t := by
  have P0 : ∀ t, Sg p e below (T0.setTop (mkF m 40 #[sR a1, sR fa, sI sv, sR f, sR g, sI kv, sI jv, sI iv, g8, g9] [])) t → Sg p e below (T0.setTop (mkF m 40 #[sR a1, sR fa, sI sv, sR f, sR g, sI kv, sI jv, sI iv, g8, g9] [])) t := fun t k => k
  obtain ⟨cl637, Ar637, -, S637, N637, -, -⟩ := id Af
  obtain ⟨cl638, Ar638, -, S638, N638, H638, -⟩ := id Af
  have hin638 : ¬ (jv < 0 ∨ cl638.slots.size ≤ (jv).toNatClampNeg) := inb_of S638 hj
  obtain ⟨T639, X639, e639, st639⟩ := getF X0 hx hZ hown (host := "") (Or.inl (own_hw hw 37 rfl)) Via.refl e0 Fp (g := (mkF m 52 #[sR a1, sR fa, sI sv, sR f, sR g, sI kv, sI jv, sI iv, g8, g9] [(.ref a1), (.int qx)])) rfl rfl (hb hby dp22_3_52)
  have P640 : ∀ t, Sg p e below (T639.setTop (mkF m 55 #[sR a1, sR fa, sI sv, sR f, sR g, sI kv, sI jv, sI iv, g8, g9] [(.ref P), (.int qx)])) t → Sg p e below (T0.setTop (mkF m 40 #[sR a1, sR fa, sI sv, sR f, sR g, sI kv, sI jv, sI iv, g8, g9] [])) t := fun t k => P0 t (by
    refine XS.iload X0.here hx rfl (hb hby dp22_3_40) rfl ?_
    refine XS.aloadN X0.here hx rfl (hb hby dp22_3_42) rfl rfl ?_
    show Sg p e below (T0.setTop (mkF m 43 #[sR a1, sR fa, sI sv, sR f, sR g, sI kv, sI jv, sI iv, g8, g9] [(.ref f), (.int jv)])) _
    refine X0.arraylength hx (by rw [e0]; exact Ar637.1) (State.isArrayOf_alike hZ.alike Ar637.2.1) (g := (mkF m 43 #[sR a1, sR fa, sI sv, sR f, sR g, sI kv, sI jv, sI iv, g8, g9] [(.ref f), (.int jv)])) rfl rfl (hb hby dp22_3_43) _ ?_
    rw [len_of S637 N637]
    show Sg p e below (T0.setTop (mkF m 44 #[sR a1, sR fa, sI sv, sR f, sR g, sI kv, sI jv, sI iv, g8, g9] [(.int N), (.int jv)])) _
    refine XS.icmpNo X0.here hx rfl (hb hby dp22_3_44) rfl (tlt (show jv < N from hlt)).2.1 ?_
    refine XS.aloadN X0.here hx rfl (hb hby dp22_3_47) rfl rfl ?_
    refine XS.iload X0.here hx rfl (hb hby dp22_3_48) rfl ?_
    show Sg p e below (T0.setTop (mkF m 50 #[sR a1, sR fa, sI sv, sR f, sR g, sI kv, sI jv, sI iv, g8, g9] [(.int jv), (.ref f)])) _
    refine X0.iaload hx (j := jv) (v := (.int qx)) (by rw [e0]; exact Ar638.1) (State.isArrayOf_alike hZ.alike Ar638.2.1) Ar638.2.2 hin638 (H638.at hin638 ef) (g := (mkF m 50 #[sR a1, sR fa, sI sv, sR f, sR g, sI kv, sI jv, sI iv, g8, g9] [(.int jv), (.ref f)])) rfl rfl (hb hby dp22_3_50) _ ?_
    show Sg p e below (T0.setTop (mkF m 51 #[sR a1, sR fa, sI sv, sR f, sR g, sI kv, sI jv, sI iv, g8, g9] [(.int qx)])) _
    refine XS.aloadN X0.here hx rfl (hb hby dp22_3_51) rfl rfl ?_
    show Sg p e below (T0.setTop (mkF m 52 #[sR a1, sR fa, sI sv, sR f, sR g, sI kv, sI jv, sI iv, g8, g9] [(.ref a1), (.int qx)])) _
    exact st639 _ k)
  obtain ⟨cl641, Ar641, -, S641, N641, H641, -⟩ := id AP
  have hin641 : ¬ (iv < 0 ∨ cl641.slots.size ≤ (iv).toNatClampNeg) := inb_of S641 hi
  obtain ⟨cl642, Ar642, -, S642, N642, -, -⟩ := id Af
  obtain ⟨cl643, Ar643, -, S643, N643, H643, -⟩ := id Af
  have hin643 : ¬ (jv < 0 ∨ cl643.slots.size ≤ (jv).toNatClampNeg) := inb_of S643 hj
  obtain ⟨T644, X644, e644, st644⟩ := getF X639 hx hZ hown (host := "") (Or.inl (own_hw hw 37 rfl)) Via.refl e639 Fp (g := (mkF m 79 #[sR a1, sR fa, sI sv, sR f, sR g, sI kv, sI jv, sI iv, g8, g9] [(.ref a1), (.int qx)])) rfl rfl (hb hby dp22_3_79)
  have P645 : ∀ t, Sg p e below (T644.setTop (mkF m 82 #[sR a1, sR fa, sI sv, sR f, sR g, sI kv, sI jv, sI iv, g8, g9] [(.ref P), (.int qx)])) t → Sg p e below (T0.setTop (mkF m 40 #[sR a1, sR fa, sI sv, sR f, sR g, sI kv, sI jv, sI iv, g8, g9] [])) t := fun t k => P640 t (by
    refine XS.iload X639.here hx rfl (hb hby dp22_3_55) rfl ?_
    show Sg p e below (T639.setTop (mkF m 57 #[sR a1, sR fa, sI sv, sR f, sR g, sI kv, sI jv, sI iv, g8, g9] [(.int iv), (.ref P), (.int qx)])) _
    refine X639.iaload hx (j := iv) (v := (.int px)) (by rw [e639]; exact Ar641.1) (State.isArrayOf_alike hZ.alike Ar641.2.1) Ar641.2.2 hin641 (H641.at hin641 ep) (g := (mkF m 57 #[sR a1, sR fa, sI sv, sR f, sR g, sI kv, sI jv, sI iv, g8, g9] [(.int iv), (.ref P), (.int qx)])) rfl rfl (hb hby dp22_3_57) _ ?_
    show Sg p e below (T639.setTop (mkF m 58 #[sR a1, sR fa, sI sv, sR f, sR g, sI kv, sI jv, sI iv, g8, g9] [(.int px), (.int qx)])) _
    refine XS.icmpYes X639.here hx rfl (pc0 := 58) (pc' := 67) rfl (hb hby dp22_3_58) rfl (flt (show ¬ (qx < px) from hq)).2.1 (by decide) (by decide) ?_
    refine XS.iload X639.here hx rfl (hb hby dp22_3_67) rfl ?_
    refine XS.aloadN X639.here hx rfl (hb hby dp22_3_69) rfl rfl ?_
    show Sg p e below (T639.setTop (mkF m 70 #[sR a1, sR fa, sI sv, sR f, sR g, sI kv, sI jv, sI iv, g8, g9] [(.ref f), (.int jv)])) _
    refine X639.arraylength hx (by rw [e639]; exact Ar642.1) (State.isArrayOf_alike hZ.alike Ar642.2.1) (g := (mkF m 70 #[sR a1, sR fa, sI sv, sR f, sR g, sI kv, sI jv, sI iv, g8, g9] [(.ref f), (.int jv)])) rfl rfl (hb hby dp22_3_70) _ ?_
    rw [len_of S642 N642]
    show Sg p e below (T639.setTop (mkF m 71 #[sR a1, sR fa, sI sv, sR f, sR g, sI kv, sI jv, sI iv, g8, g9] [(.int N), (.int jv)])) _
    refine XS.icmpNo X639.here hx rfl (hb hby dp22_3_71) rfl (tlt (show jv < N from hlt)).2.1 ?_
    refine XS.aloadN X639.here hx rfl (hb hby dp22_3_74) rfl rfl ?_
    refine XS.iload X639.here hx rfl (hb hby dp22_3_75) rfl ?_
    show Sg p e below (T639.setTop (mkF m 77 #[sR a1, sR fa, sI sv, sR f, sR g, sI kv, sI jv, sI iv, g8, g9] [(.int jv), (.ref f)])) _
    refine X639.iaload hx (j := jv) (v := (.int qx)) (by rw [e639]; exact Ar643.1) (State.isArrayOf_alike hZ.alike Ar643.2.1) Ar643.2.2 hin643 (H643.at hin643 ef) (g := (mkF m 77 #[sR a1, sR fa, sI sv, sR f, sR g, sI kv, sI jv, sI iv, g8, g9] [(.int jv), (.ref f)])) rfl rfl (hb hby dp22_3_77) _ ?_
    show Sg p e below (T639.setTop (mkF m 78 #[sR a1, sR fa, sI sv, sR f, sR g, sI kv, sI jv, sI iv, g8, g9] [(.int qx)])) _
    refine XS.aloadN X639.here hx rfl (hb hby dp22_3_78) rfl rfl ?_
    show Sg p e below (T639.setTop (mkF m 79 #[sR a1, sR fa, sI sv, sR f, sR g, sI kv, sI jv, sI iv, g8, g9] [(.ref a1), (.int qx)])) _
    exact st644 _ k)
  obtain ⟨cl646, Ar646, -, S646, N646, H646, -⟩ := id AP
  have hin646 : ¬ (iv < 0 ∨ cl646.slots.size ≤ (iv).toNatClampNeg) := inb_of S646 hi
  obtain ⟨T647, X647, e647, st647⟩ := getF X644 hx hZ hown (host := "") (Or.inl (own_hw hw 39 rfl)) Via.refl e644 Fw (g := (mkF m 89 #[sR a1, sR fa, sI sv, sR f, sR g, sI kv, sI jv, sI iv, g8, g9] [(.ref a1)])) rfl rfl (hb hby dp22_3_89)
  have P648 : ∀ t, Sg p e below (T647.setTop (mkF m 92 #[sR a1, sR fa, sI sv, sR f, sR g, sI kv, sI jv, sI iv, g8, g9] [(.ref W)])) t → Sg p e below (T0.setTop (mkF m 40 #[sR a1, sR fa, sI sv, sR f, sR g, sI kv, sI jv, sI iv, g8, g9] [])) t := fun t k => P645 t (by
    refine XS.iload X644.here hx rfl (hb hby dp22_3_82) rfl ?_
    show Sg p e below (T644.setTop (mkF m 84 #[sR a1, sR fa, sI sv, sR f, sR g, sI kv, sI jv, sI iv, g8, g9] [(.int iv), (.ref P), (.int qx)])) _
    refine X644.iaload hx (j := iv) (v := (.int px)) (by rw [e644]; exact Ar646.1) (State.isArrayOf_alike hZ.alike Ar646.2.1) Ar646.2.2 hin646 (H646.at hin646 ep) (g := (mkF m 84 #[sR a1, sR fa, sI sv, sR f, sR g, sI kv, sI jv, sI iv, g8, g9] [(.int iv), (.ref P), (.int qx)])) rfl rfl (hb hby dp22_3_84) _ ?_
    show Sg p e below (T644.setTop (mkF m 85 #[sR a1, sR fa, sI sv, sR f, sR g, sI kv, sI jv, sI iv, g8, g9] [(.int px), (.int qx)])) _
    refine XS.icmpNo X644.here hx rfl (hb hby dp22_3_85) rfl (teq (show qx = px from he)).2 ?_
    refine XS.aloadN X644.here hx rfl (hb hby dp22_3_88) rfl rfl ?_
    show Sg p e below (T644.setTop (mkF m 89 #[sR a1, sR fa, sI sv, sR f, sR g, sI kv, sI jv, sI iv, g8, g9] [(.ref a1)])) _
    exact st647 _ k)
  obtain ⟨cl649, Ar649, -, S649, N649, H649, -⟩ := id AW
  have hin649 : ¬ (iv < 0 ∨ cl649.slots.size ≤ (iv).toNatClampNeg) := inb_of S649 hi
  obtain ⟨cl650, Ar650, -, S650, N650, H650, -⟩ := id Ag
  have hin650 : ¬ (jv < 0 ∨ cl650.slots.size ≤ (jv).toNatClampNeg) := inb_of S650 hj
  obtain ⟨T651, X651, e651, st651⟩ := getF X647 hx hZ hown (host := "") (Or.inl (own_hw hw 37 rfl)) Via.refl e647 Fp (g := (mkF m 111 #[sR a1, sR fa, sI sv, sR f, sR g, sI kv, sI jv, sI iv, .val (.long (wx &&& vx)), .second] [(.ref a1)])) rfl rfl (hb hby dp22_3_111)
  have P652 : ∀ t, Sg p e below (T651.setTop (mkF m 114 #[sR a1, sR fa, sI sv, sR f, sR g, sI kv, sI jv, sI iv, .val (.long (wx &&& vx)), .second] [(.ref P)])) t → Sg p e below (T0.setTop (mkF m 40 #[sR a1, sR fa, sI sv, sR f, sR g, sI kv, sI jv, sI iv, g8, g9] [])) t := fun t k => P648 t (by
    refine XS.iload X647.here hx rfl (hb hby dp22_3_92) rfl ?_
    show Sg p e below (T647.setTop (mkF m 94 #[sR a1, sR fa, sI sv, sR f, sR g, sI kv, sI jv, sI iv, g8, g9] [(.int iv), (.ref W)])) _
    refine X647.laload hx (j := iv) (v := (.long wx)) (by rw [e647]; exact Ar649.1) (State.isArrayOf_alike hZ.alike Ar649.2.1) Ar649.2.2 hin649 (H649.at hin649 ew) (g := (mkF m 94 #[sR a1, sR fa, sI sv, sR f, sR g, sI kv, sI jv, sI iv, g8, g9] [(.int iv), (.ref W)])) rfl rfl (hb hby dp22_3_94) _ ?_
    show Sg p e below (T647.setTop (mkF m 95 #[sR a1, sR fa, sI sv, sR f, sR g, sI kv, sI jv, sI iv, g8, g9] [(.long wx)])) _
    refine XS.aload X647.here hx rfl (hb hby dp22_3_95) rfl rfl ?_
    refine XS.iload X647.here hx rfl (hb hby dp22_3_97) rfl ?_
    show Sg p e below (T647.setTop (mkF m 99 #[sR a1, sR fa, sI sv, sR f, sR g, sI kv, sI jv, sI iv, g8, g9] [(.int jv), (.ref g), (.long wx)])) _
    refine X647.laload hx (j := jv) (v := (.long vx)) (by rw [e647]; exact Ar650.1) (State.isArrayOf_alike hZ.alike Ar650.2.1) Ar650.2.2 hin650 (H650.at hin650 eg) (g := (mkF m 99 #[sR a1, sR fa, sI sv, sR f, sR g, sI kv, sI jv, sI iv, g8, g9] [(.int jv), (.ref g), (.long wx)])) rfl rfl (hb hby dp22_3_99) _ ?_
    show Sg p e below (T647.setTop (mkF m 100 #[sR a1, sR fa, sI sv, sR f, sR g, sI kv, sI jv, sI iv, g8, g9] [(.long vx), (.long wx)])) _
    refine XS.land X647.here hx rfl (hb hby dp22_3_100) rfl ?_
    refine XS.lstore X647.here hx rfl (hb hby dp22_3_101) rfl (l' := #[sR a1, sR fa, sI sv, sR f, sR g, sI kv, sI jv, sI iv, .val (.long (wx &&& vx)), .second]) (by rcases h89 with ⟨rfl, rfl⟩ | ⟨_, rfl, rfl⟩ <;> rfl) ?_
    refine XS.lload X647.here hx rfl (hb hby dp22_3_103) rfl ?_
    refine XS.lconst X647.here hx rfl (hb hby dp22_3_105) ?_
    refine XS.lcmp X647.here hx rfl (hb hby dp22_3_106) rfl ?_
    refine XS.ifNo X647.here hx rfl (hb hby dp22_3_107) rfl (XT.ll_eq_f (show ¬ ((wx &&& vx) = (0 : Int64)) from hbo)) ?_
    refine XS.aloadN X647.here hx rfl (hb hby dp22_3_110) rfl rfl ?_
    show Sg p e below (T647.setTop (mkF m 111 #[sR a1, sR fa, sI sv, sR f, sR g, sI kv, sI jv, sI iv, .val (.long (wx &&& vx)), .second] [(.ref a1)])) _
    exact st651 _ k)
  obtain ⟨T653, X653, e653, st653⟩ := getF X651 hx hZ hown (host := "") (Or.inl (own_hw hw 37 rfl)) Via.refl e651 Fp (g := (mkF m 117 #[sR a1, sR fa, sI sv, sR f, sR g, sI kv, sI jv, sI iv, .val (.long (wx &&& vx)), .second] [(.ref a1), (.int kv), (.ref P)])) rfl rfl (hb hby dp22_3_117)
  have P654 : ∀ t, Sg p e below (T653.setTop (mkF m 120 #[sR a1, sR fa, sI sv, sR f, sR g, sI kv, sI jv, sI iv, .val (.long (wx &&& vx)), .second] [(.ref P), (.int kv), (.ref P)])) t → Sg p e below (T0.setTop (mkF m 40 #[sR a1, sR fa, sI sv, sR f, sR g, sI kv, sI jv, sI iv, g8, g9] [])) t := fun t k => P652 t (by
    refine XS.iload X651.here hx rfl (hb hby dp22_3_114) rfl ?_
    refine XS.aloadN X651.here hx rfl (hb hby dp22_3_116) rfl rfl ?_
    show Sg p e below (T651.setTop (mkF m 117 #[sR a1, sR fa, sI sv, sR f, sR g, sI kv, sI jv, sI iv, .val (.long (wx &&& vx)), .second] [(.ref a1), (.int kv), (.ref P)])) _
    exact st653 _ k)
  obtain ⟨cl655, Ar655, -, S655, N655, H655, -⟩ := id AP
  have hin655 : ¬ (iv < 0 ∨ cl655.slots.size ≤ (iv).toNatClampNeg) := inb_of S655 hi
  obtain ⟨cl656, Ar656, q656, S656, N656, H656, G656⟩ := id AP
  obtain ⟨T656, h656, X656, e656, W656, st656⟩ := stI X653 hx hZ e653 Ar656 (j := kv) (inb_of S656 hin) (g := (mkF m 123 #[sR a1, sR fa, sI sv, sR f, sR g, sI kv, sI jv, sI iv, .val (.long (wx &&& vx)), .second] [(.int px), (.int kv), (.ref P)])) rfl rfl (hb hby dp22_3_123)
  have v657 : Arv Z h656 P kP .int M (vp.set kk (.int px)) (.int (0 : Int32)) := Arv.set Ar656 q656 S656 N656 H656 G656 rfl W656 kk hk hlp
  have P658 : ∀ t, Sg p e below (T656.setTop (mkF m 124 #[sR a1, sR fa, sI sv, sR f, sR g, sI kv, sI jv, sI iv, .val (.long (wx &&& vx)), .second] [])) t → Sg p e below (T0.setTop (mkF m 40 #[sR a1, sR fa, sI sv, sR f, sR g, sI kv, sI jv, sI iv, g8, g9] [])) t := fun t k => P654 t (by
    refine XS.iload X653.here hx rfl (hb hby dp22_3_120) rfl ?_
    show Sg p e below (T653.setTop (mkF m 122 #[sR a1, sR fa, sI sv, sR f, sR g, sI kv, sI jv, sI iv, .val (.long (wx &&& vx)), .second] [(.int iv), (.ref P), (.int kv), (.ref P)])) _
    refine X653.iaload hx (j := iv) (v := (.int px)) (by rw [e653]; exact Ar655.1) (State.isArrayOf_alike hZ.alike Ar655.2.1) Ar655.2.2 hin655 (H655.at hin655 ep) (g := (mkF m 122 #[sR a1, sR fa, sI sv, sR f, sR g, sI kv, sI jv, sI iv, .val (.long (wx &&& vx)), .second] [(.int iv), (.ref P), (.int kv), (.ref P)])) rfl rfl (hb hby dp22_3_122) _ ?_
    show Sg p e below (T653.setTop (mkF m 123 #[sR a1, sR fa, sI sv, sR f, sR g, sI kv, sI jv, sI iv, .val (.long (wx &&& vx)), .second] [(.int px), (.int kv), (.ref P)])) _
    exact st656 _ k)
  have N659 := Fr.snoc X656 N0 g_P
  have Z660 : n0 ≤ h656.size := Nat.le_trans Z0 (Keep.of_wr W656).1
  have K661 : Keep h0 h656 [P, W] := (Keep.refl h0 [P, W]).wr W656 (Or.inl (List.mem_of_getElem? (i := 0) rfl))
  have f662 := (Fw.other W656 (Or.inl (Exa.ne E1 EP (by decide))))
  obtain ⟨T663, X663, e663, st663⟩ := getF X656 hx hZ hown (host := "") (Or.inl (own_hw hw 39 rfl)) Via.refl e656 f662 (g := (mkF m 125 #[sR a1, sR fa, sI sv, sR f, sR g, sI kv, sI jv, sI iv, .val (.long (wx &&& vx)), .second] [(.ref a1)])) rfl rfl (hb hby dp22_3_125)
  have P664 : ∀ t, Sg p e below (T663.setTop (mkF m 128 #[sR a1, sR fa, sI sv, sR f, sR g, sI kv, sI jv, sI iv, .val (.long (wx &&& vx)), .second] [(.ref W)])) t → Sg p e below (T0.setTop (mkF m 40 #[sR a1, sR fa, sI sv, sR f, sR g, sI kv, sI jv, sI iv, g8, g9] [])) t := fun t k => P658 t (by
    refine XS.aloadN X656.here hx rfl (hb hby dp22_3_124) rfl rfl ?_
    show Sg p e below (T656.setTop (mkF m 125 #[sR a1, sR fa, sI sv, sR f, sR g, sI kv, sI jv, sI iv, .val (.long (wx &&& vx)), .second] [(.ref a1)])) _
    exact st663 _ k)
  have f665 := (AW.other W656 (Exa.ne EW1 EP (by decide)))
  obtain ⟨cl666, Ar666, q666, S666, N666, H666, G666⟩ := id f665
  obtain ⟨T666, h666, X666, e666, W666, st666⟩ := stJ X663 hx hZ e663 Ar666 (j := kv) (inb_of S666 hin) (g := (mkF m 135 #[sR a1, sR fa, sI sv, sR f, sR g, .val (.int (kv + (1 : Int32))), sI jv, sI iv, .val (.long (wx &&& vx)), .second] [(.long (wx &&& vx)), (.int kv), (.ref W)])) rfl rfl (hb hby dp22_3_135)
  have v667 : Arv Z h666 W kW .long M (vw.set kk (.long (wx &&& vx))) (.long (0 : Int64)) := Arv.set Ar666 q666 S666 N666 H666 G666 rfl W666 kk hk hlw
  have P668 : ∀ t, Sg p e below (T666.setTop (mkF m 136 #[sR a1, sR fa, sI sv, sR f, sR g, .val (.int (kv + (1 : Int32))), sI jv, sI iv, .val (.long (wx &&& vx)), .second] [])) t → Sg p e below (T0.setTop (mkF m 40 #[sR a1, sR fa, sI sv, sR f, sR g, sI kv, sI jv, sI iv, g8, g9] [])) t := fun t k => P664 t (by
    refine XS.iload X663.here hx rfl (hb hby dp22_3_128) rfl ?_
    refine XS.iinc X663.here hx rfl (hb hby dp22_3_130) rfl (l' := #[sR a1, sR fa, sI sv, sR f, sR g, .val (.int (kv + (1 : Int32))), sI jv, sI iv, .val (.long (wx &&& vx)), .second]) rfl ?_
    refine XS.lload X663.here hx rfl (hb hby dp22_3_133) rfl ?_
    show Sg p e below (T663.setTop (mkF m 135 #[sR a1, sR fa, sI sv, sR f, sR g, .val (.int (kv + (1 : Int32))), sI jv, sI iv, .val (.long (wx &&& vx)), .second] [(.long (wx &&& vx)), (.int kv), (.ref W)])) _
    exact st666 _ k)
  have N669 := Fr.snoc X666 N659 g_W
  have Z670 : n0 ≤ h666.size := Nat.le_trans Z660 (Keep.of_wr W666).1
  have K671 : Keep h0 h666 [P, W] := K661.wr W666 (Or.inl (List.mem_of_getElem? (i := 1) rfl))
  have f672 := (v657.other W666 (Exa.ne EP EW1 (by decide)))
  have P673 : ∀ t, Sg p e below (T666.setTop (mkF m 24 #[sR a1, sR fa, sI sv, sR f, sR g, .val (.int (kv + (1 : Int32))), sI jv, .val (.int (iv + (1 : Int32))), .val (.long (wx &&& vx)), .second] [])) t → Sg p e below (T0.setTop (mkF m 40 #[sR a1, sR fa, sI sv, sR f, sR g, sI kv, sI jv, sI iv, g8, g9] [])) t := fun t k => P668 t (by
    refine XS.iinc X666.here hx rfl (hb hby dp22_3_136) rfl (l' := #[sR a1, sR fa, sI sv, sR f, sR g, .val (.int (kv + (1 : Int32))), sI jv, .val (.int (iv + (1 : Int32))), .val (.long (wx &&& vx)), .second]) rfl ?_
    refine XS.goto X666.here hx rfl (pc0 := 139) (pc' := 24) rfl (hb hby dp22_3_139) (by decide) (by decide) ?_
    show Sg p e below (T666.setTop (mkF m 24 #[sR a1, sR fa, sI sv, sR f, sR g, .val (.int (kv + (1 : Int32))), sI jv, .val (.int (iv + (1 : Int32))), .val (.long (wx &&& vx)), .second] [])) _
    exact k)
  exact ⟨T666, h666, _, X666.more (by omega) (by omega), e666, N669, K671, f672, v667, P673⟩
theorem dp22_3_24 : decode prog_22_method_3_code 24 = .ok (.iload 7, 2) := by decide +kernel
theorem dp22_3_26 : decode prog_22_method_3_code 26 = .ok (.aload_n 0, 1) := by decide +kernel
theorem dp22_3_27 : decode prog_22_method_3_code 27 = .ok (.getfield 25, 3) := by decide +kernel
theorem dp22_3_30 : decode prog_22_method_3_code 30 = .ok (.if_icmp .ge 112, 3) := by decide +kernel
theorem dp22_3_33 : decode prog_22_method_3_code 33 = .ok (.iload 6, 2) := by decide +kernel
theorem dp22_3_35 : decode prog_22_method_3_code 35 = .ok (.aload_n 3, 1) := by decide +kernel
theorem dp22_3_36 : decode prog_22_method_3_code 36 = .ok (.arraylength, 1) := by decide +kernel
theorem dp22_3_37 : decode prog_22_method_3_code 37 = .ok (.if_icmp .ge 105, 3) := by decide +kernel
set_option maxRecDepth 65536 in
set_option maxHeartbeats 40000000 in
theorem pc_rth {p : Program} {l : Launch} {e : Env} {R : Room} {s : State} {m : MethodId} {args : Array Value} {below : List Frame} {meth : Method} {c : Code} {T0 : State} {locs : List Loc} {cells slots : Nat} {Z : State} {a0 : Array Value} {h0 : Heap} {n0 : Nat} (a1 fa f g : Addr) (kf : ClassId) (sv N cn kv jv iv : Int32) (vf : List Value) (g8 g9 : Slot) (X0 : Stand p l e R s m args below meth c T0 locs cells slots) (hx : p.tables.exec = Jvm.exec) (hZ : Z.Warmed39 s.vm) (hw : ∀ d ∈ tables_1, d.before a0 Z = true) (hby : c.code = prog_22_method_3_code) (hml : c.maxLocals = 10) (hown : s.vm.findClass "com/example/whittle/whittle/engine/WordSets$Meet" = some m.cls) (e0 : T0.heap = h0) (N0 : Fr n0 locs) (Z0 : n0 ≤ h0.size) (hcc : cells + 0 ≤ R.cells) (hcs : slots + 0 ≤ R.slots) (hfr : 0 ≤ R.frames) (hlo : 0 ≤ R.locals) (Fc : Fld Z h0 a1 "com/example/whittle/whittle/engine/WordSets$Meet" "count" "I" (.int cn)) (Af : Arv Z h0 f kf .int N vf (.int (0 : Int32))) (hic : iv < cn) (hjn : jv < N) :
    ∃ (T' : State) (h' : Heap) (locs' : List Loc), Stand p l e R s m args below meth c T' locs' (cells + 0) (slots + 0) ∧ T'.heap = h' ∧ Fr n0 locs' ∧ Keep h0 h' [] ∧ ∀ t, Sg p e below (T'.setTop (mkF m 40 #[sR a1, sR fa, sI sv, sR f, sR g, sI kv, sI jv, sI iv, g8, g9] [])) t → Sg p e below (T0.setTop (mkF m 24 #[sR a1, sR fa, sI sv, sR f, sR g, sI kv, sI jv, sI iv, g8, g9] [])) t := by
  have P0 : ∀ t, Sg p e below (T0.setTop (mkF m 24 #[sR a1, sR fa, sI sv, sR f, sR g, sI kv, sI jv, sI iv, g8, g9] [])) t → Sg p e below (T0.setTop (mkF m 24 #[sR a1, sR fa, sI sv, sR f, sR g, sI kv, sI jv, sI iv, g8, g9] [])) t := fun t k => k
  obtain ⟨T674, X674, e674, st674⟩ := getF X0 hx hZ hown (host := "") (Or.inl (own_hw hw 48 rfl)) Via.refl e0 Fc (g := (mkF m 27 #[sR a1, sR fa, sI sv, sR f, sR g, sI kv, sI jv, sI iv, g8, g9] [(.ref a1), (.int iv)])) rfl rfl (hb hby dp22_3_27)
  have P675 : ∀ t, Sg p e below (T674.setTop (mkF m 30 #[sR a1, sR fa, sI sv, sR f, sR g, sI kv, sI jv, sI iv, g8, g9] [(.int cn), (.int iv)])) t → Sg p e below (T0.setTop (mkF m 24 #[sR a1, sR fa, sI sv, sR f, sR g, sI kv, sI jv, sI iv, g8, g9] [])) t := fun t k => P0 t (by
    refine XS.iload X0.here hx rfl (hb hby dp22_3_24) rfl ?_
    refine XS.aloadN X0.here hx rfl (hb hby dp22_3_26) rfl rfl ?_
    show Sg p e below (T0.setTop (mkF m 27 #[sR a1, sR fa, sI sv, sR f, sR g, sI kv, sI jv, sI iv, g8, g9] [(.ref a1), (.int iv)])) _
    exact st674 _ k)
  obtain ⟨cl676, Ar676, -, S676, N676, -, -⟩ := id Af
  have P677 : ∀ t, Sg p e below (T674.setTop (mkF m 40 #[sR a1, sR fa, sI sv, sR f, sR g, sI kv, sI jv, sI iv, g8, g9] [])) t → Sg p e below (T0.setTop (mkF m 24 #[sR a1, sR fa, sI sv, sR f, sR g, sI kv, sI jv, sI iv, g8, g9] [])) t := fun t k => P675 t (by
    refine XS.icmpNo X674.here hx rfl (hb hby dp22_3_30) rfl (tlt (show iv < cn from hic)).2.1 ?_
    refine XS.iload X674.here hx rfl (hb hby dp22_3_33) rfl ?_
    refine XS.aloadN X674.here hx rfl (hb hby dp22_3_35) rfl rfl ?_
    show Sg p e below (T674.setTop (mkF m 36 #[sR a1, sR fa, sI sv, sR f, sR g, sI kv, sI jv, sI iv, g8, g9] [(.ref f), (.int jv)])) _
    refine X674.arraylength hx (by rw [e674]; exact Ar676.1) (State.isArrayOf_alike hZ.alike Ar676.2.1) (g := (mkF m 36 #[sR a1, sR fa, sI sv, sR f, sR g, sI kv, sI jv, sI iv, g8, g9] [(.ref f), (.int jv)])) rfl rfl (hb hby dp22_3_36) _ ?_
    rw [len_of S676 N676]
    show Sg p e below (T674.setTop (mkF m 37 #[sR a1, sR fa, sI sv, sR f, sR g, sI kv, sI jv, sI iv, g8, g9] [(.int N), (.int jv)])) _
    refine XS.icmpNo X674.here hx rfl (hb hby dp22_3_37) rfl (tlt (show jv < N from hjn)).2.1 ?_
    show Sg p e below (T674.setTop (mkF m 40 #[sR a1, sR fa, sI sv, sR f, sR g, sI kv, sI jv, sI iv, g8, g9] [])) _
    exact k)
  exact ⟨T674, h0, _, X674.more (by omega) (by omega), e674, N0, (Keep.refl h0 []), P677⟩
set_option maxRecDepth 65536 in
set_option maxHeartbeats 40000000 in
theorem pc_rtd {p : Program} {l : Launch} {e : Env} {R : Room} {s : State} {m : MethodId} {args : Array Value} {below : List Frame} {meth : Method} {c : Code} {T0 : State} {locs : List Loc} {cells slots : Nat} {Z : State} {a0 : Array Value} {h0 : Heap} {n0 : Nat} (a1 fa f g : Addr) (kf : ClassId) (sv N kv jv iv : Int32) (vf : List Value) (g8 g9 : Slot) (X0 : Stand p l e R s m args below meth c T0 locs cells slots) (hx : p.tables.exec = Jvm.exec) (hZ : Z.Warmed39 s.vm) (hw : ∀ d ∈ tables_1, d.before a0 Z = true) (hby : c.code = prog_22_method_3_code) (hml : c.maxLocals = 10) (hown : s.vm.findClass "com/example/whittle/whittle/engine/WordSets$Meet" = some m.cls) (e0 : T0.heap = h0) (N0 : Fr n0 locs) (Z0 : n0 ≤ h0.size) (hcc : cells + 0 ≤ R.cells) (hcs : slots + 0 ≤ R.slots) (hfr : 0 ≤ R.frames) (hlo : 0 ≤ R.locals) (Af : Arv Z h0 f kf .int N vf (.int (0 : Int32))) (hjn : ¬ jv < N) :
    ∃ (T' : State) (h' : Heap) (locs' : List Loc), Stand p l e R s m args below meth c T' locs' (cells + 0) (slots + 0) ∧ T'.heap = h' ∧ Fr n0 locs' ∧ Keep h0 h' [] ∧ ∀ t, Sg p e below (T'.setTop (mkF m 24 #[sR a1, sR fa, sI sv, sR f, sR g, sI kv, sI jv, .val (.int (iv + (1 : Int32))), g8, g9] [])) t → Sg p e below (T0.setTop (mkF m 40 #[sR a1, sR fa, sI sv, sR f, sR g, sI kv, sI jv, sI iv, g8, g9] [])) t := by
  have P0 : ∀ t, Sg p e below (T0.setTop (mkF m 40 #[sR a1, sR fa, sI sv, sR f, sR g, sI kv, sI jv, sI iv, g8, g9] [])) t → Sg p e below (T0.setTop (mkF m 40 #[sR a1, sR fa, sI sv, sR f, sR g, sI kv, sI jv, sI iv, g8, g9] [])) t := fun t k => k
  obtain ⟨cl678, Ar678, -, S678, N678, -, -⟩ := id Af
  obtain ⟨cl679, Ar679, -, S679, N679, -, -⟩ := id Af
  have P680 : ∀ t, Sg p e below (T0.setTop (mkF m 24 #[sR a1, sR fa, sI sv, sR f, sR g, sI kv, sI jv, .val (.int (iv + (1 : Int32))), g8, g9] [])) t → Sg p e below (T0.setTop (mkF m 40 #[sR a1, sR fa, sI sv, sR f, sR g, sI kv, sI jv, sI iv, g8, g9] [])) t := fun t k => P0 t (by
    refine XS.iload X0.here hx rfl (hb hby dp22_3_40) rfl ?_
    refine XS.aloadN X0.here hx rfl (hb hby dp22_3_42) rfl rfl ?_
    show Sg p e below (T0.setTop (mkF m 43 #[sR a1, sR fa, sI sv, sR f, sR g, sI kv, sI jv, sI iv, g8, g9] [(.ref f), (.int jv)])) _
    refine X0.arraylength hx (by rw [e0]; exact Ar678.1) (State.isArrayOf_alike hZ.alike Ar678.2.1) (g := (mkF m 43 #[sR a1, sR fa, sI sv, sR f, sR g, sI kv, sI jv, sI iv, g8, g9] [(.ref f), (.int jv)])) rfl rfl (hb hby dp22_3_43) _ ?_
    rw [len_of S678 N678]
    show Sg p e below (T0.setTop (mkF m 44 #[sR a1, sR fa, sI sv, sR f, sR g, sI kv, sI jv, sI iv, g8, g9] [(.int N), (.int jv)])) _
    refine XS.icmpYes X0.here hx rfl (pc0 := 44) (pc' := 67) rfl (hb hby dp22_3_44) rfl (flt (show ¬ (jv < N) from hjn)).2.1 (by decide) (by decide) ?_
    refine XS.iload X0.here hx rfl (hb hby dp22_3_67) rfl ?_
    refine XS.aloadN X0.here hx rfl (hb hby dp22_3_69) rfl rfl ?_
    show Sg p e below (T0.setTop (mkF m 70 #[sR a1, sR fa, sI sv, sR f, sR g, sI kv, sI jv, sI iv, g8, g9] [(.ref f), (.int jv)])) _
    refine X0.arraylength hx (by rw [e0]; exact Ar679.1) (State.isArrayOf_alike hZ.alike Ar679.2.1) (g := (mkF m 70 #[sR a1, sR fa, sI sv, sR f, sR g, sI kv, sI jv, sI iv, g8, g9] [(.ref f), (.int jv)])) rfl rfl (hb hby dp22_3_70) _ ?_
    rw [len_of S679 N679]
    show Sg p e below (T0.setTop (mkF m 71 #[sR a1, sR fa, sI sv, sR f, sR g, sI kv, sI jv, sI iv, g8, g9] [(.int N), (.int jv)])) _
    refine XS.icmpYes X0.here hx rfl (pc0 := 71) (pc' := 136) rfl (hb hby dp22_3_71) rfl (flt (show ¬ (jv < N) from hjn)).2.1 (by decide) (by decide) ?_
    refine XS.iinc X0.here hx rfl (hb hby dp22_3_136) rfl (l' := #[sR a1, sR fa, sI sv, sR f, sR g, sI kv, sI jv, .val (.int (iv + (1 : Int32))), g8, g9]) rfl ?_
    refine XS.goto X0.here hx rfl (pc0 := 139) (pc' := 24) rfl (hb hby dp22_3_139) (by decide) (by decide) ?_
    show Sg p e below (T0.setTop (mkF m 24 #[sR a1, sR fa, sI sv, sR f, sR g, sI kv, sI jv, .val (.int (iv + (1 : Int32))), g8, g9] [])) _
    exact k)
  exact ⟨T0, h0, _, X0.more (by omega) (by omega), e0, N0, (Keep.refl h0 []), P680⟩
theorem dp22_3_142 : decode prog_22_method_3_code 142 = .ok (.aload_n 0, 1) := by decide +kernel
theorem dp22_3_143 : decode prog_22_method_3_code 143 = .ok (.iload 5, 2) := by decide +kernel
theorem dp22_3_145 : decode prog_22_method_3_code 145 = .ok (.putfield 25, 3) := by decide +kernel
set_option maxRecDepth 65536 in
set_option maxHeartbeats 40000000 in
theorem pc_rtx {p : Program} {l : Launch} {e : Env} {R : Room} {s : State} {m : MethodId} {args : Array Value} {below : List Frame} {meth : Method} {c : Code} {T0 : State} {locs : List Loc} {cells slots : Nat} {Z : State} {a0 : Array Value} {h0 : Heap} {n0 : Nat} (a1 fa f g P W : Addr) (kP kW : ClassId) (sv M cn kv jv iv : Int32) (vp vw : List Value) (g8 g9 : Slot) (X0 : Stand p l e R s m args below meth c T0 locs cells slots) (hx : p.tables.exec = Jvm.exec) (hZ : Z.Warmed39 s.vm) (hw : ∀ d ∈ tables_1, d.before a0 Z = true) (hby : c.code = prog_22_method_3_code) (hml : c.maxLocals = 10) (hown : s.vm.findClass "com/example/whittle/whittle/engine/WordSets$Meet" = some m.cls) (e0 : T0.heap = h0) (N0 : Fr n0 locs) (Z0 : n0 ≤ h0.size) (hcc : cells + 0 ≤ R.cells) (hcs : slots + 0 ≤ R.slots) (hfr : 0 ≤ R.frames) (hlo : 0 ≤ R.locals) (g_a1 : n0 ≤ a1) (E1 : Exa Z h0 a1 "com/example/whittle/whittle/engine/WordSets$Meet") (EP : Exa Z h0 P "[I") (EW1 : Exa Z h0 W "[J") (Fp : Fld Z h0 a1 "com/example/whittle/whittle/engine/WordSets$Meet" "places" "[I" (.ref P)) (Fw : Fld Z h0 a1 "com/example/whittle/whittle/engine/WordSets$Meet" "words" "[J" (.ref W)) (Fc : Fld Z h0 a1 "com/example/whittle/whittle/engine/WordSets$Meet" "count" "I" (.int cn)) (AP : Arv Z h0 P kP .int M vp (.int (0 : Int32))) (AW : Arv Z h0 W kW .long M vw (.long (0 : Int64))) :
    ∃ (T' : State) (h' : Heap) (locs' : List Loc), Stand p l e R s m args below meth c T' locs' (cells + 0) (slots + 0) ∧ T'.heap = h' ∧ Fr n0 locs' ∧ Keep h0 h' [a1] ∧ Fld Z h' a1 sM "count" "I" (.int kv) ∧ Fld Z h' a1 sM "places" "[I" (.ref P) ∧ Fld Z h' a1 sM "words" "[J" (.ref W) ∧ Arv Z h' P kP .int M vp (.int (0 : Int32)) ∧ Arv Z h' W kW .long M vw (.long (0 : Int64)) ∧ ∀ t, Sg p e below (T'.setTop (mkF m 148 #[sR a1, sR fa, sI sv, sR f, sR g, sI kv, sI jv, sI iv, g8, g9] [])) t → Sg p e below (T0.setTop (mkF m 142 #[sR a1, sR fa, sI sv, sR f, sR g, sI kv, sI jv, sI iv, g8, g9] [])) t := by
  have P0 : ∀ t, Sg p e below (T0.setTop (mkF m 142 #[sR a1, sR fa, sI sv, sR f, sR g, sI kv, sI jv, sI iv, g8, g9] [])) t → Sg p e below (T0.setTop (mkF m 142 #[sR a1, sR fa, sI sv, sR f, sR g, sI kv, sI jv, sI iv, g8, g9] [])) t := fun t k => k
  obtain ⟨T681, h681, X681, e681, W681, st681⟩ := putF X0 hx hZ hown (host := "") (Or.inl (own_hw hw 48 rfl)) Via.refl e0 Fc E1 (Or.inl (own_hw hw 49 rfl)) (own_hw hw 31 rfl) (ty := .int) (by decide) rfl rfl (g := (mkF m 145 #[sR a1, sR fa, sI sv, sR f, sR g, sI kv, sI jv, sI iv, g8, g9] [(.int kv), (.ref a1)])) rfl rfl (hb hby dp22_3_145)
  have P682 : ∀ t, Sg p e below (T681.setTop (mkF m 148 #[sR a1, sR fa, sI sv, sR f, sR g, sI kv, sI jv, sI iv, g8, g9] [])) t → Sg p e below (T0.setTop (mkF m 142 #[sR a1, sR fa, sI sv, sR f, sR g, sI kv, sI jv, sI iv, g8, g9] [])) t := fun t k => P0 t (by
    refine XS.aloadN X0.here hx rfl (hb hby dp22_3_142) rfl rfl ?_
    refine XS.iload X0.here hx rfl (hb hby dp22_3_143) rfl ?_
    show Sg p e below (T0.setTop (mkF m 145 #[sR a1, sR fa, sI sv, sR f, sR g, sI kv, sI jv, sI iv, g8, g9] [(.int kv), (.ref a1)])) _
    exact st681 _ k)
  have f683 := Fc.same W681
  have N684 := Fr.snoc X681 N0 g_a1
  have Z685 : n0 ≤ h681.size := Nat.le_trans Z0 (Keep.of_wr W681).1
  have K686 : Keep h0 h681 [a1] := (Keep.refl h0 [a1]).wr W681 (Or.inl (List.mem_of_getElem? (i := 0) rfl))
  have f687 := (Fp.other W681 (Or.inr (slot_ne (Or.inl (own_hw hw 38 rfl)) (Or.inl (own_hw hw 49 rfl)) (by decide) (t := (.array .int)) (t' := .int) (by decide) (by decide))))
  have f688 := (Fw.other W681 (Or.inr (slot_ne (Or.inl (own_hw hw 40 rfl)) (Or.inl (own_hw hw 49 rfl)) (by decide) (t := (.array .long)) (t' := .int) (by decide) (by decide))))
  have f689 := (AP.other W681 (Exa.ne EP E1 (by decide)))
  have f690 := (AW.other W681 (Exa.ne EW1 E1 (by decide)))
  exact ⟨T681, h681, _, X681.more (by omega) (by omega), e681, N684, K686, f683, f687, f688, f689, f690, P682⟩
theorem dp22_3_0 : decode prog_22_method_3_code 0 = .ok (.aload_n 1, 1) := by decide +kernel
theorem dp22_3_1 : decode prog_22_method_3_code 1 = .ok (.getfield 17, 3) := by decide +kernel
theorem dp22_3_4 : decode prog_22_method_3_code 4 = .ok (.iload_n 2, 1) := by decide +kernel
theorem dp22_3_5 : decode prog_22_method_3_code 5 = .ok (.aaload, 1) := by decide +kernel
theorem dp22_3_6 : decode prog_22_method_3_code 6 = .ok (.astore_n 3, 1) := by decide +kernel
theorem dp22_3_7 : decode prog_22_method_3_code 7 = .ok (.aload_n 1, 1) := by decide +kernel
theorem dp22_3_8 : decode prog_22_method_3_code 8 = .ok (.getfield 22, 3) := by decide +kernel
theorem dp22_3_11 : decode prog_22_method_3_code 11 = .ok (.iload_n 2, 1) := by decide +kernel
theorem dp22_3_12 : decode prog_22_method_3_code 12 = .ok (.aaload, 1) := by decide +kernel
theorem dp22_3_13 : decode prog_22_method_3_code 13 = .ok (.astore 4, 2) := by decide +kernel
theorem dp22_3_15 : decode prog_22_method_3_code 15 = .ok (.iconst 0, 1) := by decide +kernel
theorem dp22_3_16 : decode prog_22_method_3_code 16 = .ok (.istore 5, 2) := by decide +kernel
theorem dp22_3_18 : decode prog_22_method_3_code 18 = .ok (.iconst 0, 1) := by decide +kernel
theorem dp22_3_19 : decode prog_22_method_3_code 19 = .ok (.istore 6, 2) := by decide +kernel
theorem dp22_3_21 : decode prog_22_method_3_code 21 = .ok (.iconst 0, 1) := by decide +kernel
theorem dp22_3_22 : decode prog_22_method_3_code 22 = .ok (.istore 7, 2) := by decide +kernel
theorem dp22_3_148 : decode prog_22_method_3_code 148 = .ok (.return_, 1) := by decide +kernel
theorem ef_ret (m : MethodId) (x0 : Addr) (x1 : Addr) (x2 : Int32) : entryFrame m #[(.ref x0), (.ref x1), (.int x2)] 10 = mkF m 0 #[sR x0, sR x1, sI x2, sU, sU, sU, sU, sU, sU, sU] [] := by (first | (simp [entryFrame, mkF, argsToLocals, Value.category]; done) | rfl)
def Q_ret (Z : State) (a1 P W : Addr) (kP kW : ClassId) (M : Int32) (pl ur : List Int32) (wv : List Int64) (ql : List Int32) (vl : List Int64) (h0 : Heap) (n0 : Nat) (v : Option Value) (h : Heap) (L : List Loc) : Prop := v = none ∧ Fr n0 L ∧ Keep h0 h [a1, P, W] ∧ ∃ (pl2 ur2 : List Int32) (wv2 vr2 : List Int64) (cn2 : Int32), pl2 = own_rp pl wv ql vl ∧ wv2 = own_rw pl wv ql vl ∧ cn2 = Int32.ofNat pl2.length ∧ (pl2 ++ ur2).length = (pl ++ ur).length ∧ wv2.length = pl2.length ∧ vr2.length = ur2.length ∧ Fld Z h a1 sM "count" "I" (.int cn2) ∧ Fld Z h a1 sM "places" "[I" (.ref P) ∧ Fld Z h a1 sM "words" "[J" (.ref W) ∧ Arv Z h P kP .int M ((pl2 ++ ur2).map Value.int) (.int (0 : Int32)) ∧ Arv Z h W kW .long M ((wv2 ++ vr2).map Value.long) (.long (0 : Int64))
set_option maxRecDepth 65536 in
set_option maxHeartbeats 40000000 in
theorem rm_ret (l : Launch) (Z : State) (a0 : Array Value) (hw : ∀ d ∈ tables_1, d.before a0 Z = true) (ws : List Jvm.Cond) (a1 P W : Addr) (kP kW : ClassId) (M : Int32) (pl ur : List Int32) (wv vr : List Int64) (cn : Int32) (fa PP WW f0 f1 g0 g1 : Addr) (kPP kWW kf kg : ClassId) (N : Int32) (ql : List Int32) (vl : List Int64) (h0 : Heap) (n0 : Nat) (Z0 : n0 ≤ h0.size) (g_a1 : n0 ≤ a1) (g_P : n0 ≤ P) (g_W : n0 ≤ W) (E1 : Exa Z h0 a1 sM) (EP : Exa Z h0 P "[I") (EW1 : Exa Z h0 W "[J") (Fp : Fld Z h0 a1 sM "places" "[I" (.ref P)) (Fw : Fld Z h0 a1 sM "words" "[J" (.ref W)) (Fc : Fld Z h0 a1 sM "count" "I" (.int cn)) (AP : Arv Z h0 P kP .int M ((pl ++ ur).map Value.int) (.int (0 : Int32))) (AW : Arv Z h0 W kW .long M ((wv ++ vr).map Value.long) (.long (0 : Int64))) (hM : M = Int32.ofNat (pl ++ ur).length) (hm : (pl ++ ur).length ≤ 3) (hc : cn = Int32.ofNat pl.length) (hl : wv.length = pl.length) (hv : vr.length = ur.length) (hs : pl.Pairwise (· < ·)) (hp2 : pl.length ≤ 2) (Ef : Exa Z h0 fa sW) (Ffp : Fld Z h0 fa sW "places" "[[I" (.ref PP)) (Ffw : Fld Z h0 fa sW "words" "[[J" (.ref WW)) (APP : Arv Z h0 PP kPP (.array .int) (2 : Int32) [(.ref f0), (.ref f1)] .null) (AWW : Arv Z h0 WW kWW (.array .long) (2 : Int32) [(.ref g0), (.ref g1)] .null) (Af : Arv Z h0 f1 kf .int N (ql.map Value.int) (.int (0 : Int32))) (Ag : Arv Z h0 g1 kg .long N (vl.map Value.long) (.long (0 : Int64))) (EEf : Exa Z h0 f1 "[I") (EEg : Exa Z h0 g1 "[J") (hNq : N = Int32.ofNat ql.length) (hq2 : ql.length ≤ 2) (hvl : vl.length = ql.length) (hsq : ql.Pairwise (· < ·)) (nfP : f1 ≠ P) (ngW : g1 ≠ W) :
    MetFree l (⟨"com/example/whittle/whittle/engine/WordSets$Meet", "retain", "(Lcom/example/whittle/whittle/engine/WordSets;I)V"⟩ : MethodName) (head1 (Jvm.Cond.code (⟨"com/example/whittle/whittle/engine/WordSets$Meet", "retain", "(Lcom/example/whittle/whittle/engine/WordSets;I)V"⟩ : MethodName) prog_22_method_3_code 10 none :: ws) ({ frames := 0, cells := 0, slots := 0, locals := 0 } : Room)) (fun a U => a = #[(.ref a1), (.ref fa), (.int (1 : Int32))] ∧ Z.Warmed39 U.vm ∧ U.heap = h0) (fun _ _ _ _ _ => True) (fun _ U o U' => ∃ v L, o = .returned v ∧ Q_ret Z a1 P W kP kW M pl ur wv ql vl h0 n0 v U'.heap L ∧ FrameEnd U o U' L ({ frames := 0, cells := 0, slots := 0, locals := 0 } : Room).cells ({ frames := 0, cells := 0, slots := 0, locals := 0 } : Room).slots) := by
  refine MetFree.of_bodySF (plainFor_of_name pn_com_example_whittle_whittle_engine_WordSets_Meet) hisR ?_
  intro p e s m args below meth c s₁ Bd hml0 hP hK
  obtain ⟨rfl, hZ, hh⟩ := hP
  have hx := Bd.exec
  have hby := Bd.bytes
  have hml : c.maxLocals = 10 := hml0
  have hown : s.vm.findClass "com/example/whittle/whittle/engine/WordSets$Meet" = some m.cls := findClass_of_methodNamed Bd.named
  have hnm := (name_of_methodNamed Bd.named Bd.method).1
  have X0 : Stand p l e ({ frames := 0, cells := 0, slots := 0, locals := 0 } : Room) s m #[(.ref a1), (.ref fa), (.int (1 : Int32))] below meth c s₁ [] 0 0 := Stand.of_body Bd
  have e0 : s₁.heap = h0 := by rw [← hh, Bd.state]; rfl
  have N0 := Fr.nil n0
  have pre0 : ∀ t, Sg p e below (s₁.setTop (mkF m 0 #[sR a1, sR fa, sI 1, sU, sU, sU, sU, sU, sU, sU] [])) t → Steps p.tables e below (s₁.setTop (entryFrame m #[(.ref a1), (.ref fa), (.int (1 : Int32))] 10)) t := fun t k => castTop (ef_ret m a1 fa (1 : Int32)) k
  have P0 : ∀ t, Sg p e below (s₁.setTop (mkF m 0 #[sR a1, sR fa, sI 1, sU, sU, sU, sU, sU, sU, sU] [])) t → Sg p e below (s₁.setTop (mkF m 0 #[sR a1, sR fa, sI 1, sU, sU, sU, sU, sU, sU, sU] [])) t := fun t k => k
  obtain ⟨B0, pre0, P0⟩ : ∃ B : State, (∀ t, Steps p.tables e below B t → Steps p.tables e below (s₁.setTop (entryFrame m #[(.ref a1), (.ref fa), (.int (1 : Int32))] 10)) t) ∧ Rg p e below (s₁.setTop (mkF m 0 #[sR a1, sR fa, sI 1, sU, sU, sU, sU, sU, sU, sU] [])) B := ⟨_, pre0, P0⟩
  rcases pl with _ | ⟨x0, _ | ⟨x1, _ | ⟨x2, pl⟩⟩⟩
  · skip
    have hc' : cn = (0 : Int32) := hc
    subst hc'
    obtain rfl := own_len0 hl
    rcases ql with _ | ⟨q0, _ | ⟨q1, _ | ⟨q2, ql⟩⟩⟩
    · skip
      have hN' : N = (0 : Int32) := hNq
      subst hN'
      obtain rfl := own_len0 hvl
      obtain ⟨T691, X691, e691, st691⟩ := getF X0 hx hZ hown (Or.inr (own_hw hw 46 rfl)) Via.refl e0 Ffp (g := (mkF m 1 #[sR a1, sR fa, sI 1, sU, sU, sU, sU, sU, sU, sU] [(.ref fa)])) rfl rfl (hb hby dp22_3_1)
      have P692 : Rg p e below (T691.setTop (mkF m 4 #[sR a1, sR fa, sI 1, sU, sU, sU, sU, sU, sU, sU] [(.ref PP)])) B0 := fun t k => P0 t (by
        refine XS.aloadN X0.here hx rfl (hb hby dp22_3_0) rfl rfl ?_
        show Sg p e below (s₁.setTop (mkF m 1 #[sR a1, sR fa, sI 1, sU, sU, sU, sU, sU, sU, sU] [(.ref fa)])) _
        exact st691 _ k)
      obtain ⟨cl693, Ar693, -, S693, N693, H693, -⟩ := id APP
      have hin693 : ¬ ((1 : Int32) < 0 ∨ cl693.slots.size ≤ ((1 : Int32)).toNatClampNeg) := inb_of S693 ⟨by decide, by decide⟩
      obtain ⟨T694, X694, e694, st694⟩ := getF X691 hx hZ hown (Or.inr (own_hw hw 47 rfl)) Via.refl e691 Ffw (g := (mkF m 8 #[sR a1, sR fa, sI 1, sR f1, sU, sU, sU, sU, sU, sU] [(.ref fa)])) rfl rfl (hb hby dp22_3_8)
      have P695 : Rg p e below (T694.setTop (mkF m 11 #[sR a1, sR fa, sI 1, sR f1, sU, sU, sU, sU, sU, sU] [(.ref WW)])) B0 := fun t k => P692 t (by
        refine XS.iloadN X691.here hx rfl (hb hby dp22_3_4) rfl ?_
        show Sg p e below (T691.setTop (mkF m 5 #[sR a1, sR fa, sI 1, sU, sU, sU, sU, sU, sU, sU] [(.int (1 : Int32)), (.ref PP)])) _
        refine X691.aaload hx (j := (1 : Int32)) (v := (.ref f1)) (by rw [e691]; exact Ar693.1) (State.isArrayOf_alike hZ.alike Ar693.2.1) rfl Ar693.2.2 hin693 (H693.at hin693 rfl) (g := (mkF m 5 #[sR a1, sR fa, sI 1, sU, sU, sU, sU, sU, sU, sU] [(.int (1 : Int32)), (.ref PP)])) rfl rfl (hb hby dp22_3_5) _ ?_
        show Sg p e below (T691.setTop (mkF m 6 #[sR a1, sR fa, sI 1, sU, sU, sU, sU, sU, sU, sU] [(.ref f1)])) _
        refine XS.astoreN X691.here hx rfl (hb hby dp22_3_6) rfl rfl (l' := #[sR a1, sR fa, sI 1, sR f1, sU, sU, sU, sU, sU, sU]) rfl ?_
        refine XS.aloadN X691.here hx rfl (hb hby dp22_3_7) rfl rfl ?_
        show Sg p e below (T691.setTop (mkF m 8 #[sR a1, sR fa, sI 1, sR f1, sU, sU, sU, sU, sU, sU] [(.ref fa)])) _
        exact st694 _ k)
      obtain ⟨cl696, Ar696, -, S696, N696, H696, -⟩ := id AWW
      have hin696 : ¬ ((1 : Int32) < 0 ∨ cl696.slots.size ≤ ((1 : Int32)).toNatClampNeg) := inb_of S696 ⟨by decide, by decide⟩
      have P697 : Rg p e below (T694.setTop (mkF m 24 #[sR a1, sR fa, sI 1, sR f1, sR g1, sI 0, sI 0, sI 0, sU, sU] [])) B0 := fun t k => P695 t (by
        refine XS.iloadN X694.here hx rfl (hb hby dp22_3_11) rfl ?_
        show Sg p e below (T694.setTop (mkF m 12 #[sR a1, sR fa, sI 1, sR f1, sU, sU, sU, sU, sU, sU] [(.int (1 : Int32)), (.ref WW)])) _
        refine X694.aaload hx (j := (1 : Int32)) (v := (.ref g1)) (by rw [e694]; exact Ar696.1) (State.isArrayOf_alike hZ.alike Ar696.2.1) rfl Ar696.2.2 hin696 (H696.at hin696 rfl) (g := (mkF m 12 #[sR a1, sR fa, sI 1, sR f1, sU, sU, sU, sU, sU, sU] [(.int (1 : Int32)), (.ref WW)])) rfl rfl (hb hby dp22_3_12) _ ?_
        show Sg p e below (T694.setTop (mkF m 13 #[sR a1, sR fa, sI 1, sR f1, sU, sU, sU, sU, sU, sU] [(.ref g1)])) _
        refine XS.astore X694.here hx rfl (hb hby dp22_3_13) rfl rfl (l' := #[sR a1, sR fa, sI 1, sR f1, sR g1, sU, sU, sU, sU, sU]) rfl ?_
        refine XS.iconst X694.here hx rfl (hb hby dp22_3_15) ?_
        refine XS.istore X694.here hx rfl (hb hby dp22_3_16) rfl (l' := #[sR a1, sR fa, sI 1, sR f1, sR g1, sI 0, sU, sU, sU, sU]) rfl ?_
        refine XS.iconst X694.here hx rfl (hb hby dp22_3_18) ?_
        refine XS.istore X694.here hx rfl (hb hby dp22_3_19) rfl (l' := #[sR a1, sR fa, sI 1, sR f1, sR g1, sI 0, sI 0, sU, sU, sU]) rfl ?_
        refine XS.iconst X694.here hx rfl (hb hby dp22_3_21) ?_
        refine XS.istore X694.here hx rfl (hb hby dp22_3_22) rfl (l' := #[sR a1, sR fa, sI 1, sR f1, sR g1, sI 0, sI 0, sI 0, sU, sU]) rfl ?_
        show Sg p e below (T694.setTop (mkF m 24 #[sR a1, sR fa, sI 1, sR f1, sR g1, sI 0, sI 0, sI 0, sU, sU] [])) _
        exact k)
      obtain ⟨T698, X698, e698, st698⟩ := getF X694 hx hZ hown (host := "") (Or.inl (own_hw hw 48 rfl)) Via.refl e694 Fc (g := (mkF m 27 #[sR a1, sR fa, sI 1, sR f1, sR g1, sI 0, sI 0, sI 0, sU, sU] [(.ref a1), (.int (0 : Int32))])) rfl rfl (hb hby dp22_3_27)
      have P699 : Rg p e below (T698.setTop (mkF m 30 #[sR a1, sR fa, sI 1, sR f1, sR g1, sI 0, sI 0, sI 0, sU, sU] [(.int (0 : Int32)), (.int (0 : Int32))])) B0 := fun t k => P697 t (by
        refine XS.iload X694.here hx rfl (hb hby dp22_3_24) rfl ?_
        refine XS.aloadN X694.here hx rfl (hb hby dp22_3_26) rfl rfl ?_
        show Sg p e below (T694.setTop (mkF m 27 #[sR a1, sR fa, sI 1, sR f1, sR g1, sI 0, sI 0, sI 0, sU, sU] [(.ref a1), (.int (0 : Int32))])) _
        exact st698 _ k)
      have P700 : Rg p e below (T698.setTop (mkF m 142 #[sR a1, sR fa, sI 1, sR f1, sR g1, sI 0, sI 0, sI 0, sU, sU] [])) B0 := fun t k => P699 t (by
        refine XS.icmpYes X698.here hx rfl (pc0 := 30) (pc' := 142) rfl (hb hby dp22_3_30) rfl (flt (show ¬ ((0 : Int32) < (0 : Int32)) from (by decide))).2.1 (by decide) (by decide) ?_
        show Sg p e below (T698.setTop (mkF m 142 #[sR a1, sR fa, sI 1, sR f1, sR g1, sI 0, sI 0, sI 0, sU, sU] [])) _
        exact k)
      obtain ⟨T701, h701, L701, X701, e701, Nq701, K701, u701_0, u701_1, u701_2, u701_3, u701_4, st701⟩ := pc_rtx a1 fa f1 g1 P W kP kW (1 : Int32) M (0 : Int32) (0 : Int32) (0 : Int32) (0 : Int32) (([] ++ ur).map Value.int) (([] ++ vr).map Value.long) sU sU X698 hx hZ hw hby hml hown e698 N0 Z0 (Nat.le_of_ble_eq_true rfl) (Nat.le_of_ble_eq_true rfl) (by decide) (by decide) g_a1 E1 EP EW1 Fp Fw Fc AP AW
      have P702 : Rg p e below (T701.setTop (mkF m 148 #[sR a1, sR fa, sI 1, sR f1, sR g1, sI 0, sI 0, sI 0, sU, sU] [])) B0 := fun t k => P700 t (by
        exact st701 _ k)
      have Z703 : n0 ≤ h701.size := Nat.le_trans Z0 K701.1
      have K704 : Keep h0 h701 [a1, P, W] := (Keep.refl h0 [a1, P, W]).trans K701 ((allS (Or.inl (List.mem_of_getElem? (i := 0) rfl)) all0))
      obtain ⟨fs705, hr705, hrun705, hended705, hW705, hsame705⟩ := X701.leave (v := none) (fun _ => rfl)
      refine ⟨_, _, pre0 _ (P702 _ ?_), hrun705, hended705, _, _, rfl, ?_, ⟨⟨_, rfl⟩, hW705, hsame705.mono (Nat.le_of_ble_eq_true rfl) (Nat.le_of_ble_eq_true rfl)⟩⟩
      · show Sg p e below (T701.setTop (mkF m 148 #[sR a1, sR fa, sI 1, sR f1, sR g1, sI 0, sI 0, sI 0, sU, sU] [])) _
        exact X701.returnOut hx Bd.returns (hb hby dp22_3_148) hr705
      · show Q_ret Z a1 P W kP kW M [] ur [] [] [] h0 n0 _ T701.heap _
        rw [e701]
        exact ⟨rfl, Nq701, K704, [], [] ++ ur, [], [] ++ vr, (0 : Int32), rfl, rfl, rfl, by simp, rfl, by simp [hv], u701_0, u701_1, u701_2, u701_3, u701_4⟩
    · skip
      have hN' : N = (1 : Int32) := hNq
      subst hN'
      obtain ⟨v0, rfl⟩ := own_len1 hvl
      obtain ⟨T706, X706, e706, st706⟩ := getF X0 hx hZ hown (Or.inr (own_hw hw 46 rfl)) Via.refl e0 Ffp (g := (mkF m 1 #[sR a1, sR fa, sI 1, sU, sU, sU, sU, sU, sU, sU] [(.ref fa)])) rfl rfl (hb hby dp22_3_1)
      have P707 : Rg p e below (T706.setTop (mkF m 4 #[sR a1, sR fa, sI 1, sU, sU, sU, sU, sU, sU, sU] [(.ref PP)])) B0 := fun t k => P0 t (by
        refine XS.aloadN X0.here hx rfl (hb hby dp22_3_0) rfl rfl ?_
        show Sg p e below (s₁.setTop (mkF m 1 #[sR a1, sR fa, sI 1, sU, sU, sU, sU, sU, sU, sU] [(.ref fa)])) _
        exact st706 _ k)
      obtain ⟨cl708, Ar708, -, S708, N708, H708, -⟩ := id APP
      have hin708 : ¬ ((1 : Int32) < 0 ∨ cl708.slots.size ≤ ((1 : Int32)).toNatClampNeg) := inb_of S708 ⟨by decide, by decide⟩
      obtain ⟨T709, X709, e709, st709⟩ := getF X706 hx hZ hown (Or.inr (own_hw hw 47 rfl)) Via.refl e706 Ffw (g := (mkF m 8 #[sR a1, sR fa, sI 1, sR f1, sU, sU, sU, sU, sU, sU] [(.ref fa)])) rfl rfl (hb hby dp22_3_8)
      have P710 : Rg p e below (T709.setTop (mkF m 11 #[sR a1, sR fa, sI 1, sR f1, sU, sU, sU, sU, sU, sU] [(.ref WW)])) B0 := fun t k => P707 t (by
        refine XS.iloadN X706.here hx rfl (hb hby dp22_3_4) rfl ?_
        show Sg p e below (T706.setTop (mkF m 5 #[sR a1, sR fa, sI 1, sU, sU, sU, sU, sU, sU, sU] [(.int (1 : Int32)), (.ref PP)])) _
        refine X706.aaload hx (j := (1 : Int32)) (v := (.ref f1)) (by rw [e706]; exact Ar708.1) (State.isArrayOf_alike hZ.alike Ar708.2.1) rfl Ar708.2.2 hin708 (H708.at hin708 rfl) (g := (mkF m 5 #[sR a1, sR fa, sI 1, sU, sU, sU, sU, sU, sU, sU] [(.int (1 : Int32)), (.ref PP)])) rfl rfl (hb hby dp22_3_5) _ ?_
        show Sg p e below (T706.setTop (mkF m 6 #[sR a1, sR fa, sI 1, sU, sU, sU, sU, sU, sU, sU] [(.ref f1)])) _
        refine XS.astoreN X706.here hx rfl (hb hby dp22_3_6) rfl rfl (l' := #[sR a1, sR fa, sI 1, sR f1, sU, sU, sU, sU, sU, sU]) rfl ?_
        refine XS.aloadN X706.here hx rfl (hb hby dp22_3_7) rfl rfl ?_
        show Sg p e below (T706.setTop (mkF m 8 #[sR a1, sR fa, sI 1, sR f1, sU, sU, sU, sU, sU, sU] [(.ref fa)])) _
        exact st709 _ k)
      obtain ⟨cl711, Ar711, -, S711, N711, H711, -⟩ := id AWW
      have hin711 : ¬ ((1 : Int32) < 0 ∨ cl711.slots.size ≤ ((1 : Int32)).toNatClampNeg) := inb_of S711 ⟨by decide, by decide⟩
      have P712 : Rg p e below (T709.setTop (mkF m 24 #[sR a1, sR fa, sI 1, sR f1, sR g1, sI 0, sI 0, sI 0, sU, sU] [])) B0 := fun t k => P710 t (by
        refine XS.iloadN X709.here hx rfl (hb hby dp22_3_11) rfl ?_
        show Sg p e below (T709.setTop (mkF m 12 #[sR a1, sR fa, sI 1, sR f1, sU, sU, sU, sU, sU, sU] [(.int (1 : Int32)), (.ref WW)])) _
        refine X709.aaload hx (j := (1 : Int32)) (v := (.ref g1)) (by rw [e709]; exact Ar711.1) (State.isArrayOf_alike hZ.alike Ar711.2.1) rfl Ar711.2.2 hin711 (H711.at hin711 rfl) (g := (mkF m 12 #[sR a1, sR fa, sI 1, sR f1, sU, sU, sU, sU, sU, sU] [(.int (1 : Int32)), (.ref WW)])) rfl rfl (hb hby dp22_3_12) _ ?_
        show Sg p e below (T709.setTop (mkF m 13 #[sR a1, sR fa, sI 1, sR f1, sU, sU, sU, sU, sU, sU] [(.ref g1)])) _
        refine XS.astore X709.here hx rfl (hb hby dp22_3_13) rfl rfl (l' := #[sR a1, sR fa, sI 1, sR f1, sR g1, sU, sU, sU, sU, sU]) rfl ?_
        refine XS.iconst X709.here hx rfl (hb hby dp22_3_15) ?_
        refine XS.istore X709.here hx rfl (hb hby dp22_3_16) rfl (l' := #[sR a1, sR fa, sI 1, sR f1, sR g1, sI 0, sU, sU, sU, sU]) rfl ?_
        refine XS.iconst X709.here hx rfl (hb hby dp22_3_18) ?_
        refine XS.istore X709.here hx rfl (hb hby dp22_3_19) rfl (l' := #[sR a1, sR fa, sI 1, sR f1, sR g1, sI 0, sI 0, sU, sU, sU]) rfl ?_
        refine XS.iconst X709.here hx rfl (hb hby dp22_3_21) ?_
        refine XS.istore X709.here hx rfl (hb hby dp22_3_22) rfl (l' := #[sR a1, sR fa, sI 1, sR f1, sR g1, sI 0, sI 0, sI 0, sU, sU]) rfl ?_
        show Sg p e below (T709.setTop (mkF m 24 #[sR a1, sR fa, sI 1, sR f1, sR g1, sI 0, sI 0, sI 0, sU, sU] [])) _
        exact k)
      obtain ⟨T713, X713, e713, st713⟩ := getF X709 hx hZ hown (host := "") (Or.inl (own_hw hw 48 rfl)) Via.refl e709 Fc (g := (mkF m 27 #[sR a1, sR fa, sI 1, sR f1, sR g1, sI 0, sI 0, sI 0, sU, sU] [(.ref a1), (.int (0 : Int32))])) rfl rfl (hb hby dp22_3_27)
      have P714 : Rg p e below (T713.setTop (mkF m 30 #[sR a1, sR fa, sI 1, sR f1, sR g1, sI 0, sI 0, sI 0, sU, sU] [(.int (0 : Int32)), (.int (0 : Int32))])) B0 := fun t k => P712 t (by
        refine XS.iload X709.here hx rfl (hb hby dp22_3_24) rfl ?_
        refine XS.aloadN X709.here hx rfl (hb hby dp22_3_26) rfl rfl ?_
        show Sg p e below (T709.setTop (mkF m 27 #[sR a1, sR fa, sI 1, sR f1, sR g1, sI 0, sI 0, sI 0, sU, sU] [(.ref a1), (.int (0 : Int32))])) _
        exact st713 _ k)
      have P715 : Rg p e below (T713.setTop (mkF m 142 #[sR a1, sR fa, sI 1, sR f1, sR g1, sI 0, sI 0, sI 0, sU, sU] [])) B0 := fun t k => P714 t (by
        refine XS.icmpYes X713.here hx rfl (pc0 := 30) (pc' := 142) rfl (hb hby dp22_3_30) rfl (flt (show ¬ ((0 : Int32) < (0 : Int32)) from (by decide))).2.1 (by decide) (by decide) ?_
        show Sg p e below (T713.setTop (mkF m 142 #[sR a1, sR fa, sI 1, sR f1, sR g1, sI 0, sI 0, sI 0, sU, sU] [])) _
        exact k)
      obtain ⟨T716, h716, L716, X716, e716, Nq716, K716, u716_0, u716_1, u716_2, u716_3, u716_4, st716⟩ := pc_rtx a1 fa f1 g1 P W kP kW (1 : Int32) M (0 : Int32) (0 : Int32) (0 : Int32) (0 : Int32) (([] ++ ur).map Value.int) (([] ++ vr).map Value.long) sU sU X713 hx hZ hw hby hml hown e713 N0 Z0 (Nat.le_of_ble_eq_true rfl) (Nat.le_of_ble_eq_true rfl) (by decide) (by decide) g_a1 E1 EP EW1 Fp Fw Fc AP AW
      have P717 : Rg p e below (T716.setTop (mkF m 148 #[sR a1, sR fa, sI 1, sR f1, sR g1, sI 0, sI 0, sI 0, sU, sU] [])) B0 := fun t k => P715 t (by
        exact st716 _ k)
      have Z718 : n0 ≤ h716.size := Nat.le_trans Z0 K716.1
      have K719 : Keep h0 h716 [a1, P, W] := (Keep.refl h0 [a1, P, W]).trans K716 ((allS (Or.inl (List.mem_of_getElem? (i := 0) rfl)) all0))
      obtain ⟨fs720, hr720, hrun720, hended720, hW720, hsame720⟩ := X716.leave (v := none) (fun _ => rfl)
      refine ⟨_, _, pre0 _ (P717 _ ?_), hrun720, hended720, _, _, rfl, ?_, ⟨⟨_, rfl⟩, hW720, hsame720.mono (Nat.le_of_ble_eq_true rfl) (Nat.le_of_ble_eq_true rfl)⟩⟩
      · show Sg p e below (T716.setTop (mkF m 148 #[sR a1, sR fa, sI 1, sR f1, sR g1, sI 0, sI 0, sI 0, sU, sU] [])) _
        exact X716.returnOut hx Bd.returns (hb hby dp22_3_148) hr720
      · show Q_ret Z a1 P W kP kW M [] ur [] [q0] [v0] h0 n0 _ T716.heap _
        rw [e716]
        exact ⟨rfl, Nq716, K719, [], [] ++ ur, [], [] ++ vr, (0 : Int32), rfl, rfl, rfl, by simp, rfl, by simp [hv], u716_0, u716_1, u716_2, u716_3, u716_4⟩
    · skip
      have hN' : N = (2 : Int32) := hNq
      subst hN'
      obtain ⟨v0, v1, rfl⟩ := own_len2 hvl
      have hq01 := Int32.lt_iff_toInt_lt.mp (own_p2 hsq)
      obtain ⟨T721, X721, e721, st721⟩ := getF X0 hx hZ hown (Or.inr (own_hw hw 46 rfl)) Via.refl e0 Ffp (g := (mkF m 1 #[sR a1, sR fa, sI 1, sU, sU, sU, sU, sU, sU, sU] [(.ref fa)])) rfl rfl (hb hby dp22_3_1)
      have P722 : Rg p e below (T721.setTop (mkF m 4 #[sR a1, sR fa, sI 1, sU, sU, sU, sU, sU, sU, sU] [(.ref PP)])) B0 := fun t k => P0 t (by
        refine XS.aloadN X0.here hx rfl (hb hby dp22_3_0) rfl rfl ?_
        show Sg p e below (s₁.setTop (mkF m 1 #[sR a1, sR fa, sI 1, sU, sU, sU, sU, sU, sU, sU] [(.ref fa)])) _
        exact st721 _ k)
      obtain ⟨cl723, Ar723, -, S723, N723, H723, -⟩ := id APP
      have hin723 : ¬ ((1 : Int32) < 0 ∨ cl723.slots.size ≤ ((1 : Int32)).toNatClampNeg) := inb_of S723 ⟨by decide, by decide⟩
      obtain ⟨T724, X724, e724, st724⟩ := getF X721 hx hZ hown (Or.inr (own_hw hw 47 rfl)) Via.refl e721 Ffw (g := (mkF m 8 #[sR a1, sR fa, sI 1, sR f1, sU, sU, sU, sU, sU, sU] [(.ref fa)])) rfl rfl (hb hby dp22_3_8)
      have P725 : Rg p e below (T724.setTop (mkF m 11 #[sR a1, sR fa, sI 1, sR f1, sU, sU, sU, sU, sU, sU] [(.ref WW)])) B0 := fun t k => P722 t (by
        refine XS.iloadN X721.here hx rfl (hb hby dp22_3_4) rfl ?_
        show Sg p e below (T721.setTop (mkF m 5 #[sR a1, sR fa, sI 1, sU, sU, sU, sU, sU, sU, sU] [(.int (1 : Int32)), (.ref PP)])) _
        refine X721.aaload hx (j := (1 : Int32)) (v := (.ref f1)) (by rw [e721]; exact Ar723.1) (State.isArrayOf_alike hZ.alike Ar723.2.1) rfl Ar723.2.2 hin723 (H723.at hin723 rfl) (g := (mkF m 5 #[sR a1, sR fa, sI 1, sU, sU, sU, sU, sU, sU, sU] [(.int (1 : Int32)), (.ref PP)])) rfl rfl (hb hby dp22_3_5) _ ?_
        show Sg p e below (T721.setTop (mkF m 6 #[sR a1, sR fa, sI 1, sU, sU, sU, sU, sU, sU, sU] [(.ref f1)])) _
        refine XS.astoreN X721.here hx rfl (hb hby dp22_3_6) rfl rfl (l' := #[sR a1, sR fa, sI 1, sR f1, sU, sU, sU, sU, sU, sU]) rfl ?_
        refine XS.aloadN X721.here hx rfl (hb hby dp22_3_7) rfl rfl ?_
        show Sg p e below (T721.setTop (mkF m 8 #[sR a1, sR fa, sI 1, sR f1, sU, sU, sU, sU, sU, sU] [(.ref fa)])) _
        exact st724 _ k)
      obtain ⟨cl726, Ar726, -, S726, N726, H726, -⟩ := id AWW
      have hin726 : ¬ ((1 : Int32) < 0 ∨ cl726.slots.size ≤ ((1 : Int32)).toNatClampNeg) := inb_of S726 ⟨by decide, by decide⟩
      have P727 : Rg p e below (T724.setTop (mkF m 24 #[sR a1, sR fa, sI 1, sR f1, sR g1, sI 0, sI 0, sI 0, sU, sU] [])) B0 := fun t k => P725 t (by
        refine XS.iloadN X724.here hx rfl (hb hby dp22_3_11) rfl ?_
        show Sg p e below (T724.setTop (mkF m 12 #[sR a1, sR fa, sI 1, sR f1, sU, sU, sU, sU, sU, sU] [(.int (1 : Int32)), (.ref WW)])) _
        refine X724.aaload hx (j := (1 : Int32)) (v := (.ref g1)) (by rw [e724]; exact Ar726.1) (State.isArrayOf_alike hZ.alike Ar726.2.1) rfl Ar726.2.2 hin726 (H726.at hin726 rfl) (g := (mkF m 12 #[sR a1, sR fa, sI 1, sR f1, sU, sU, sU, sU, sU, sU] [(.int (1 : Int32)), (.ref WW)])) rfl rfl (hb hby dp22_3_12) _ ?_
        show Sg p e below (T724.setTop (mkF m 13 #[sR a1, sR fa, sI 1, sR f1, sU, sU, sU, sU, sU, sU] [(.ref g1)])) _
        refine XS.astore X724.here hx rfl (hb hby dp22_3_13) rfl rfl (l' := #[sR a1, sR fa, sI 1, sR f1, sR g1, sU, sU, sU, sU, sU]) rfl ?_
        refine XS.iconst X724.here hx rfl (hb hby dp22_3_15) ?_
        refine XS.istore X724.here hx rfl (hb hby dp22_3_16) rfl (l' := #[sR a1, sR fa, sI 1, sR f1, sR g1, sI 0, sU, sU, sU, sU]) rfl ?_
        refine XS.iconst X724.here hx rfl (hb hby dp22_3_18) ?_
        refine XS.istore X724.here hx rfl (hb hby dp22_3_19) rfl (l' := #[sR a1, sR fa, sI 1, sR f1, sR g1, sI 0, sI 0, sU, sU, sU]) rfl ?_
        refine XS.iconst X724.here hx rfl (hb hby dp22_3_21) ?_
        refine XS.istore X724.here hx rfl (hb hby dp22_3_22) rfl (l' := #[sR a1, sR fa, sI 1, sR f1, sR g1, sI 0, sI 0, sI 0, sU, sU]) rfl ?_
        show Sg p e below (T724.setTop (mkF m 24 #[sR a1, sR fa, sI 1, sR f1, sR g1, sI 0, sI 0, sI 0, sU, sU] [])) _
        exact k)
      obtain ⟨T728, X728, e728, st728⟩ := getF X724 hx hZ hown (host := "") (Or.inl (own_hw hw 48 rfl)) Via.refl e724 Fc (g := (mkF m 27 #[sR a1, sR fa, sI 1, sR f1, sR g1, sI 0, sI 0, sI 0, sU, sU] [(.ref a1), (.int (0 : Int32))])) rfl rfl (hb hby dp22_3_27)
      have P729 : Rg p e below (T728.setTop (mkF m 30 #[sR a1, sR fa, sI 1, sR f1, sR g1, sI 0, sI 0, sI 0, sU, sU] [(.int (0 : Int32)), (.int (0 : Int32))])) B0 := fun t k => P727 t (by
        refine XS.iload X724.here hx rfl (hb hby dp22_3_24) rfl ?_
        refine XS.aloadN X724.here hx rfl (hb hby dp22_3_26) rfl rfl ?_
        show Sg p e below (T724.setTop (mkF m 27 #[sR a1, sR fa, sI 1, sR f1, sR g1, sI 0, sI 0, sI 0, sU, sU] [(.ref a1), (.int (0 : Int32))])) _
        exact st728 _ k)
      have P730 : Rg p e below (T728.setTop (mkF m 142 #[sR a1, sR fa, sI 1, sR f1, sR g1, sI 0, sI 0, sI 0, sU, sU] [])) B0 := fun t k => P729 t (by
        refine XS.icmpYes X728.here hx rfl (pc0 := 30) (pc' := 142) rfl (hb hby dp22_3_30) rfl (flt (show ¬ ((0 : Int32) < (0 : Int32)) from (by decide))).2.1 (by decide) (by decide) ?_
        show Sg p e below (T728.setTop (mkF m 142 #[sR a1, sR fa, sI 1, sR f1, sR g1, sI 0, sI 0, sI 0, sU, sU] [])) _
        exact k)
      obtain ⟨T731, h731, L731, X731, e731, Nq731, K731, u731_0, u731_1, u731_2, u731_3, u731_4, st731⟩ := pc_rtx a1 fa f1 g1 P W kP kW (1 : Int32) M (0 : Int32) (0 : Int32) (0 : Int32) (0 : Int32) (([] ++ ur).map Value.int) (([] ++ vr).map Value.long) sU sU X728 hx hZ hw hby hml hown e728 N0 Z0 (Nat.le_of_ble_eq_true rfl) (Nat.le_of_ble_eq_true rfl) (by decide) (by decide) g_a1 E1 EP EW1 Fp Fw Fc AP AW
      have P732 : Rg p e below (T731.setTop (mkF m 148 #[sR a1, sR fa, sI 1, sR f1, sR g1, sI 0, sI 0, sI 0, sU, sU] [])) B0 := fun t k => P730 t (by
        exact st731 _ k)
      have Z733 : n0 ≤ h731.size := Nat.le_trans Z0 K731.1
      have K734 : Keep h0 h731 [a1, P, W] := (Keep.refl h0 [a1, P, W]).trans K731 ((allS (Or.inl (List.mem_of_getElem? (i := 0) rfl)) all0))
      obtain ⟨fs735, hr735, hrun735, hended735, hW735, hsame735⟩ := X731.leave (v := none) (fun _ => rfl)
      refine ⟨_, _, pre0 _ (P732 _ ?_), hrun735, hended735, _, _, rfl, ?_, ⟨⟨_, rfl⟩, hW735, hsame735.mono (Nat.le_of_ble_eq_true rfl) (Nat.le_of_ble_eq_true rfl)⟩⟩
      · show Sg p e below (T731.setTop (mkF m 148 #[sR a1, sR fa, sI 1, sR f1, sR g1, sI 0, sI 0, sI 0, sU, sU] [])) _
        exact X731.returnOut hx Bd.returns (hb hby dp22_3_148) hr735
      · show Q_ret Z a1 P W kP kW M [] ur [] [q0, q1] [v0, v1] h0 n0 _ T731.heap _
        rw [e731]
        exact ⟨rfl, Nq731, K734, [], [] ++ ur, [], [] ++ vr, (0 : Int32), rfl, rfl, rfl, by simp, rfl, by simp [hv], u731_0, u731_1, u731_2, u731_3, u731_4⟩
    · exact absurd hq2 (by simp)
  · skip
    have hc' : cn = (1 : Int32) := hc
    subst hc'
    obtain ⟨y0, rfl⟩ := own_len1 hl
    rcases ql with _ | ⟨q0, _ | ⟨q1, _ | ⟨q2, ql⟩⟩⟩
    · skip
      have hN' : N = (0 : Int32) := hNq
      subst hN'
      obtain rfl := own_len0 hvl
      obtain ⟨T736, X736, e736, st736⟩ := getF X0 hx hZ hown (Or.inr (own_hw hw 46 rfl)) Via.refl e0 Ffp (g := (mkF m 1 #[sR a1, sR fa, sI 1, sU, sU, sU, sU, sU, sU, sU] [(.ref fa)])) rfl rfl (hb hby dp22_3_1)
      have P737 : Rg p e below (T736.setTop (mkF m 4 #[sR a1, sR fa, sI 1, sU, sU, sU, sU, sU, sU, sU] [(.ref PP)])) B0 := fun t k => P0 t (by
        refine XS.aloadN X0.here hx rfl (hb hby dp22_3_0) rfl rfl ?_
        show Sg p e below (s₁.setTop (mkF m 1 #[sR a1, sR fa, sI 1, sU, sU, sU, sU, sU, sU, sU] [(.ref fa)])) _
        exact st736 _ k)
      obtain ⟨cl738, Ar738, -, S738, N738, H738, -⟩ := id APP
      have hin738 : ¬ ((1 : Int32) < 0 ∨ cl738.slots.size ≤ ((1 : Int32)).toNatClampNeg) := inb_of S738 ⟨by decide, by decide⟩
      obtain ⟨T739, X739, e739, st739⟩ := getF X736 hx hZ hown (Or.inr (own_hw hw 47 rfl)) Via.refl e736 Ffw (g := (mkF m 8 #[sR a1, sR fa, sI 1, sR f1, sU, sU, sU, sU, sU, sU] [(.ref fa)])) rfl rfl (hb hby dp22_3_8)
      have P740 : Rg p e below (T739.setTop (mkF m 11 #[sR a1, sR fa, sI 1, sR f1, sU, sU, sU, sU, sU, sU] [(.ref WW)])) B0 := fun t k => P737 t (by
        refine XS.iloadN X736.here hx rfl (hb hby dp22_3_4) rfl ?_
        show Sg p e below (T736.setTop (mkF m 5 #[sR a1, sR fa, sI 1, sU, sU, sU, sU, sU, sU, sU] [(.int (1 : Int32)), (.ref PP)])) _
        refine X736.aaload hx (j := (1 : Int32)) (v := (.ref f1)) (by rw [e736]; exact Ar738.1) (State.isArrayOf_alike hZ.alike Ar738.2.1) rfl Ar738.2.2 hin738 (H738.at hin738 rfl) (g := (mkF m 5 #[sR a1, sR fa, sI 1, sU, sU, sU, sU, sU, sU, sU] [(.int (1 : Int32)), (.ref PP)])) rfl rfl (hb hby dp22_3_5) _ ?_
        show Sg p e below (T736.setTop (mkF m 6 #[sR a1, sR fa, sI 1, sU, sU, sU, sU, sU, sU, sU] [(.ref f1)])) _
        refine XS.astoreN X736.here hx rfl (hb hby dp22_3_6) rfl rfl (l' := #[sR a1, sR fa, sI 1, sR f1, sU, sU, sU, sU, sU, sU]) rfl ?_
        refine XS.aloadN X736.here hx rfl (hb hby dp22_3_7) rfl rfl ?_
        show Sg p e below (T736.setTop (mkF m 8 #[sR a1, sR fa, sI 1, sR f1, sU, sU, sU, sU, sU, sU] [(.ref fa)])) _
        exact st739 _ k)
      obtain ⟨cl741, Ar741, -, S741, N741, H741, -⟩ := id AWW
      have hin741 : ¬ ((1 : Int32) < 0 ∨ cl741.slots.size ≤ ((1 : Int32)).toNatClampNeg) := inb_of S741 ⟨by decide, by decide⟩
      have P742 : Rg p e below (T739.setTop (mkF m 24 #[sR a1, sR fa, sI 1, sR f1, sR g1, sI 0, sI 0, sI 0, sU, sU] [])) B0 := fun t k => P740 t (by
        refine XS.iloadN X739.here hx rfl (hb hby dp22_3_11) rfl ?_
        show Sg p e below (T739.setTop (mkF m 12 #[sR a1, sR fa, sI 1, sR f1, sU, sU, sU, sU, sU, sU] [(.int (1 : Int32)), (.ref WW)])) _
        refine X739.aaload hx (j := (1 : Int32)) (v := (.ref g1)) (by rw [e739]; exact Ar741.1) (State.isArrayOf_alike hZ.alike Ar741.2.1) rfl Ar741.2.2 hin741 (H741.at hin741 rfl) (g := (mkF m 12 #[sR a1, sR fa, sI 1, sR f1, sU, sU, sU, sU, sU, sU] [(.int (1 : Int32)), (.ref WW)])) rfl rfl (hb hby dp22_3_12) _ ?_
        show Sg p e below (T739.setTop (mkF m 13 #[sR a1, sR fa, sI 1, sR f1, sU, sU, sU, sU, sU, sU] [(.ref g1)])) _
        refine XS.astore X739.here hx rfl (hb hby dp22_3_13) rfl rfl (l' := #[sR a1, sR fa, sI 1, sR f1, sR g1, sU, sU, sU, sU, sU]) rfl ?_
        refine XS.iconst X739.here hx rfl (hb hby dp22_3_15) ?_
        refine XS.istore X739.here hx rfl (hb hby dp22_3_16) rfl (l' := #[sR a1, sR fa, sI 1, sR f1, sR g1, sI 0, sU, sU, sU, sU]) rfl ?_
        refine XS.iconst X739.here hx rfl (hb hby dp22_3_18) ?_
        refine XS.istore X739.here hx rfl (hb hby dp22_3_19) rfl (l' := #[sR a1, sR fa, sI 1, sR f1, sR g1, sI 0, sI 0, sU, sU, sU]) rfl ?_
        refine XS.iconst X739.here hx rfl (hb hby dp22_3_21) ?_
        refine XS.istore X739.here hx rfl (hb hby dp22_3_22) rfl (l' := #[sR a1, sR fa, sI 1, sR f1, sR g1, sI 0, sI 0, sI 0, sU, sU]) rfl ?_
        show Sg p e below (T739.setTop (mkF m 24 #[sR a1, sR fa, sI 1, sR f1, sR g1, sI 0, sI 0, sI 0, sU, sU] [])) _
        exact k)
      obtain ⟨T743, X743, e743, st743⟩ := getF X739 hx hZ hown (host := "") (Or.inl (own_hw hw 48 rfl)) Via.refl e739 Fc (g := (mkF m 27 #[sR a1, sR fa, sI 1, sR f1, sR g1, sI 0, sI 0, sI 0, sU, sU] [(.ref a1), (.int (0 : Int32))])) rfl rfl (hb hby dp22_3_27)
      have P744 : Rg p e below (T743.setTop (mkF m 30 #[sR a1, sR fa, sI 1, sR f1, sR g1, sI 0, sI 0, sI 0, sU, sU] [(.int (1 : Int32)), (.int (0 : Int32))])) B0 := fun t k => P742 t (by
        refine XS.iload X739.here hx rfl (hb hby dp22_3_24) rfl ?_
        refine XS.aloadN X739.here hx rfl (hb hby dp22_3_26) rfl rfl ?_
        show Sg p e below (T739.setTop (mkF m 27 #[sR a1, sR fa, sI 1, sR f1, sR g1, sI 0, sI 0, sI 0, sU, sU] [(.ref a1), (.int (0 : Int32))])) _
        exact st743 _ k)
      obtain ⟨cl745, Ar745, -, S745, N745, -, -⟩ := id Af
      have lk0 : own_look [] [] x0 = 0 := rfl
      have r0 : y0 &&& own_look [] [] x0 = 0 := by rw [lk0]; exact own_and0 _
      have P746 : Rg p e below (T743.setTop (mkF m 142 #[sR a1, sR fa, sI 1, sR f1, sR g1, sI 0, sI 0, sI 0, sU, sU] [])) B0 := fun t k => P744 t (by
        refine XS.icmpNo X743.here hx rfl (hb hby dp22_3_30) rfl (tlt (show (0 : Int32) < (1 : Int32) from (by decide))).2.1 ?_
        refine XS.iload X743.here hx rfl (hb hby dp22_3_33) rfl ?_
        refine XS.aloadN X743.here hx rfl (hb hby dp22_3_35) rfl rfl ?_
        show Sg p e below (T743.setTop (mkF m 36 #[sR a1, sR fa, sI 1, sR f1, sR g1, sI 0, sI 0, sI 0, sU, sU] [(.ref f1), (.int (0 : Int32))])) _
        refine X743.arraylength hx (by rw [e743]; exact Ar745.1) (State.isArrayOf_alike hZ.alike Ar745.2.1) (g := (mkF m 36 #[sR a1, sR fa, sI 1, sR f1, sR g1, sI 0, sI 0, sI 0, sU, sU] [(.ref f1), (.int (0 : Int32))])) rfl rfl (hb hby dp22_3_36) _ ?_
        rw [len_of S745 N745]
        show Sg p e below (T743.setTop (mkF m 37 #[sR a1, sR fa, sI 1, sR f1, sR g1, sI 0, sI 0, sI 0, sU, sU] [(.int (0 : Int32)), (.int (0 : Int32))])) _
        refine XS.icmpYes X743.here hx rfl (pc0 := 37) (pc' := 142) rfl (hb hby dp22_3_37) rfl (flt (show ¬ ((0 : Int32) < (0 : Int32)) from (by decide))).2.1 (by decide) (by decide) ?_
        show Sg p e below (T743.setTop (mkF m 142 #[sR a1, sR fa, sI 1, sR f1, sR g1, sI 0, sI 0, sI 0, sU, sU] [])) _
        exact k)
      obtain ⟨T747, h747, L747, X747, e747, Nq747, K747, u747_0, u747_1, u747_2, u747_3, u747_4, st747⟩ := pc_rtx a1 fa f1 g1 P W kP kW (1 : Int32) M (1 : Int32) (0 : Int32) (0 : Int32) (0 : Int32) (([x0] ++ ur).map Value.int) (([y0] ++ vr).map Value.long) sU sU X743 hx hZ hw hby hml hown e743 N0 Z0 (Nat.le_of_ble_eq_true rfl) (Nat.le_of_ble_eq_true rfl) (by decide) (by decide) g_a1 E1 EP EW1 Fp Fw Fc AP AW
      have P748 : Rg p e below (T747.setTop (mkF m 148 #[sR a1, sR fa, sI 1, sR f1, sR g1, sI 0, sI 0, sI 0, sU, sU] [])) B0 := fun t k => P746 t (by
        exact st747 _ k)
      have Z749 : n0 ≤ h747.size := Nat.le_trans Z0 K747.1
      have K750 : Keep h0 h747 [a1, P, W] := (Keep.refl h0 [a1, P, W]).trans K747 ((allS (Or.inl (List.mem_of_getElem? (i := 0) rfl)) all0))
      obtain ⟨fs751, hr751, hrun751, hended751, hW751, hsame751⟩ := X747.leave (v := none) (fun _ => rfl)
      refine ⟨_, _, pre0 _ (P748 _ ?_), hrun751, hended751, _, _, rfl, ?_, ⟨⟨_, rfl⟩, hW751, hsame751.mono (Nat.le_of_ble_eq_true rfl) (Nat.le_of_ble_eq_true rfl)⟩⟩
      · show Sg p e below (T747.setTop (mkF m 148 #[sR a1, sR fa, sI 1, sR f1, sR g1, sI 0, sI 0, sI 0, sU, sU] [])) _
        exact X747.returnOut hx Bd.returns (hb hby dp22_3_148) hr751
      · show Q_ret Z a1 P W kP kW M [x0] ur [y0] [] [] h0 n0 _ T747.heap _
        rw [e747]
        exact ⟨rfl, Nq747, K750, [], [x0] ++ ur, [], [y0] ++ vr, (0 : Int32), by rw [own_rp, if_pos r0]; rfl, by rw [own_rw, if_pos r0]; rfl, rfl, by simp, rfl, by simp [hv], u747_0, u747_1, u747_2, u747_3, u747_4⟩
    · skip
      have hN' : N = (1 : Int32) := hNq
      subst hN'
      obtain ⟨v0, rfl⟩ := own_len1 hvl
      obtain ⟨T752, X752, e752, st752⟩ := getF X0 hx hZ hown (Or.inr (own_hw hw 46 rfl)) Via.refl e0 Ffp (g := (mkF m 1 #[sR a1, sR fa, sI 1, sU, sU, sU, sU, sU, sU, sU] [(.ref fa)])) rfl rfl (hb hby dp22_3_1)
      have P753 : Rg p e below (T752.setTop (mkF m 4 #[sR a1, sR fa, sI 1, sU, sU, sU, sU, sU, sU, sU] [(.ref PP)])) B0 := fun t k => P0 t (by
        refine XS.aloadN X0.here hx rfl (hb hby dp22_3_0) rfl rfl ?_
        show Sg p e below (s₁.setTop (mkF m 1 #[sR a1, sR fa, sI 1, sU, sU, sU, sU, sU, sU, sU] [(.ref fa)])) _
        exact st752 _ k)
      obtain ⟨cl754, Ar754, -, S754, N754, H754, -⟩ := id APP
      have hin754 : ¬ ((1 : Int32) < 0 ∨ cl754.slots.size ≤ ((1 : Int32)).toNatClampNeg) := inb_of S754 ⟨by decide, by decide⟩
      obtain ⟨T755, X755, e755, st755⟩ := getF X752 hx hZ hown (Or.inr (own_hw hw 47 rfl)) Via.refl e752 Ffw (g := (mkF m 8 #[sR a1, sR fa, sI 1, sR f1, sU, sU, sU, sU, sU, sU] [(.ref fa)])) rfl rfl (hb hby dp22_3_8)
      have P756 : Rg p e below (T755.setTop (mkF m 11 #[sR a1, sR fa, sI 1, sR f1, sU, sU, sU, sU, sU, sU] [(.ref WW)])) B0 := fun t k => P753 t (by
        refine XS.iloadN X752.here hx rfl (hb hby dp22_3_4) rfl ?_
        show Sg p e below (T752.setTop (mkF m 5 #[sR a1, sR fa, sI 1, sU, sU, sU, sU, sU, sU, sU] [(.int (1 : Int32)), (.ref PP)])) _
        refine X752.aaload hx (j := (1 : Int32)) (v := (.ref f1)) (by rw [e752]; exact Ar754.1) (State.isArrayOf_alike hZ.alike Ar754.2.1) rfl Ar754.2.2 hin754 (H754.at hin754 rfl) (g := (mkF m 5 #[sR a1, sR fa, sI 1, sU, sU, sU, sU, sU, sU, sU] [(.int (1 : Int32)), (.ref PP)])) rfl rfl (hb hby dp22_3_5) _ ?_
        show Sg p e below (T752.setTop (mkF m 6 #[sR a1, sR fa, sI 1, sU, sU, sU, sU, sU, sU, sU] [(.ref f1)])) _
        refine XS.astoreN X752.here hx rfl (hb hby dp22_3_6) rfl rfl (l' := #[sR a1, sR fa, sI 1, sR f1, sU, sU, sU, sU, sU, sU]) rfl ?_
        refine XS.aloadN X752.here hx rfl (hb hby dp22_3_7) rfl rfl ?_
        show Sg p e below (T752.setTop (mkF m 8 #[sR a1, sR fa, sI 1, sR f1, sU, sU, sU, sU, sU, sU] [(.ref fa)])) _
        exact st755 _ k)
      obtain ⟨cl757, Ar757, -, S757, N757, H757, -⟩ := id AWW
      have hin757 : ¬ ((1 : Int32) < 0 ∨ cl757.slots.size ≤ ((1 : Int32)).toNatClampNeg) := inb_of S757 ⟨by decide, by decide⟩
      have P758 : Rg p e below (T755.setTop (mkF m 24 #[sR a1, sR fa, sI 1, sR f1, sR g1, sI 0, sI 0, sI 0, sU, sU] [])) B0 := fun t k => P756 t (by
        refine XS.iloadN X755.here hx rfl (hb hby dp22_3_11) rfl ?_
        show Sg p e below (T755.setTop (mkF m 12 #[sR a1, sR fa, sI 1, sR f1, sU, sU, sU, sU, sU, sU] [(.int (1 : Int32)), (.ref WW)])) _
        refine X755.aaload hx (j := (1 : Int32)) (v := (.ref g1)) (by rw [e755]; exact Ar757.1) (State.isArrayOf_alike hZ.alike Ar757.2.1) rfl Ar757.2.2 hin757 (H757.at hin757 rfl) (g := (mkF m 12 #[sR a1, sR fa, sI 1, sR f1, sU, sU, sU, sU, sU, sU] [(.int (1 : Int32)), (.ref WW)])) rfl rfl (hb hby dp22_3_12) _ ?_
        show Sg p e below (T755.setTop (mkF m 13 #[sR a1, sR fa, sI 1, sR f1, sU, sU, sU, sU, sU, sU] [(.ref g1)])) _
        refine XS.astore X755.here hx rfl (hb hby dp22_3_13) rfl rfl (l' := #[sR a1, sR fa, sI 1, sR f1, sR g1, sU, sU, sU, sU, sU]) rfl ?_
        refine XS.iconst X755.here hx rfl (hb hby dp22_3_15) ?_
        refine XS.istore X755.here hx rfl (hb hby dp22_3_16) rfl (l' := #[sR a1, sR fa, sI 1, sR f1, sR g1, sI 0, sU, sU, sU, sU]) rfl ?_
        refine XS.iconst X755.here hx rfl (hb hby dp22_3_18) ?_
        refine XS.istore X755.here hx rfl (hb hby dp22_3_19) rfl (l' := #[sR a1, sR fa, sI 1, sR f1, sR g1, sI 0, sI 0, sU, sU, sU]) rfl ?_
        refine XS.iconst X755.here hx rfl (hb hby dp22_3_21) ?_
        refine XS.istore X755.here hx rfl (hb hby dp22_3_22) rfl (l' := #[sR a1, sR fa, sI 1, sR f1, sR g1, sI 0, sI 0, sI 0, sU, sU]) rfl ?_
        show Sg p e below (T755.setTop (mkF m 24 #[sR a1, sR fa, sI 1, sR f1, sR g1, sI 0, sI 0, sI 0, sU, sU] [])) _
        exact k)
      obtain ⟨T759, h759, L759, X759, e759, Nq759, K759, st759⟩ := pc_rth a1 fa f1 g1 kf (1 : Int32) (1 : Int32) (1 : Int32) (0 : Int32) (0 : Int32) (0 : Int32) [(.int q0)] sU sU X755 hx hZ hw hby hml hown e755 N0 Z0 (Nat.le_of_ble_eq_true rfl) (Nat.le_of_ble_eq_true rfl) (by decide) (by decide) Fc Af (by decide) (by decide)
      have P760 : Rg p e below (T759.setTop (mkF m 40 #[sR a1, sR fa, sI 1, sR f1, sR g1, sI 0, sI 0, sI 0, sU, sU] [])) B0 := fun t k => P758 t (by
        exact st759 _ k)
      have Z761 : n0 ≤ h759.size := Nat.le_trans Z0 K759.1
      have K762 : Keep h0 h759 [a1, P, W] := (Keep.refl h0 [a1, P, W]).trans K759 (all0)
      by_cases q763 : q0 < x0
      · skip
        have tq763 := Int32.lt_iff_toInt_lt.mp q763
        have f764 := (E1.keep K759)
        have f765 := (EP.keep K759)
        have f766 := (EW1.keep K759)
        have f767 := (Fp.keep K759 nin0)
        have f768 := (Fw.keep K759 nin0)
        have f769 := (Af.keep K759 nin0)
        have f770 := (Ag.keep K759 nin0)
        have f771 := (AP.keep K759 nin0)
        have f772 := (AW.keep K759 nin0)
        obtain ⟨T773, h773, L773, X773, e773, Nq773, K773, st773⟩ := pc_rtv a1 fa f1 g1 P W kf kg kP kW (1 : Int32) (1 : Int32) M (0 : Int32) (0 : Int32) (0 : Int32) q0 x0 y0 v0 [(.int q0)] [(.long v0)] (([x0] ++ ur).map Value.int) (([y0] ++ vr).map Value.long) sU sU X759 hx hZ hw hby hml hown e759 Nq759 Z761 (Nat.le_of_ble_eq_true rfl) (Nat.le_of_ble_eq_true rfl) (by decide) (by decide) g_P g_W f764 f765 f766 f767 f768 f769 f770 f771 f772 (by decide) ⟨by decide, by decide⟩ rfl rfl (own_inb hM (k := 0) (by simp) hm) rfl rfl (Or.inl ⟨rfl, rfl⟩) q763
        have P774 : Rg p e below (T773.setTop (mkF m 40 #[sR a1, sR fa, sI 1, sR f1, sR g1, sI 0, sI 1, sI 0, sU, sU] [])) B0 := fun t k => P760 t (by
          exact st773 _ k)
        have Z775 : n0 ≤ h773.size := Nat.le_trans Z761 K773.1
        have K776 : Keep h0 h773 [a1, P, W] := K762.trans K773 (all0)
        have f777 := (f769.keep K773 nin0)
        obtain ⟨T778, h778, L778, X778, e778, Nq778, K778, st778⟩ := pc_rtd a1 fa f1 g1 kf (1 : Int32) (1 : Int32) (0 : Int32) (1 : Int32) (0 : Int32) [(.int q0)] sU sU X773 hx hZ hw hby hml hown e773 Nq773 Z775 (Nat.le_of_ble_eq_true rfl) (Nat.le_of_ble_eq_true rfl) (by decide) (by decide) f777 (by decide)
        have P779 : Rg p e below (T778.setTop (mkF m 24 #[sR a1, sR fa, sI 1, sR f1, sR g1, sI 0, sI 1, sI 1, sU, sU] [])) B0 := fun t k => P774 t (by
          exact st778 _ k)
        have Z780 : n0 ≤ h778.size := Nat.le_trans Z775 K778.1
        have K781 : Keep h0 h778 [a1, P, W] := K776.trans K778 (all0)
        have f782 := (((Fc.keep K759 nin0).keep K773 nin0).keep K778 nin0)
        obtain ⟨T783, X783, e783, st783⟩ := getF X778 hx hZ hown (host := "") (Or.inl (own_hw hw 48 rfl)) Via.refl e778 f782 (g := (mkF m 27 #[sR a1, sR fa, sI 1, sR f1, sR g1, sI 0, sI 1, sI 1, sU, sU] [(.ref a1), (.int (1 : Int32))])) rfl rfl (hb hby dp22_3_27)
        have P784 : Rg p e below (T783.setTop (mkF m 30 #[sR a1, sR fa, sI 1, sR f1, sR g1, sI 0, sI 1, sI 1, sU, sU] [(.int (1 : Int32)), (.int (1 : Int32))])) B0 := fun t k => P779 t (by
          refine XS.iload X778.here hx rfl (hb hby dp22_3_24) rfl ?_
          refine XS.aloadN X778.here hx rfl (hb hby dp22_3_26) rfl rfl ?_
          show Sg p e below (T778.setTop (mkF m 27 #[sR a1, sR fa, sI 1, sR f1, sR g1, sI 0, sI 1, sI 1, sU, sU] [(.ref a1), (.int (1 : Int32))])) _
          exact st783 _ k)
        have lk0 : own_look [q0] [v0] x0 = 0 := by simp only [own_look]; rw [if_neg (fun e => by have e' := congrArg Int32.toInt e; omega)]
        have r0 : y0 &&& own_look [q0] [v0] x0 = 0 := by rw [lk0]; exact own_and0 _
        have f785 := ((f764.keep K773).keep K778)
        have f786 := ((f765.keep K773).keep K778)
        have f787 := ((f766.keep K773).keep K778)
        have f788 := ((f767.keep K773 nin0).keep K778 nin0)
        have f789 := ((f768.keep K773 nin0).keep K778 nin0)
        have f790 := ((f771.keep K773 nin0).keep K778 nin0)
        have f791 := ((f772.keep K773 nin0).keep K778 nin0)
        have P792 : Rg p e below (T783.setTop (mkF m 142 #[sR a1, sR fa, sI 1, sR f1, sR g1, sI 0, sI 1, sI 1, sU, sU] [])) B0 := fun t k => P784 t (by
          refine XS.icmpYes X783.here hx rfl (pc0 := 30) (pc' := 142) rfl (hb hby dp22_3_30) rfl (flt (show ¬ ((1 : Int32) < (1 : Int32)) from (by decide))).2.1 (by decide) (by decide) ?_
          show Sg p e below (T783.setTop (mkF m 142 #[sR a1, sR fa, sI 1, sR f1, sR g1, sI 0, sI 1, sI 1, sU, sU] [])) _
          exact k)
        obtain ⟨T793, h793, L793, X793, e793, Nq793, K793, u793_0, u793_1, u793_2, u793_3, u793_4, st793⟩ := pc_rtx a1 fa f1 g1 P W kP kW (1 : Int32) M (1 : Int32) (0 : Int32) (1 : Int32) (1 : Int32) (([x0] ++ ur).map Value.int) (([y0] ++ vr).map Value.long) sU sU X783 hx hZ hw hby hml hown e783 Nq778 Z780 (Nat.le_of_ble_eq_true rfl) (Nat.le_of_ble_eq_true rfl) (by decide) (by decide) g_a1 f785 f786 f787 f788 f789 f782 f790 f791
        have P794 : Rg p e below (T793.setTop (mkF m 148 #[sR a1, sR fa, sI 1, sR f1, sR g1, sI 0, sI 1, sI 1, sU, sU] [])) B0 := fun t k => P792 t (by
          exact st793 _ k)
        have Z795 : n0 ≤ h793.size := Nat.le_trans Z780 K793.1
        have K796 : Keep h0 h793 [a1, P, W] := K781.trans K793 ((allS (Or.inl (List.mem_of_getElem? (i := 0) rfl)) all0))
        obtain ⟨fs797, hr797, hrun797, hended797, hW797, hsame797⟩ := X793.leave (v := none) (fun _ => rfl)
        refine ⟨_, _, pre0 _ (P794 _ ?_), hrun797, hended797, _, _, rfl, ?_, ⟨⟨_, rfl⟩, hW797, hsame797.mono (Nat.le_of_ble_eq_true rfl) (Nat.le_of_ble_eq_true rfl)⟩⟩
        · show Sg p e below (T793.setTop (mkF m 148 #[sR a1, sR fa, sI 1, sR f1, sR g1, sI 0, sI 1, sI 1, sU, sU] [])) _
          exact X793.returnOut hx Bd.returns (hb hby dp22_3_148) hr797
        · show Q_ret Z a1 P W kP kW M [x0] ur [y0] [q0] [v0] h0 n0 _ T793.heap _
          rw [e793]
          exact ⟨rfl, Nq793, K796, [], [x0] ++ ur, [], [y0] ++ vr, (0 : Int32), by rw [own_rp, if_pos r0]; rfl, by rw [own_rw, if_pos r0]; rfl, rfl, by simp, rfl, by simp [hv], u793_0, u793_1, u793_2, u793_3, u793_4⟩
      · skip
        have tq763 : ¬ q0.toInt < x0.toInt := fun y => q763 (Int32.lt_iff_toInt_lt.mpr y)
        by_cases q798 : q0 = x0
        · skip
          have hit0 := q798
          have thit0 := congrArg Int32.toInt q798
          by_cases q799 : y0 &&& v0 = (0 : Int64)
          · skip
            have f800 := (E1.keep K759)
            have f801 := (EP.keep K759)
            have f802 := (EW1.keep K759)
            have f803 := (Fp.keep K759 nin0)
            have f804 := (Fw.keep K759 nin0)
            have f805 := (Af.keep K759 nin0)
            have f806 := (Ag.keep K759 nin0)
            have f807 := (AP.keep K759 nin0)
            have f808 := (AW.keep K759 nin0)
            obtain ⟨T809, h809, L809, X809, e809, Nq809, K809, st809⟩ := pc_rtz a1 fa f1 g1 P W kf kg kP kW (1 : Int32) (1 : Int32) M (0 : Int32) (0 : Int32) (0 : Int32) q0 x0 y0 v0 [(.int q0)] [(.long v0)] (([x0] ++ ur).map Value.int) (([y0] ++ vr).map Value.long) sU sU X759 hx hZ hw hby hml hown e759 Nq759 Z761 (Nat.le_of_ble_eq_true rfl) (Nat.le_of_ble_eq_true rfl) (by decide) (by decide) g_P g_W f800 f801 f802 f803 f804 f805 f806 f807 f808 (by decide) ⟨by decide, by decide⟩ rfl rfl (own_inb hM (k := 0) (by simp) hm) rfl rfl (Or.inl ⟨rfl, rfl⟩) q763 q798 q799
            have P810 : Rg p e below (T809.setTop (mkF m 24 #[sR a1, sR fa, sI 1, sR f1, sR g1, sI 0, sI 0, sI 1, .val (.long (y0 &&& v0)), .second] [])) B0 := fun t k => P760 t (by
              exact st809 _ k)
            have Z811 : n0 ≤ h809.size := Nat.le_trans Z761 K809.1
            have K812 : Keep h0 h809 [a1, P, W] := K762.trans K809 (all0)
            have f813 := ((Fc.keep K759 nin0).keep K809 nin0)
            obtain ⟨T814, X814, e814, st814⟩ := getF X809 hx hZ hown (host := "") (Or.inl (own_hw hw 48 rfl)) Via.refl e809 f813 (g := (mkF m 27 #[sR a1, sR fa, sI 1, sR f1, sR g1, sI 0, sI 0, sI 1, .val (.long (y0 &&& v0)), .second] [(.ref a1), (.int (1 : Int32))])) rfl rfl (hb hby dp22_3_27)
            have P815 : Rg p e below (T814.setTop (mkF m 30 #[sR a1, sR fa, sI 1, sR f1, sR g1, sI 0, sI 0, sI 1, .val (.long (y0 &&& v0)), .second] [(.int (1 : Int32)), (.int (1 : Int32))])) B0 := fun t k => P810 t (by
              refine XS.iload X809.here hx rfl (hb hby dp22_3_24) rfl ?_
              refine XS.aloadN X809.here hx rfl (hb hby dp22_3_26) rfl rfl ?_
              show Sg p e below (T809.setTop (mkF m 27 #[sR a1, sR fa, sI 1, sR f1, sR g1, sI 0, sI 0, sI 1, .val (.long (y0 &&& v0)), .second] [(.ref a1), (.int (1 : Int32))])) _
              exact st814 _ k)
            have lk0 : own_look [q0] [v0] x0 = v0 := by simp only [own_look]; rw [if_pos q798]
            have r0 : y0 &&& own_look [q0] [v0] x0 = 0 := by rw [lk0]; exact q799
            have f816 := (f800.keep K809)
            have f817 := (f801.keep K809)
            have f818 := (f802.keep K809)
            have f819 := (f803.keep K809 nin0)
            have f820 := (f804.keep K809 nin0)
            have f821 := (f807.keep K809 nin0)
            have f822 := (f808.keep K809 nin0)
            have P823 : Rg p e below (T814.setTop (mkF m 142 #[sR a1, sR fa, sI 1, sR f1, sR g1, sI 0, sI 0, sI 1, .val (.long (y0 &&& v0)), .second] [])) B0 := fun t k => P815 t (by
              refine XS.icmpYes X814.here hx rfl (pc0 := 30) (pc' := 142) rfl (hb hby dp22_3_30) rfl (flt (show ¬ ((1 : Int32) < (1 : Int32)) from (by decide))).2.1 (by decide) (by decide) ?_
              show Sg p e below (T814.setTop (mkF m 142 #[sR a1, sR fa, sI 1, sR f1, sR g1, sI 0, sI 0, sI 1, .val (.long (y0 &&& v0)), .second] [])) _
              exact k)
            obtain ⟨T824, h824, L824, X824, e824, Nq824, K824, u824_0, u824_1, u824_2, u824_3, u824_4, st824⟩ := pc_rtx a1 fa f1 g1 P W kP kW (1 : Int32) M (1 : Int32) (0 : Int32) (0 : Int32) (1 : Int32) (([x0] ++ ur).map Value.int) (([y0] ++ vr).map Value.long) (.val (.long (y0 &&& v0))) .second X814 hx hZ hw hby hml hown e814 Nq809 Z811 (Nat.le_of_ble_eq_true rfl) (Nat.le_of_ble_eq_true rfl) (by decide) (by decide) g_a1 f816 f817 f818 f819 f820 f813 f821 f822
            have P825 : Rg p e below (T824.setTop (mkF m 148 #[sR a1, sR fa, sI 1, sR f1, sR g1, sI 0, sI 0, sI 1, .val (.long (y0 &&& v0)), .second] [])) B0 := fun t k => P823 t (by
              exact st824 _ k)
            have Z826 : n0 ≤ h824.size := Nat.le_trans Z811 K824.1
            have K827 : Keep h0 h824 [a1, P, W] := K812.trans K824 ((allS (Or.inl (List.mem_of_getElem? (i := 0) rfl)) all0))
            obtain ⟨fs828, hr828, hrun828, hended828, hW828, hsame828⟩ := X824.leave (v := none) (fun _ => rfl)
            refine ⟨_, _, pre0 _ (P825 _ ?_), hrun828, hended828, _, _, rfl, ?_, ⟨⟨_, rfl⟩, hW828, hsame828.mono (Nat.le_of_ble_eq_true rfl) (Nat.le_of_ble_eq_true rfl)⟩⟩
            · show Sg p e below (T824.setTop (mkF m 148 #[sR a1, sR fa, sI 1, sR f1, sR g1, sI 0, sI 0, sI 1, .val (.long (y0 &&& v0)), .second] [])) _
              exact X824.returnOut hx Bd.returns (hb hby dp22_3_148) hr828
            · show Q_ret Z a1 P W kP kW M [x0] ur [y0] [q0] [v0] h0 n0 _ T824.heap _
              rw [e824]
              exact ⟨rfl, Nq824, K827, [], [x0] ++ ur, [], [y0] ++ vr, (0 : Int32), by rw [own_rp, if_pos r0]; rfl, by rw [own_rw, if_pos r0]; rfl, rfl, by simp, rfl, by simp [hv], u824_0, u824_1, u824_2, u824_3, u824_4⟩
          · skip
            have f829 := (E1.keep K759)
            have f830 := (EP.keep K759)
            have f831 := (EW1.keep K759)
            have f832 := (Fp.keep K759 nin0)
            have f833 := (Fw.keep K759 nin0)
            have f834 := (Af.keep K759 nin0)
            have f835 := (Ag.keep K759 nin0)
            have f836 := (AP.keep K759 nin0)
            have f837 := (AW.keep K759 nin0)
            obtain ⟨T838, h838, L838, X838, e838, Nq838, K838, u838_0, u838_1, st838⟩ := pc_rtk a1 fa f1 g1 P W kf kg kP kW (1 : Int32) (1 : Int32) M (0 : Int32) (0 : Int32) (0 : Int32) q0 x0 y0 v0 [(.int q0)] [(.long v0)] (([x0] ++ ur).map Value.int) (([y0] ++ vr).map Value.long) sU sU 0 X759 hx hZ hw hby hml hown e759 Nq759 Z761 (Nat.le_of_ble_eq_true rfl) (Nat.le_of_ble_eq_true rfl) (by decide) (by decide) g_P g_W f829 f830 f831 f832 f833 f834 f835 f836 f837 (by decide) ⟨by decide, by decide⟩ rfl rfl (own_inb hM (k := 0) (by simp) hm) rfl rfl (Or.inl ⟨rfl, rfl⟩) q763 q798 q799 (own_inb hM (k := 0) (by simp) hm) rfl (by simp) (by simp)
            have P839 : Rg p e below (T838.setTop (mkF m 24 #[sR a1, sR fa, sI 1, sR f1, sR g1, sI 1, sI 0, sI 1, .val (.long (y0 &&& v0)), .second] [])) B0 := fun t k => P760 t (by
              exact st838 _ k)
            have Z840 : n0 ≤ h838.size := Nat.le_trans Z761 K838.1
            have K841 : Keep h0 h838 [a1, P, W] := K762.trans K838 ((allS (Or.inl (List.mem_of_getElem? (i := 1) rfl)) (allS (Or.inl (List.mem_of_getElem? (i := 2) rfl)) all0)))
            have AP838 : Arv Z h838 P kP .int M (([x0] ++ ur).map Value.int) (.int (0 : Int32)) := u838_0
            have AW838 : Arv Z h838 W kW .long M (([(y0 &&& v0)] ++ vr).map Value.long) (.long (0 : Int64)) := u838_1
            have f842 := ((Fc.keep K759 nin0).keep K838 (ninS (Exa.ne E1 EP (by decide)) (ninS (Exa.ne E1 EW1 (by decide)) nin0)))
            obtain ⟨T843, X843, e843, st843⟩ := getF X838 hx hZ hown (host := "") (Or.inl (own_hw hw 48 rfl)) Via.refl e838 f842 (g := (mkF m 27 #[sR a1, sR fa, sI 1, sR f1, sR g1, sI 1, sI 0, sI 1, .val (.long (y0 &&& v0)), .second] [(.ref a1), (.int (1 : Int32))])) rfl rfl (hb hby dp22_3_27)
            have P844 : Rg p e below (T843.setTop (mkF m 30 #[sR a1, sR fa, sI 1, sR f1, sR g1, sI 1, sI 0, sI 1, .val (.long (y0 &&& v0)), .second] [(.int (1 : Int32)), (.int (1 : Int32))])) B0 := fun t k => P839 t (by
              refine XS.iload X838.here hx rfl (hb hby dp22_3_24) rfl ?_
              refine XS.aloadN X838.here hx rfl (hb hby dp22_3_26) rfl rfl ?_
              show Sg p e below (T838.setTop (mkF m 27 #[sR a1, sR fa, sI 1, sR f1, sR g1, sI 1, sI 0, sI 1, .val (.long (y0 &&& v0)), .second] [(.ref a1), (.int (1 : Int32))])) _
              exact st843 _ k)
            have lk0 : own_look [q0] [v0] x0 = v0 := by simp only [own_look]; rw [if_pos q798]
            have r0 : ¬ y0 &&& own_look [q0] [v0] x0 = 0 := by rw [lk0]; exact q799
            have f845 := (f829.keep K838)
            have f846 := (f830.keep K838)
            have f847 := (f831.keep K838)
            have f848 := (f832.keep K838 (ninS (Exa.ne E1 EP (by decide)) (ninS (Exa.ne E1 EW1 (by decide)) nin0)))
            have f849 := (f833.keep K838 (ninS (Exa.ne E1 EP (by decide)) (ninS (Exa.ne E1 EW1 (by decide)) nin0)))
            have P850 : Rg p e below (T843.setTop (mkF m 142 #[sR a1, sR fa, sI 1, sR f1, sR g1, sI 1, sI 0, sI 1, .val (.long (y0 &&& v0)), .second] [])) B0 := fun t k => P844 t (by
              refine XS.icmpYes X843.here hx rfl (pc0 := 30) (pc' := 142) rfl (hb hby dp22_3_30) rfl (flt (show ¬ ((1 : Int32) < (1 : Int32)) from (by decide))).2.1 (by decide) (by decide) ?_
              show Sg p e below (T843.setTop (mkF m 142 #[sR a1, sR fa, sI 1, sR f1, sR g1, sI 1, sI 0, sI 1, .val (.long (y0 &&& v0)), .second] [])) _
              exact k)
            obtain ⟨T851, h851, L851, X851, e851, Nq851, K851, u851_0, u851_1, u851_2, u851_3, u851_4, st851⟩ := pc_rtx a1 fa f1 g1 P W kP kW (1 : Int32) M (1 : Int32) (1 : Int32) (0 : Int32) (1 : Int32) (([x0] ++ ur).map Value.int) (([(y0 &&& v0)] ++ vr).map Value.long) (.val (.long (y0 &&& v0))) .second X843 hx hZ hw hby hml hown e843 Nq838 Z840 (Nat.le_of_ble_eq_true rfl) (Nat.le_of_ble_eq_true rfl) (by decide) (by decide) g_a1 f845 f846 f847 f848 f849 f842 AP838 AW838
            have P852 : Rg p e below (T851.setTop (mkF m 148 #[sR a1, sR fa, sI 1, sR f1, sR g1, sI 1, sI 0, sI 1, .val (.long (y0 &&& v0)), .second] [])) B0 := fun t k => P850 t (by
              exact st851 _ k)
            have Z853 : n0 ≤ h851.size := Nat.le_trans Z840 K851.1
            have K854 : Keep h0 h851 [a1, P, W] := K841.trans K851 ((allS (Or.inl (List.mem_of_getElem? (i := 0) rfl)) all0))
            obtain ⟨fs855, hr855, hrun855, hended855, hW855, hsame855⟩ := X851.leave (v := none) (fun _ => rfl)
            refine ⟨_, _, pre0 _ (P852 _ ?_), hrun855, hended855, _, _, rfl, ?_, ⟨⟨_, rfl⟩, hW855, hsame855.mono (Nat.le_of_ble_eq_true rfl) (Nat.le_of_ble_eq_true rfl)⟩⟩
            · show Sg p e below (T851.setTop (mkF m 148 #[sR a1, sR fa, sI 1, sR f1, sR g1, sI 1, sI 0, sI 1, .val (.long (y0 &&& v0)), .second] [])) _
              exact X851.returnOut hx Bd.returns (hb hby dp22_3_148) hr855
            · show Q_ret Z a1 P W kP kW M [x0] ur [y0] [q0] [v0] h0 n0 _ T851.heap _
              rw [e851]
              exact ⟨rfl, Nq851, K854, [x0], [] ++ ur, [(y0 &&& v0)], [] ++ vr, (1 : Int32), by rw [own_rp, if_neg r0]; rfl, by rw [own_rw, if_neg r0, lk0]; rfl, rfl, by simp, rfl, by simp [hv], u851_0, u851_1, u851_2, u851_3, u851_4⟩
        · skip
          have tq798 : ¬ q0.toInt = x0.toInt := fun y => q798 (Int32.toInt_inj.mp y)
          have f856 := (E1.keep K759)
          have f857 := (EP.keep K759)
          have f858 := (EW1.keep K759)
          have f859 := (Fp.keep K759 nin0)
          have f860 := (Fw.keep K759 nin0)
          have f861 := (Af.keep K759 nin0)
          have f862 := (Ag.keep K759 nin0)
          have f863 := (AP.keep K759 nin0)
          have f864 := (AW.keep K759 nin0)
          obtain ⟨T865, h865, L865, X865, e865, Nq865, K865, st865⟩ := pc_rtn a1 fa f1 g1 P W kf kg kP kW (1 : Int32) (1 : Int32) M (0 : Int32) (0 : Int32) (0 : Int32) q0 x0 y0 v0 [(.int q0)] [(.long v0)] (([x0] ++ ur).map Value.int) (([y0] ++ vr).map Value.long) sU sU X759 hx hZ hw hby hml hown e759 Nq759 Z761 (Nat.le_of_ble_eq_true rfl) (Nat.le_of_ble_eq_true rfl) (by decide) (by decide) g_P g_W f856 f857 f858 f859 f860 f861 f862 f863 f864 (by decide) ⟨by decide, by decide⟩ rfl rfl (own_inb hM (k := 0) (by simp) hm) rfl rfl (Or.inl ⟨rfl, rfl⟩) q763 q798
          have P866 : Rg p e below (T865.setTop (mkF m 24 #[sR a1, sR fa, sI 1, sR f1, sR g1, sI 0, sI 0, sI 1, sU, sU] [])) B0 := fun t k => P760 t (by
            exact st865 _ k)
          have Z867 : n0 ≤ h865.size := Nat.le_trans Z761 K865.1
          have K868 : Keep h0 h865 [a1, P, W] := K762.trans K865 (all0)
          have f869 := ((Fc.keep K759 nin0).keep K865 nin0)
          obtain ⟨T870, X870, e870, st870⟩ := getF X865 hx hZ hown (host := "") (Or.inl (own_hw hw 48 rfl)) Via.refl e865 f869 (g := (mkF m 27 #[sR a1, sR fa, sI 1, sR f1, sR g1, sI 0, sI 0, sI 1, sU, sU] [(.ref a1), (.int (1 : Int32))])) rfl rfl (hb hby dp22_3_27)
          have P871 : Rg p e below (T870.setTop (mkF m 30 #[sR a1, sR fa, sI 1, sR f1, sR g1, sI 0, sI 0, sI 1, sU, sU] [(.int (1 : Int32)), (.int (1 : Int32))])) B0 := fun t k => P866 t (by
            refine XS.iload X865.here hx rfl (hb hby dp22_3_24) rfl ?_
            refine XS.aloadN X865.here hx rfl (hb hby dp22_3_26) rfl rfl ?_
            show Sg p e below (T865.setTop (mkF m 27 #[sR a1, sR fa, sI 1, sR f1, sR g1, sI 0, sI 0, sI 1, sU, sU] [(.ref a1), (.int (1 : Int32))])) _
            exact st870 _ k)
          have lk0 : own_look [q0] [v0] x0 = 0 := by simp only [own_look]; rw [if_neg (fun e => by have e' := congrArg Int32.toInt e; omega)]
          have r0 : y0 &&& own_look [q0] [v0] x0 = 0 := by rw [lk0]; exact own_and0 _
          have f872 := (f856.keep K865)
          have f873 := (f857.keep K865)
          have f874 := (f858.keep K865)
          have f875 := (f859.keep K865 nin0)
          have f876 := (f860.keep K865 nin0)
          have f877 := (f863.keep K865 nin0)
          have f878 := (f864.keep K865 nin0)
          have P879 : Rg p e below (T870.setTop (mkF m 142 #[sR a1, sR fa, sI 1, sR f1, sR g1, sI 0, sI 0, sI 1, sU, sU] [])) B0 := fun t k => P871 t (by
            refine XS.icmpYes X870.here hx rfl (pc0 := 30) (pc' := 142) rfl (hb hby dp22_3_30) rfl (flt (show ¬ ((1 : Int32) < (1 : Int32)) from (by decide))).2.1 (by decide) (by decide) ?_
            show Sg p e below (T870.setTop (mkF m 142 #[sR a1, sR fa, sI 1, sR f1, sR g1, sI 0, sI 0, sI 1, sU, sU] [])) _
            exact k)
          obtain ⟨T880, h880, L880, X880, e880, Nq880, K880, u880_0, u880_1, u880_2, u880_3, u880_4, st880⟩ := pc_rtx a1 fa f1 g1 P W kP kW (1 : Int32) M (1 : Int32) (0 : Int32) (0 : Int32) (1 : Int32) (([x0] ++ ur).map Value.int) (([y0] ++ vr).map Value.long) sU sU X870 hx hZ hw hby hml hown e870 Nq865 Z867 (Nat.le_of_ble_eq_true rfl) (Nat.le_of_ble_eq_true rfl) (by decide) (by decide) g_a1 f872 f873 f874 f875 f876 f869 f877 f878
          have P881 : Rg p e below (T880.setTop (mkF m 148 #[sR a1, sR fa, sI 1, sR f1, sR g1, sI 0, sI 0, sI 1, sU, sU] [])) B0 := fun t k => P879 t (by
            exact st880 _ k)
          have Z882 : n0 ≤ h880.size := Nat.le_trans Z867 K880.1
          have K883 : Keep h0 h880 [a1, P, W] := K868.trans K880 ((allS (Or.inl (List.mem_of_getElem? (i := 0) rfl)) all0))
          obtain ⟨fs884, hr884, hrun884, hended884, hW884, hsame884⟩ := X880.leave (v := none) (fun _ => rfl)
          refine ⟨_, _, pre0 _ (P881 _ ?_), hrun884, hended884, _, _, rfl, ?_, ⟨⟨_, rfl⟩, hW884, hsame884.mono (Nat.le_of_ble_eq_true rfl) (Nat.le_of_ble_eq_true rfl)⟩⟩
          · show Sg p e below (T880.setTop (mkF m 148 #[sR a1, sR fa, sI 1, sR f1, sR g1, sI 0, sI 0, sI 1, sU, sU] [])) _
            exact X880.returnOut hx Bd.returns (hb hby dp22_3_148) hr884
          · show Q_ret Z a1 P W kP kW M [x0] ur [y0] [q0] [v0] h0 n0 _ T880.heap _
            rw [e880]
            exact ⟨rfl, Nq880, K883, [], [x0] ++ ur, [], [y0] ++ vr, (0 : Int32), by rw [own_rp, if_pos r0]; rfl, by rw [own_rw, if_pos r0]; rfl, rfl, by simp, rfl, by simp [hv], u880_0, u880_1, u880_2, u880_3, u880_4⟩
    · skip
      have hN' : N = (2 : Int32) := hNq
      subst hN'
      obtain ⟨v0, v1, rfl⟩ := own_len2 hvl
      have hq01 := Int32.lt_iff_toInt_lt.mp (own_p2 hsq)
      obtain ⟨T885, X885, e885, st885⟩ := getF X0 hx hZ hown (Or.inr (own_hw hw 46 rfl)) Via.refl e0 Ffp (g := (mkF m 1 #[sR a1, sR fa, sI 1, sU, sU, sU, sU, sU, sU, sU] [(.ref fa)])) rfl rfl (hb hby dp22_3_1)
      have P886 : Rg p e below (T885.setTop (mkF m 4 #[sR a1, sR fa, sI 1, sU, sU, sU, sU, sU, sU, sU] [(.ref PP)])) B0 := fun t k => P0 t (by
        refine XS.aloadN X0.here hx rfl (hb hby dp22_3_0) rfl rfl ?_
        show Sg p e below (s₁.setTop (mkF m 1 #[sR a1, sR fa, sI 1, sU, sU, sU, sU, sU, sU, sU] [(.ref fa)])) _
        exact st885 _ k)
      obtain ⟨cl887, Ar887, -, S887, N887, H887, -⟩ := id APP
      have hin887 : ¬ ((1 : Int32) < 0 ∨ cl887.slots.size ≤ ((1 : Int32)).toNatClampNeg) := inb_of S887 ⟨by decide, by decide⟩
      obtain ⟨T888, X888, e888, st888⟩ := getF X885 hx hZ hown (Or.inr (own_hw hw 47 rfl)) Via.refl e885 Ffw (g := (mkF m 8 #[sR a1, sR fa, sI 1, sR f1, sU, sU, sU, sU, sU, sU] [(.ref fa)])) rfl rfl (hb hby dp22_3_8)
      have P889 : Rg p e below (T888.setTop (mkF m 11 #[sR a1, sR fa, sI 1, sR f1, sU, sU, sU, sU, sU, sU] [(.ref WW)])) B0 := fun t k => P886 t (by
        refine XS.iloadN X885.here hx rfl (hb hby dp22_3_4) rfl ?_
        show Sg p e below (T885.setTop (mkF m 5 #[sR a1, sR fa, sI 1, sU, sU, sU, sU, sU, sU, sU] [(.int (1 : Int32)), (.ref PP)])) _
        refine X885.aaload hx (j := (1 : Int32)) (v := (.ref f1)) (by rw [e885]; exact Ar887.1) (State.isArrayOf_alike hZ.alike Ar887.2.1) rfl Ar887.2.2 hin887 (H887.at hin887 rfl) (g := (mkF m 5 #[sR a1, sR fa, sI 1, sU, sU, sU, sU, sU, sU, sU] [(.int (1 : Int32)), (.ref PP)])) rfl rfl (hb hby dp22_3_5) _ ?_
        show Sg p e below (T885.setTop (mkF m 6 #[sR a1, sR fa, sI 1, sU, sU, sU, sU, sU, sU, sU] [(.ref f1)])) _
        refine XS.astoreN X885.here hx rfl (hb hby dp22_3_6) rfl rfl (l' := #[sR a1, sR fa, sI 1, sR f1, sU, sU, sU, sU, sU, sU]) rfl ?_
        refine XS.aloadN X885.here hx rfl (hb hby dp22_3_7) rfl rfl ?_
        show Sg p e below (T885.setTop (mkF m 8 #[sR a1, sR fa, sI 1, sR f1, sU, sU, sU, sU, sU, sU] [(.ref fa)])) _
        exact st888 _ k)
      obtain ⟨cl890, Ar890, -, S890, N890, H890, -⟩ := id AWW
      have hin890 : ¬ ((1 : Int32) < 0 ∨ cl890.slots.size ≤ ((1 : Int32)).toNatClampNeg) := inb_of S890 ⟨by decide, by decide⟩
      have P891 : Rg p e below (T888.setTop (mkF m 24 #[sR a1, sR fa, sI 1, sR f1, sR g1, sI 0, sI 0, sI 0, sU, sU] [])) B0 := fun t k => P889 t (by
        refine XS.iloadN X888.here hx rfl (hb hby dp22_3_11) rfl ?_
        show Sg p e below (T888.setTop (mkF m 12 #[sR a1, sR fa, sI 1, sR f1, sU, sU, sU, sU, sU, sU] [(.int (1 : Int32)), (.ref WW)])) _
        refine X888.aaload hx (j := (1 : Int32)) (v := (.ref g1)) (by rw [e888]; exact Ar890.1) (State.isArrayOf_alike hZ.alike Ar890.2.1) rfl Ar890.2.2 hin890 (H890.at hin890 rfl) (g := (mkF m 12 #[sR a1, sR fa, sI 1, sR f1, sU, sU, sU, sU, sU, sU] [(.int (1 : Int32)), (.ref WW)])) rfl rfl (hb hby dp22_3_12) _ ?_
        show Sg p e below (T888.setTop (mkF m 13 #[sR a1, sR fa, sI 1, sR f1, sU, sU, sU, sU, sU, sU] [(.ref g1)])) _
        refine XS.astore X888.here hx rfl (hb hby dp22_3_13) rfl rfl (l' := #[sR a1, sR fa, sI 1, sR f1, sR g1, sU, sU, sU, sU, sU]) rfl ?_
        refine XS.iconst X888.here hx rfl (hb hby dp22_3_15) ?_
        refine XS.istore X888.here hx rfl (hb hby dp22_3_16) rfl (l' := #[sR a1, sR fa, sI 1, sR f1, sR g1, sI 0, sU, sU, sU, sU]) rfl ?_
        refine XS.iconst X888.here hx rfl (hb hby dp22_3_18) ?_
        refine XS.istore X888.here hx rfl (hb hby dp22_3_19) rfl (l' := #[sR a1, sR fa, sI 1, sR f1, sR g1, sI 0, sI 0, sU, sU, sU]) rfl ?_
        refine XS.iconst X888.here hx rfl (hb hby dp22_3_21) ?_
        refine XS.istore X888.here hx rfl (hb hby dp22_3_22) rfl (l' := #[sR a1, sR fa, sI 1, sR f1, sR g1, sI 0, sI 0, sI 0, sU, sU]) rfl ?_
        show Sg p e below (T888.setTop (mkF m 24 #[sR a1, sR fa, sI 1, sR f1, sR g1, sI 0, sI 0, sI 0, sU, sU] [])) _
        exact k)
      obtain ⟨T892, h892, L892, X892, e892, Nq892, K892, st892⟩ := pc_rth a1 fa f1 g1 kf (1 : Int32) (2 : Int32) (1 : Int32) (0 : Int32) (0 : Int32) (0 : Int32) [(.int q0), (.int q1)] sU sU X888 hx hZ hw hby hml hown e888 N0 Z0 (Nat.le_of_ble_eq_true rfl) (Nat.le_of_ble_eq_true rfl) (by decide) (by decide) Fc Af (by decide) (by decide)
      have P893 : Rg p e below (T892.setTop (mkF m 40 #[sR a1, sR fa, sI 1, sR f1, sR g1, sI 0, sI 0, sI 0, sU, sU] [])) B0 := fun t k => P891 t (by
        exact st892 _ k)
      have Z894 : n0 ≤ h892.size := Nat.le_trans Z0 K892.1
      have K895 : Keep h0 h892 [a1, P, W] := (Keep.refl h0 [a1, P, W]).trans K892 (all0)
      by_cases q896 : q0 < x0
      · skip
        have tq896 := Int32.lt_iff_toInt_lt.mp q896
        have f897 := (E1.keep K892)
        have f898 := (EP.keep K892)
        have f899 := (EW1.keep K892)
        have f900 := (Fp.keep K892 nin0)
        have f901 := (Fw.keep K892 nin0)
        have f902 := (Af.keep K892 nin0)
        have f903 := (Ag.keep K892 nin0)
        have f904 := (AP.keep K892 nin0)
        have f905 := (AW.keep K892 nin0)
        obtain ⟨T906, h906, L906, X906, e906, Nq906, K906, st906⟩ := pc_rtv a1 fa f1 g1 P W kf kg kP kW (1 : Int32) (2 : Int32) M (0 : Int32) (0 : Int32) (0 : Int32) q0 x0 y0 v0 [(.int q0), (.int q1)] [(.long v0), (.long v1)] (([x0] ++ ur).map Value.int) (([y0] ++ vr).map Value.long) sU sU X892 hx hZ hw hby hml hown e892 Nq892 Z894 (Nat.le_of_ble_eq_true rfl) (Nat.le_of_ble_eq_true rfl) (by decide) (by decide) g_P g_W f897 f898 f899 f900 f901 f902 f903 f904 f905 (by decide) ⟨by decide, by decide⟩ rfl rfl (own_inb hM (k := 0) (by simp) hm) rfl rfl (Or.inl ⟨rfl, rfl⟩) q896
        have P907 : Rg p e below (T906.setTop (mkF m 40 #[sR a1, sR fa, sI 1, sR f1, sR g1, sI 0, sI 1, sI 0, sU, sU] [])) B0 := fun t k => P893 t (by
          exact st906 _ k)
        have Z908 : n0 ≤ h906.size := Nat.le_trans Z894 K906.1
        have K909 : Keep h0 h906 [a1, P, W] := K895.trans K906 (all0)
        by_cases q910 : q1 < x0
        · skip
          have tq910 := Int32.lt_iff_toInt_lt.mp q910
          have f911 := (f897.keep K906)
          have f912 := (f898.keep K906)
          have f913 := (f899.keep K906)
          have f914 := (f900.keep K906 nin0)
          have f915 := (f901.keep K906 nin0)
          have f916 := (f902.keep K906 nin0)
          have f917 := (f903.keep K906 nin0)
          have f918 := (f904.keep K906 nin0)
          have f919 := (f905.keep K906 nin0)
          obtain ⟨T920, h920, L920, X920, e920, Nq920, K920, st920⟩ := pc_rtv a1 fa f1 g1 P W kf kg kP kW (1 : Int32) (2 : Int32) M (0 : Int32) (1 : Int32) (0 : Int32) q1 x0 y0 v1 [(.int q0), (.int q1)] [(.long v0), (.long v1)] (([x0] ++ ur).map Value.int) (([y0] ++ vr).map Value.long) sU sU X906 hx hZ hw hby hml hown e906 Nq906 Z908 (Nat.le_of_ble_eq_true rfl) (Nat.le_of_ble_eq_true rfl) (by decide) (by decide) g_P g_W f911 f912 f913 f914 f915 f916 f917 f918 f919 (by decide) ⟨by decide, by decide⟩ rfl rfl (own_inb hM (k := 0) (by simp) hm) rfl rfl (Or.inl ⟨rfl, rfl⟩) q910
          have P921 : Rg p e below (T920.setTop (mkF m 40 #[sR a1, sR fa, sI 1, sR f1, sR g1, sI 0, sI 2, sI 0, sU, sU] [])) B0 := fun t k => P907 t (by
            exact st920 _ k)
          have Z922 : n0 ≤ h920.size := Nat.le_trans Z908 K920.1
          have K923 : Keep h0 h920 [a1, P, W] := K909.trans K920 (all0)
          have f924 := (f916.keep K920 nin0)
          obtain ⟨T925, h925, L925, X925, e925, Nq925, K925, st925⟩ := pc_rtd a1 fa f1 g1 kf (1 : Int32) (2 : Int32) (0 : Int32) (2 : Int32) (0 : Int32) [(.int q0), (.int q1)] sU sU X920 hx hZ hw hby hml hown e920 Nq920 Z922 (Nat.le_of_ble_eq_true rfl) (Nat.le_of_ble_eq_true rfl) (by decide) (by decide) f924 (by decide)
          have P926 : Rg p e below (T925.setTop (mkF m 24 #[sR a1, sR fa, sI 1, sR f1, sR g1, sI 0, sI 2, sI 1, sU, sU] [])) B0 := fun t k => P921 t (by
            exact st925 _ k)
          have Z927 : n0 ≤ h925.size := Nat.le_trans Z922 K925.1
          have K928 : Keep h0 h925 [a1, P, W] := K923.trans K925 (all0)
          have f929 := ((((Fc.keep K892 nin0).keep K906 nin0).keep K920 nin0).keep K925 nin0)
          obtain ⟨T930, X930, e930, st930⟩ := getF X925 hx hZ hown (host := "") (Or.inl (own_hw hw 48 rfl)) Via.refl e925 f929 (g := (mkF m 27 #[sR a1, sR fa, sI 1, sR f1, sR g1, sI 0, sI 2, sI 1, sU, sU] [(.ref a1), (.int (1 : Int32))])) rfl rfl (hb hby dp22_3_27)
          have P931 : Rg p e below (T930.setTop (mkF m 30 #[sR a1, sR fa, sI 1, sR f1, sR g1, sI 0, sI 2, sI 1, sU, sU] [(.int (1 : Int32)), (.int (1 : Int32))])) B0 := fun t k => P926 t (by
            refine XS.iload X925.here hx rfl (hb hby dp22_3_24) rfl ?_
            refine XS.aloadN X925.here hx rfl (hb hby dp22_3_26) rfl rfl ?_
            show Sg p e below (T925.setTop (mkF m 27 #[sR a1, sR fa, sI 1, sR f1, sR g1, sI 0, sI 2, sI 1, sU, sU] [(.ref a1), (.int (1 : Int32))])) _
            exact st930 _ k)
          have lk0 : own_look [q0, q1] [v0, v1] x0 = 0 := by simp only [own_look]; rw [if_neg (fun e => by have e' := congrArg Int32.toInt e; omega), if_neg (fun e => by have e' := congrArg Int32.toInt e; omega)]
          have r0 : y0 &&& own_look [q0, q1] [v0, v1] x0 = 0 := by rw [lk0]; exact own_and0 _
          have f932 := ((f911.keep K920).keep K925)
          have f933 := ((f912.keep K920).keep K925)
          have f934 := ((f913.keep K920).keep K925)
          have f935 := ((f914.keep K920 nin0).keep K925 nin0)
          have f936 := ((f915.keep K920 nin0).keep K925 nin0)
          have f937 := ((f918.keep K920 nin0).keep K925 nin0)
          have f938 := ((f919.keep K920 nin0).keep K925 nin0)
          have P939 : Rg p e below (T930.setTop (mkF m 142 #[sR a1, sR fa, sI 1, sR f1, sR g1, sI 0, sI 2, sI 1, sU, sU] [])) B0 := fun t k => P931 t (by
            refine XS.icmpYes X930.here hx rfl (pc0 := 30) (pc' := 142) rfl (hb hby dp22_3_30) rfl (flt (show ¬ ((1 : Int32) < (1 : Int32)) from (by decide))).2.1 (by decide) (by decide) ?_
            show Sg p e below (T930.setTop (mkF m 142 #[sR a1, sR fa, sI 1, sR f1, sR g1, sI 0, sI 2, sI 1, sU, sU] [])) _
            exact k)
          obtain ⟨T940, h940, L940, X940, e940, Nq940, K940, u940_0, u940_1, u940_2, u940_3, u940_4, st940⟩ := pc_rtx a1 fa f1 g1 P W kP kW (1 : Int32) M (1 : Int32) (0 : Int32) (2 : Int32) (1 : Int32) (([x0] ++ ur).map Value.int) (([y0] ++ vr).map Value.long) sU sU X930 hx hZ hw hby hml hown e930 Nq925 Z927 (Nat.le_of_ble_eq_true rfl) (Nat.le_of_ble_eq_true rfl) (by decide) (by decide) g_a1 f932 f933 f934 f935 f936 f929 f937 f938
          have P941 : Rg p e below (T940.setTop (mkF m 148 #[sR a1, sR fa, sI 1, sR f1, sR g1, sI 0, sI 2, sI 1, sU, sU] [])) B0 := fun t k => P939 t (by
            exact st940 _ k)
          have Z942 : n0 ≤ h940.size := Nat.le_trans Z927 K940.1
          have K943 : Keep h0 h940 [a1, P, W] := K928.trans K940 ((allS (Or.inl (List.mem_of_getElem? (i := 0) rfl)) all0))
          obtain ⟨fs944, hr944, hrun944, hended944, hW944, hsame944⟩ := X940.leave (v := none) (fun _ => rfl)
          refine ⟨_, _, pre0 _ (P941 _ ?_), hrun944, hended944, _, _, rfl, ?_, ⟨⟨_, rfl⟩, hW944, hsame944.mono (Nat.le_of_ble_eq_true rfl) (Nat.le_of_ble_eq_true rfl)⟩⟩
          · show Sg p e below (T940.setTop (mkF m 148 #[sR a1, sR fa, sI 1, sR f1, sR g1, sI 0, sI 2, sI 1, sU, sU] [])) _
            exact X940.returnOut hx Bd.returns (hb hby dp22_3_148) hr944
          · show Q_ret Z a1 P W kP kW M [x0] ur [y0] [q0, q1] [v0, v1] h0 n0 _ T940.heap _
            rw [e940]
            exact ⟨rfl, Nq940, K943, [], [x0] ++ ur, [], [y0] ++ vr, (0 : Int32), by rw [own_rp, if_pos r0]; rfl, by rw [own_rw, if_pos r0]; rfl, rfl, by simp, rfl, by simp [hv], u940_0, u940_1, u940_2, u940_3, u940_4⟩
        · skip
          have tq910 : ¬ q1.toInt < x0.toInt := fun y => q910 (Int32.lt_iff_toInt_lt.mpr y)
          by_cases q945 : q1 = x0
          · skip
            have hit0 := q945
            have thit0 := congrArg Int32.toInt q945
            by_cases q946 : y0 &&& v1 = (0 : Int64)
            · skip
              have f947 := (f897.keep K906)
              have f948 := (f898.keep K906)
              have f949 := (f899.keep K906)
              have f950 := (f900.keep K906 nin0)
              have f951 := (f901.keep K906 nin0)
              have f952 := (f902.keep K906 nin0)
              have f953 := (f903.keep K906 nin0)
              have f954 := (f904.keep K906 nin0)
              have f955 := (f905.keep K906 nin0)
              obtain ⟨T956, h956, L956, X956, e956, Nq956, K956, st956⟩ := pc_rtz a1 fa f1 g1 P W kf kg kP kW (1 : Int32) (2 : Int32) M (0 : Int32) (1 : Int32) (0 : Int32) q1 x0 y0 v1 [(.int q0), (.int q1)] [(.long v0), (.long v1)] (([x0] ++ ur).map Value.int) (([y0] ++ vr).map Value.long) sU sU X906 hx hZ hw hby hml hown e906 Nq906 Z908 (Nat.le_of_ble_eq_true rfl) (Nat.le_of_ble_eq_true rfl) (by decide) (by decide) g_P g_W f947 f948 f949 f950 f951 f952 f953 f954 f955 (by decide) ⟨by decide, by decide⟩ rfl rfl (own_inb hM (k := 0) (by simp) hm) rfl rfl (Or.inl ⟨rfl, rfl⟩) q910 q945 q946
              have P957 : Rg p e below (T956.setTop (mkF m 24 #[sR a1, sR fa, sI 1, sR f1, sR g1, sI 0, sI 1, sI 1, .val (.long (y0 &&& v1)), .second] [])) B0 := fun t k => P907 t (by
                exact st956 _ k)
              have Z958 : n0 ≤ h956.size := Nat.le_trans Z908 K956.1
              have K959 : Keep h0 h956 [a1, P, W] := K909.trans K956 (all0)
              have f960 := (((Fc.keep K892 nin0).keep K906 nin0).keep K956 nin0)
              obtain ⟨T961, X961, e961, st961⟩ := getF X956 hx hZ hown (host := "") (Or.inl (own_hw hw 48 rfl)) Via.refl e956 f960 (g := (mkF m 27 #[sR a1, sR fa, sI 1, sR f1, sR g1, sI 0, sI 1, sI 1, .val (.long (y0 &&& v1)), .second] [(.ref a1), (.int (1 : Int32))])) rfl rfl (hb hby dp22_3_27)
              have P962 : Rg p e below (T961.setTop (mkF m 30 #[sR a1, sR fa, sI 1, sR f1, sR g1, sI 0, sI 1, sI 1, .val (.long (y0 &&& v1)), .second] [(.int (1 : Int32)), (.int (1 : Int32))])) B0 := fun t k => P957 t (by
                refine XS.iload X956.here hx rfl (hb hby dp22_3_24) rfl ?_
                refine XS.aloadN X956.here hx rfl (hb hby dp22_3_26) rfl rfl ?_
                show Sg p e below (T956.setTop (mkF m 27 #[sR a1, sR fa, sI 1, sR f1, sR g1, sI 0, sI 1, sI 1, .val (.long (y0 &&& v1)), .second] [(.ref a1), (.int (1 : Int32))])) _
                exact st961 _ k)
              have lk0 : own_look [q0, q1] [v0, v1] x0 = v1 := by simp only [own_look]; rw [if_neg (fun e => by have e' := congrArg Int32.toInt e; omega), if_pos q945]
              have r0 : y0 &&& own_look [q0, q1] [v0, v1] x0 = 0 := by rw [lk0]; exact q946
              have f963 := (f947.keep K956)
              have f964 := (f948.keep K956)
              have f965 := (f949.keep K956)
              have f966 := (f950.keep K956 nin0)
              have f967 := (f951.keep K956 nin0)
              have f968 := (f954.keep K956 nin0)
              have f969 := (f955.keep K956 nin0)
              have P970 : Rg p e below (T961.setTop (mkF m 142 #[sR a1, sR fa, sI 1, sR f1, sR g1, sI 0, sI 1, sI 1, .val (.long (y0 &&& v1)), .second] [])) B0 := fun t k => P962 t (by
                refine XS.icmpYes X961.here hx rfl (pc0 := 30) (pc' := 142) rfl (hb hby dp22_3_30) rfl (flt (show ¬ ((1 : Int32) < (1 : Int32)) from (by decide))).2.1 (by decide) (by decide) ?_
                show Sg p e below (T961.setTop (mkF m 142 #[sR a1, sR fa, sI 1, sR f1, sR g1, sI 0, sI 1, sI 1, .val (.long (y0 &&& v1)), .second] [])) _
                exact k)
              obtain ⟨T971, h971, L971, X971, e971, Nq971, K971, u971_0, u971_1, u971_2, u971_3, u971_4, st971⟩ := pc_rtx a1 fa f1 g1 P W kP kW (1 : Int32) M (1 : Int32) (0 : Int32) (1 : Int32) (1 : Int32) (([x0] ++ ur).map Value.int) (([y0] ++ vr).map Value.long) (.val (.long (y0 &&& v1))) .second X961 hx hZ hw hby hml hown e961 Nq956 Z958 (Nat.le_of_ble_eq_true rfl) (Nat.le_of_ble_eq_true rfl) (by decide) (by decide) g_a1 f963 f964 f965 f966 f967 f960 f968 f969
              have P972 : Rg p e below (T971.setTop (mkF m 148 #[sR a1, sR fa, sI 1, sR f1, sR g1, sI 0, sI 1, sI 1, .val (.long (y0 &&& v1)), .second] [])) B0 := fun t k => P970 t (by
                exact st971 _ k)
              have Z973 : n0 ≤ h971.size := Nat.le_trans Z958 K971.1
              have K974 : Keep h0 h971 [a1, P, W] := K959.trans K971 ((allS (Or.inl (List.mem_of_getElem? (i := 0) rfl)) all0))
              obtain ⟨fs975, hr975, hrun975, hended975, hW975, hsame975⟩ := X971.leave (v := none) (fun _ => rfl)
              refine ⟨_, _, pre0 _ (P972 _ ?_), hrun975, hended975, _, _, rfl, ?_, ⟨⟨_, rfl⟩, hW975, hsame975.mono (Nat.le_of_ble_eq_true rfl) (Nat.le_of_ble_eq_true rfl)⟩⟩
              · show Sg p e below (T971.setTop (mkF m 148 #[sR a1, sR fa, sI 1, sR f1, sR g1, sI 0, sI 1, sI 1, .val (.long (y0 &&& v1)), .second] [])) _
                exact X971.returnOut hx Bd.returns (hb hby dp22_3_148) hr975
              · show Q_ret Z a1 P W kP kW M [x0] ur [y0] [q0, q1] [v0, v1] h0 n0 _ T971.heap _
                rw [e971]
                exact ⟨rfl, Nq971, K974, [], [x0] ++ ur, [], [y0] ++ vr, (0 : Int32), by rw [own_rp, if_pos r0]; rfl, by rw [own_rw, if_pos r0]; rfl, rfl, by simp, rfl, by simp [hv], u971_0, u971_1, u971_2, u971_3, u971_4⟩
            · skip
              have f976 := (f897.keep K906)
              have f977 := (f898.keep K906)
              have f978 := (f899.keep K906)
              have f979 := (f900.keep K906 nin0)
              have f980 := (f901.keep K906 nin0)
              have f981 := (f902.keep K906 nin0)
              have f982 := (f903.keep K906 nin0)
              have f983 := (f904.keep K906 nin0)
              have f984 := (f905.keep K906 nin0)
              obtain ⟨T985, h985, L985, X985, e985, Nq985, K985, u985_0, u985_1, st985⟩ := pc_rtk a1 fa f1 g1 P W kf kg kP kW (1 : Int32) (2 : Int32) M (0 : Int32) (1 : Int32) (0 : Int32) q1 x0 y0 v1 [(.int q0), (.int q1)] [(.long v0), (.long v1)] (([x0] ++ ur).map Value.int) (([y0] ++ vr).map Value.long) sU sU 0 X906 hx hZ hw hby hml hown e906 Nq906 Z908 (Nat.le_of_ble_eq_true rfl) (Nat.le_of_ble_eq_true rfl) (by decide) (by decide) g_P g_W f976 f977 f978 f979 f980 f981 f982 f983 f984 (by decide) ⟨by decide, by decide⟩ rfl rfl (own_inb hM (k := 0) (by simp) hm) rfl rfl (Or.inl ⟨rfl, rfl⟩) q910 q945 q946 (own_inb hM (k := 0) (by simp) hm) rfl (by simp) (by simp)
              have P986 : Rg p e below (T985.setTop (mkF m 24 #[sR a1, sR fa, sI 1, sR f1, sR g1, sI 1, sI 1, sI 1, .val (.long (y0 &&& v1)), .second] [])) B0 := fun t k => P907 t (by
                exact st985 _ k)
              have Z987 : n0 ≤ h985.size := Nat.le_trans Z908 K985.1
              have K988 : Keep h0 h985 [a1, P, W] := K909.trans K985 ((allS (Or.inl (List.mem_of_getElem? (i := 1) rfl)) (allS (Or.inl (List.mem_of_getElem? (i := 2) rfl)) all0)))
              have AP985 : Arv Z h985 P kP .int M (([x0] ++ ur).map Value.int) (.int (0 : Int32)) := u985_0
              have AW985 : Arv Z h985 W kW .long M (([(y0 &&& v1)] ++ vr).map Value.long) (.long (0 : Int64)) := u985_1
              have f989 := (((Fc.keep K892 nin0).keep K906 nin0).keep K985 (ninS (Exa.ne E1 EP (by decide)) (ninS (Exa.ne E1 EW1 (by decide)) nin0)))
              obtain ⟨T990, X990, e990, st990⟩ := getF X985 hx hZ hown (host := "") (Or.inl (own_hw hw 48 rfl)) Via.refl e985 f989 (g := (mkF m 27 #[sR a1, sR fa, sI 1, sR f1, sR g1, sI 1, sI 1, sI 1, .val (.long (y0 &&& v1)), .second] [(.ref a1), (.int (1 : Int32))])) rfl rfl (hb hby dp22_3_27)
              have P991 : Rg p e below (T990.setTop (mkF m 30 #[sR a1, sR fa, sI 1, sR f1, sR g1, sI 1, sI 1, sI 1, .val (.long (y0 &&& v1)), .second] [(.int (1 : Int32)), (.int (1 : Int32))])) B0 := fun t k => P986 t (by
                refine XS.iload X985.here hx rfl (hb hby dp22_3_24) rfl ?_
                refine XS.aloadN X985.here hx rfl (hb hby dp22_3_26) rfl rfl ?_
                show Sg p e below (T985.setTop (mkF m 27 #[sR a1, sR fa, sI 1, sR f1, sR g1, sI 1, sI 1, sI 1, .val (.long (y0 &&& v1)), .second] [(.ref a1), (.int (1 : Int32))])) _
                exact st990 _ k)
              have lk0 : own_look [q0, q1] [v0, v1] x0 = v1 := by simp only [own_look]; rw [if_neg (fun e => by have e' := congrArg Int32.toInt e; omega), if_pos q945]
              have r0 : ¬ y0 &&& own_look [q0, q1] [v0, v1] x0 = 0 := by rw [lk0]; exact q946
              have f992 := (f976.keep K985)
              have f993 := (f977.keep K985)
              have f994 := (f978.keep K985)
              have f995 := (f979.keep K985 (ninS (Exa.ne E1 EP (by decide)) (ninS (Exa.ne E1 EW1 (by decide)) nin0)))
              have f996 := (f980.keep K985 (ninS (Exa.ne E1 EP (by decide)) (ninS (Exa.ne E1 EW1 (by decide)) nin0)))
              have P997 : Rg p e below (T990.setTop (mkF m 142 #[sR a1, sR fa, sI 1, sR f1, sR g1, sI 1, sI 1, sI 1, .val (.long (y0 &&& v1)), .second] [])) B0 := fun t k => P991 t (by
                refine XS.icmpYes X990.here hx rfl (pc0 := 30) (pc' := 142) rfl (hb hby dp22_3_30) rfl (flt (show ¬ ((1 : Int32) < (1 : Int32)) from (by decide))).2.1 (by decide) (by decide) ?_
                show Sg p e below (T990.setTop (mkF m 142 #[sR a1, sR fa, sI 1, sR f1, sR g1, sI 1, sI 1, sI 1, .val (.long (y0 &&& v1)), .second] [])) _
                exact k)
              obtain ⟨T998, h998, L998, X998, e998, Nq998, K998, u998_0, u998_1, u998_2, u998_3, u998_4, st998⟩ := pc_rtx a1 fa f1 g1 P W kP kW (1 : Int32) M (1 : Int32) (1 : Int32) (1 : Int32) (1 : Int32) (([x0] ++ ur).map Value.int) (([(y0 &&& v1)] ++ vr).map Value.long) (.val (.long (y0 &&& v1))) .second X990 hx hZ hw hby hml hown e990 Nq985 Z987 (Nat.le_of_ble_eq_true rfl) (Nat.le_of_ble_eq_true rfl) (by decide) (by decide) g_a1 f992 f993 f994 f995 f996 f989 AP985 AW985
              have P999 : Rg p e below (T998.setTop (mkF m 148 #[sR a1, sR fa, sI 1, sR f1, sR g1, sI 1, sI 1, sI 1, .val (.long (y0 &&& v1)), .second] [])) B0 := fun t k => P997 t (by
                exact st998 _ k)
              have Z1000 : n0 ≤ h998.size := Nat.le_trans Z987 K998.1
              have K1001 : Keep h0 h998 [a1, P, W] := K988.trans K998 ((allS (Or.inl (List.mem_of_getElem? (i := 0) rfl)) all0))
              obtain ⟨fs1002, hr1002, hrun1002, hended1002, hW1002, hsame1002⟩ := X998.leave (v := none) (fun _ => rfl)
              refine ⟨_, _, pre0 _ (P999 _ ?_), hrun1002, hended1002, _, _, rfl, ?_, ⟨⟨_, rfl⟩, hW1002, hsame1002.mono (Nat.le_of_ble_eq_true rfl) (Nat.le_of_ble_eq_true rfl)⟩⟩
              · show Sg p e below (T998.setTop (mkF m 148 #[sR a1, sR fa, sI 1, sR f1, sR g1, sI 1, sI 1, sI 1, .val (.long (y0 &&& v1)), .second] [])) _
                exact X998.returnOut hx Bd.returns (hb hby dp22_3_148) hr1002
              · show Q_ret Z a1 P W kP kW M [x0] ur [y0] [q0, q1] [v0, v1] h0 n0 _ T998.heap _
                rw [e998]
                exact ⟨rfl, Nq998, K1001, [x0], [] ++ ur, [(y0 &&& v1)], [] ++ vr, (1 : Int32), by rw [own_rp, if_neg r0]; rfl, by rw [own_rw, if_neg r0, lk0]; rfl, rfl, by simp, rfl, by simp [hv], u998_0, u998_1, u998_2, u998_3, u998_4⟩
          · skip
            have tq945 : ¬ q1.toInt = x0.toInt := fun y => q945 (Int32.toInt_inj.mp y)
            have f1003 := (f897.keep K906)
            have f1004 := (f898.keep K906)
            have f1005 := (f899.keep K906)
            have f1006 := (f900.keep K906 nin0)
            have f1007 := (f901.keep K906 nin0)
            have f1008 := (f902.keep K906 nin0)
            have f1009 := (f903.keep K906 nin0)
            have f1010 := (f904.keep K906 nin0)
            have f1011 := (f905.keep K906 nin0)
            obtain ⟨T1012, h1012, L1012, X1012, e1012, Nq1012, K1012, st1012⟩ := pc_rtn a1 fa f1 g1 P W kf kg kP kW (1 : Int32) (2 : Int32) M (0 : Int32) (1 : Int32) (0 : Int32) q1 x0 y0 v1 [(.int q0), (.int q1)] [(.long v0), (.long v1)] (([x0] ++ ur).map Value.int) (([y0] ++ vr).map Value.long) sU sU X906 hx hZ hw hby hml hown e906 Nq906 Z908 (Nat.le_of_ble_eq_true rfl) (Nat.le_of_ble_eq_true rfl) (by decide) (by decide) g_P g_W f1003 f1004 f1005 f1006 f1007 f1008 f1009 f1010 f1011 (by decide) ⟨by decide, by decide⟩ rfl rfl (own_inb hM (k := 0) (by simp) hm) rfl rfl (Or.inl ⟨rfl, rfl⟩) q910 q945
            have P1013 : Rg p e below (T1012.setTop (mkF m 24 #[sR a1, sR fa, sI 1, sR f1, sR g1, sI 0, sI 1, sI 1, sU, sU] [])) B0 := fun t k => P907 t (by
              exact st1012 _ k)
            have Z1014 : n0 ≤ h1012.size := Nat.le_trans Z908 K1012.1
            have K1015 : Keep h0 h1012 [a1, P, W] := K909.trans K1012 (all0)
            have f1016 := (((Fc.keep K892 nin0).keep K906 nin0).keep K1012 nin0)
            obtain ⟨T1017, X1017, e1017, st1017⟩ := getF X1012 hx hZ hown (host := "") (Or.inl (own_hw hw 48 rfl)) Via.refl e1012 f1016 (g := (mkF m 27 #[sR a1, sR fa, sI 1, sR f1, sR g1, sI 0, sI 1, sI 1, sU, sU] [(.ref a1), (.int (1 : Int32))])) rfl rfl (hb hby dp22_3_27)
            have P1018 : Rg p e below (T1017.setTop (mkF m 30 #[sR a1, sR fa, sI 1, sR f1, sR g1, sI 0, sI 1, sI 1, sU, sU] [(.int (1 : Int32)), (.int (1 : Int32))])) B0 := fun t k => P1013 t (by
              refine XS.iload X1012.here hx rfl (hb hby dp22_3_24) rfl ?_
              refine XS.aloadN X1012.here hx rfl (hb hby dp22_3_26) rfl rfl ?_
              show Sg p e below (T1012.setTop (mkF m 27 #[sR a1, sR fa, sI 1, sR f1, sR g1, sI 0, sI 1, sI 1, sU, sU] [(.ref a1), (.int (1 : Int32))])) _
              exact st1017 _ k)
            have lk0 : own_look [q0, q1] [v0, v1] x0 = 0 := by simp only [own_look]; rw [if_neg (fun e => by have e' := congrArg Int32.toInt e; omega), if_neg (fun e => by have e' := congrArg Int32.toInt e; omega)]
            have r0 : y0 &&& own_look [q0, q1] [v0, v1] x0 = 0 := by rw [lk0]; exact own_and0 _
            have f1019 := (f1003.keep K1012)
            have f1020 := (f1004.keep K1012)
            have f1021 := (f1005.keep K1012)
            have f1022 := (f1006.keep K1012 nin0)
            have f1023 := (f1007.keep K1012 nin0)
            have f1024 := (f1010.keep K1012 nin0)
            have f1025 := (f1011.keep K1012 nin0)
            have P1026 : Rg p e below (T1017.setTop (mkF m 142 #[sR a1, sR fa, sI 1, sR f1, sR g1, sI 0, sI 1, sI 1, sU, sU] [])) B0 := fun t k => P1018 t (by
              refine XS.icmpYes X1017.here hx rfl (pc0 := 30) (pc' := 142) rfl (hb hby dp22_3_30) rfl (flt (show ¬ ((1 : Int32) < (1 : Int32)) from (by decide))).2.1 (by decide) (by decide) ?_
              show Sg p e below (T1017.setTop (mkF m 142 #[sR a1, sR fa, sI 1, sR f1, sR g1, sI 0, sI 1, sI 1, sU, sU] [])) _
              exact k)
            obtain ⟨T1027, h1027, L1027, X1027, e1027, Nq1027, K1027, u1027_0, u1027_1, u1027_2, u1027_3, u1027_4, st1027⟩ := pc_rtx a1 fa f1 g1 P W kP kW (1 : Int32) M (1 : Int32) (0 : Int32) (1 : Int32) (1 : Int32) (([x0] ++ ur).map Value.int) (([y0] ++ vr).map Value.long) sU sU X1017 hx hZ hw hby hml hown e1017 Nq1012 Z1014 (Nat.le_of_ble_eq_true rfl) (Nat.le_of_ble_eq_true rfl) (by decide) (by decide) g_a1 f1019 f1020 f1021 f1022 f1023 f1016 f1024 f1025
            have P1028 : Rg p e below (T1027.setTop (mkF m 148 #[sR a1, sR fa, sI 1, sR f1, sR g1, sI 0, sI 1, sI 1, sU, sU] [])) B0 := fun t k => P1026 t (by
              exact st1027 _ k)
            have Z1029 : n0 ≤ h1027.size := Nat.le_trans Z1014 K1027.1
            have K1030 : Keep h0 h1027 [a1, P, W] := K1015.trans K1027 ((allS (Or.inl (List.mem_of_getElem? (i := 0) rfl)) all0))
            obtain ⟨fs1031, hr1031, hrun1031, hended1031, hW1031, hsame1031⟩ := X1027.leave (v := none) (fun _ => rfl)
            refine ⟨_, _, pre0 _ (P1028 _ ?_), hrun1031, hended1031, _, _, rfl, ?_, ⟨⟨_, rfl⟩, hW1031, hsame1031.mono (Nat.le_of_ble_eq_true rfl) (Nat.le_of_ble_eq_true rfl)⟩⟩
            · show Sg p e below (T1027.setTop (mkF m 148 #[sR a1, sR fa, sI 1, sR f1, sR g1, sI 0, sI 1, sI 1, sU, sU] [])) _
              exact X1027.returnOut hx Bd.returns (hb hby dp22_3_148) hr1031
            · show Q_ret Z a1 P W kP kW M [x0] ur [y0] [q0, q1] [v0, v1] h0 n0 _ T1027.heap _
              rw [e1027]
              exact ⟨rfl, Nq1027, K1030, [], [x0] ++ ur, [], [y0] ++ vr, (0 : Int32), by rw [own_rp, if_pos r0]; rfl, by rw [own_rw, if_pos r0]; rfl, rfl, by simp, rfl, by simp [hv], u1027_0, u1027_1, u1027_2, u1027_3, u1027_4⟩
      · skip
        have tq896 : ¬ q0.toInt < x0.toInt := fun y => q896 (Int32.lt_iff_toInt_lt.mpr y)
        by_cases q1032 : q0 = x0
        · skip
          have hit0 := q1032
          have thit0 := congrArg Int32.toInt q1032
          by_cases q1033 : y0 &&& v0 = (0 : Int64)
          · skip
            have f1034 := (E1.keep K892)
            have f1035 := (EP.keep K892)
            have f1036 := (EW1.keep K892)
            have f1037 := (Fp.keep K892 nin0)
            have f1038 := (Fw.keep K892 nin0)
            have f1039 := (Af.keep K892 nin0)
            have f1040 := (Ag.keep K892 nin0)
            have f1041 := (AP.keep K892 nin0)
            have f1042 := (AW.keep K892 nin0)
            obtain ⟨T1043, h1043, L1043, X1043, e1043, Nq1043, K1043, st1043⟩ := pc_rtz a1 fa f1 g1 P W kf kg kP kW (1 : Int32) (2 : Int32) M (0 : Int32) (0 : Int32) (0 : Int32) q0 x0 y0 v0 [(.int q0), (.int q1)] [(.long v0), (.long v1)] (([x0] ++ ur).map Value.int) (([y0] ++ vr).map Value.long) sU sU X892 hx hZ hw hby hml hown e892 Nq892 Z894 (Nat.le_of_ble_eq_true rfl) (Nat.le_of_ble_eq_true rfl) (by decide) (by decide) g_P g_W f1034 f1035 f1036 f1037 f1038 f1039 f1040 f1041 f1042 (by decide) ⟨by decide, by decide⟩ rfl rfl (own_inb hM (k := 0) (by simp) hm) rfl rfl (Or.inl ⟨rfl, rfl⟩) q896 q1032 q1033
            have P1044 : Rg p e below (T1043.setTop (mkF m 24 #[sR a1, sR fa, sI 1, sR f1, sR g1, sI 0, sI 0, sI 1, .val (.long (y0 &&& v0)), .second] [])) B0 := fun t k => P893 t (by
              exact st1043 _ k)
            have Z1045 : n0 ≤ h1043.size := Nat.le_trans Z894 K1043.1
            have K1046 : Keep h0 h1043 [a1, P, W] := K895.trans K1043 (all0)
            have f1047 := ((Fc.keep K892 nin0).keep K1043 nin0)
            obtain ⟨T1048, X1048, e1048, st1048⟩ := getF X1043 hx hZ hown (host := "") (Or.inl (own_hw hw 48 rfl)) Via.refl e1043 f1047 (g := (mkF m 27 #[sR a1, sR fa, sI 1, sR f1, sR g1, sI 0, sI 0, sI 1, .val (.long (y0 &&& v0)), .second] [(.ref a1), (.int (1 : Int32))])) rfl rfl (hb hby dp22_3_27)
            have P1049 : Rg p e below (T1048.setTop (mkF m 30 #[sR a1, sR fa, sI 1, sR f1, sR g1, sI 0, sI 0, sI 1, .val (.long (y0 &&& v0)), .second] [(.int (1 : Int32)), (.int (1 : Int32))])) B0 := fun t k => P1044 t (by
              refine XS.iload X1043.here hx rfl (hb hby dp22_3_24) rfl ?_
              refine XS.aloadN X1043.here hx rfl (hb hby dp22_3_26) rfl rfl ?_
              show Sg p e below (T1043.setTop (mkF m 27 #[sR a1, sR fa, sI 1, sR f1, sR g1, sI 0, sI 0, sI 1, .val (.long (y0 &&& v0)), .second] [(.ref a1), (.int (1 : Int32))])) _
              exact st1048 _ k)
            have lk0 : own_look [q0, q1] [v0, v1] x0 = v0 := by simp only [own_look]; rw [if_pos q1032]
            have r0 : y0 &&& own_look [q0, q1] [v0, v1] x0 = 0 := by rw [lk0]; exact q1033
            have f1050 := (f1034.keep K1043)
            have f1051 := (f1035.keep K1043)
            have f1052 := (f1036.keep K1043)
            have f1053 := (f1037.keep K1043 nin0)
            have f1054 := (f1038.keep K1043 nin0)
            have f1055 := (f1041.keep K1043 nin0)
            have f1056 := (f1042.keep K1043 nin0)
            have P1057 : Rg p e below (T1048.setTop (mkF m 142 #[sR a1, sR fa, sI 1, sR f1, sR g1, sI 0, sI 0, sI 1, .val (.long (y0 &&& v0)), .second] [])) B0 := fun t k => P1049 t (by
              refine XS.icmpYes X1048.here hx rfl (pc0 := 30) (pc' := 142) rfl (hb hby dp22_3_30) rfl (flt (show ¬ ((1 : Int32) < (1 : Int32)) from (by decide))).2.1 (by decide) (by decide) ?_
              show Sg p e below (T1048.setTop (mkF m 142 #[sR a1, sR fa, sI 1, sR f1, sR g1, sI 0, sI 0, sI 1, .val (.long (y0 &&& v0)), .second] [])) _
              exact k)
            obtain ⟨T1058, h1058, L1058, X1058, e1058, Nq1058, K1058, u1058_0, u1058_1, u1058_2, u1058_3, u1058_4, st1058⟩ := pc_rtx a1 fa f1 g1 P W kP kW (1 : Int32) M (1 : Int32) (0 : Int32) (0 : Int32) (1 : Int32) (([x0] ++ ur).map Value.int) (([y0] ++ vr).map Value.long) (.val (.long (y0 &&& v0))) .second X1048 hx hZ hw hby hml hown e1048 Nq1043 Z1045 (Nat.le_of_ble_eq_true rfl) (Nat.le_of_ble_eq_true rfl) (by decide) (by decide) g_a1 f1050 f1051 f1052 f1053 f1054 f1047 f1055 f1056
            have P1059 : Rg p e below (T1058.setTop (mkF m 148 #[sR a1, sR fa, sI 1, sR f1, sR g1, sI 0, sI 0, sI 1, .val (.long (y0 &&& v0)), .second] [])) B0 := fun t k => P1057 t (by
              exact st1058 _ k)
            have Z1060 : n0 ≤ h1058.size := Nat.le_trans Z1045 K1058.1
            have K1061 : Keep h0 h1058 [a1, P, W] := K1046.trans K1058 ((allS (Or.inl (List.mem_of_getElem? (i := 0) rfl)) all0))
            obtain ⟨fs1062, hr1062, hrun1062, hended1062, hW1062, hsame1062⟩ := X1058.leave (v := none) (fun _ => rfl)
            refine ⟨_, _, pre0 _ (P1059 _ ?_), hrun1062, hended1062, _, _, rfl, ?_, ⟨⟨_, rfl⟩, hW1062, hsame1062.mono (Nat.le_of_ble_eq_true rfl) (Nat.le_of_ble_eq_true rfl)⟩⟩
            · show Sg p e below (T1058.setTop (mkF m 148 #[sR a1, sR fa, sI 1, sR f1, sR g1, sI 0, sI 0, sI 1, .val (.long (y0 &&& v0)), .second] [])) _
              exact X1058.returnOut hx Bd.returns (hb hby dp22_3_148) hr1062
            · show Q_ret Z a1 P W kP kW M [x0] ur [y0] [q0, q1] [v0, v1] h0 n0 _ T1058.heap _
              rw [e1058]
              exact ⟨rfl, Nq1058, K1061, [], [x0] ++ ur, [], [y0] ++ vr, (0 : Int32), by rw [own_rp, if_pos r0]; rfl, by rw [own_rw, if_pos r0]; rfl, rfl, by simp, rfl, by simp [hv], u1058_0, u1058_1, u1058_2, u1058_3, u1058_4⟩
          · skip
            have f1063 := (E1.keep K892)
            have f1064 := (EP.keep K892)
            have f1065 := (EW1.keep K892)
            have f1066 := (Fp.keep K892 nin0)
            have f1067 := (Fw.keep K892 nin0)
            have f1068 := (Af.keep K892 nin0)
            have f1069 := (Ag.keep K892 nin0)
            have f1070 := (AP.keep K892 nin0)
            have f1071 := (AW.keep K892 nin0)
            obtain ⟨T1072, h1072, L1072, X1072, e1072, Nq1072, K1072, u1072_0, u1072_1, st1072⟩ := pc_rtk a1 fa f1 g1 P W kf kg kP kW (1 : Int32) (2 : Int32) M (0 : Int32) (0 : Int32) (0 : Int32) q0 x0 y0 v0 [(.int q0), (.int q1)] [(.long v0), (.long v1)] (([x0] ++ ur).map Value.int) (([y0] ++ vr).map Value.long) sU sU 0 X892 hx hZ hw hby hml hown e892 Nq892 Z894 (Nat.le_of_ble_eq_true rfl) (Nat.le_of_ble_eq_true rfl) (by decide) (by decide) g_P g_W f1063 f1064 f1065 f1066 f1067 f1068 f1069 f1070 f1071 (by decide) ⟨by decide, by decide⟩ rfl rfl (own_inb hM (k := 0) (by simp) hm) rfl rfl (Or.inl ⟨rfl, rfl⟩) q896 q1032 q1033 (own_inb hM (k := 0) (by simp) hm) rfl (by simp) (by simp)
            have P1073 : Rg p e below (T1072.setTop (mkF m 24 #[sR a1, sR fa, sI 1, sR f1, sR g1, sI 1, sI 0, sI 1, .val (.long (y0 &&& v0)), .second] [])) B0 := fun t k => P893 t (by
              exact st1072 _ k)
            have Z1074 : n0 ≤ h1072.size := Nat.le_trans Z894 K1072.1
            have K1075 : Keep h0 h1072 [a1, P, W] := K895.trans K1072 ((allS (Or.inl (List.mem_of_getElem? (i := 1) rfl)) (allS (Or.inl (List.mem_of_getElem? (i := 2) rfl)) all0)))
            have AP1072 : Arv Z h1072 P kP .int M (([x0] ++ ur).map Value.int) (.int (0 : Int32)) := u1072_0
            have AW1072 : Arv Z h1072 W kW .long M (([(y0 &&& v0)] ++ vr).map Value.long) (.long (0 : Int64)) := u1072_1
            have f1076 := ((Fc.keep K892 nin0).keep K1072 (ninS (Exa.ne E1 EP (by decide)) (ninS (Exa.ne E1 EW1 (by decide)) nin0)))
            obtain ⟨T1077, X1077, e1077, st1077⟩ := getF X1072 hx hZ hown (host := "") (Or.inl (own_hw hw 48 rfl)) Via.refl e1072 f1076 (g := (mkF m 27 #[sR a1, sR fa, sI 1, sR f1, sR g1, sI 1, sI 0, sI 1, .val (.long (y0 &&& v0)), .second] [(.ref a1), (.int (1 : Int32))])) rfl rfl (hb hby dp22_3_27)
            have P1078 : Rg p e below (T1077.setTop (mkF m 30 #[sR a1, sR fa, sI 1, sR f1, sR g1, sI 1, sI 0, sI 1, .val (.long (y0 &&& v0)), .second] [(.int (1 : Int32)), (.int (1 : Int32))])) B0 := fun t k => P1073 t (by
              refine XS.iload X1072.here hx rfl (hb hby dp22_3_24) rfl ?_
              refine XS.aloadN X1072.here hx rfl (hb hby dp22_3_26) rfl rfl ?_
              show Sg p e below (T1072.setTop (mkF m 27 #[sR a1, sR fa, sI 1, sR f1, sR g1, sI 1, sI 0, sI 1, .val (.long (y0 &&& v0)), .second] [(.ref a1), (.int (1 : Int32))])) _
              exact st1077 _ k)
            have lk0 : own_look [q0, q1] [v0, v1] x0 = v0 := by simp only [own_look]; rw [if_pos q1032]
            have r0 : ¬ y0 &&& own_look [q0, q1] [v0, v1] x0 = 0 := by rw [lk0]; exact q1033
            have f1079 := (f1063.keep K1072)
            have f1080 := (f1064.keep K1072)
            have f1081 := (f1065.keep K1072)
            have f1082 := (f1066.keep K1072 (ninS (Exa.ne E1 EP (by decide)) (ninS (Exa.ne E1 EW1 (by decide)) nin0)))
            have f1083 := (f1067.keep K1072 (ninS (Exa.ne E1 EP (by decide)) (ninS (Exa.ne E1 EW1 (by decide)) nin0)))
            have P1084 : Rg p e below (T1077.setTop (mkF m 142 #[sR a1, sR fa, sI 1, sR f1, sR g1, sI 1, sI 0, sI 1, .val (.long (y0 &&& v0)), .second] [])) B0 := fun t k => P1078 t (by
              refine XS.icmpYes X1077.here hx rfl (pc0 := 30) (pc' := 142) rfl (hb hby dp22_3_30) rfl (flt (show ¬ ((1 : Int32) < (1 : Int32)) from (by decide))).2.1 (by decide) (by decide) ?_
              show Sg p e below (T1077.setTop (mkF m 142 #[sR a1, sR fa, sI 1, sR f1, sR g1, sI 1, sI 0, sI 1, .val (.long (y0 &&& v0)), .second] [])) _
              exact k)
            obtain ⟨T1085, h1085, L1085, X1085, e1085, Nq1085, K1085, u1085_0, u1085_1, u1085_2, u1085_3, u1085_4, st1085⟩ := pc_rtx a1 fa f1 g1 P W kP kW (1 : Int32) M (1 : Int32) (1 : Int32) (0 : Int32) (1 : Int32) (([x0] ++ ur).map Value.int) (([(y0 &&& v0)] ++ vr).map Value.long) (.val (.long (y0 &&& v0))) .second X1077 hx hZ hw hby hml hown e1077 Nq1072 Z1074 (Nat.le_of_ble_eq_true rfl) (Nat.le_of_ble_eq_true rfl) (by decide) (by decide) g_a1 f1079 f1080 f1081 f1082 f1083 f1076 AP1072 AW1072
            have P1086 : Rg p e below (T1085.setTop (mkF m 148 #[sR a1, sR fa, sI 1, sR f1, sR g1, sI 1, sI 0, sI 1, .val (.long (y0 &&& v0)), .second] [])) B0 := fun t k => P1084 t (by
              exact st1085 _ k)
            have Z1087 : n0 ≤ h1085.size := Nat.le_trans Z1074 K1085.1
            have K1088 : Keep h0 h1085 [a1, P, W] := K1075.trans K1085 ((allS (Or.inl (List.mem_of_getElem? (i := 0) rfl)) all0))
            obtain ⟨fs1089, hr1089, hrun1089, hended1089, hW1089, hsame1089⟩ := X1085.leave (v := none) (fun _ => rfl)
            refine ⟨_, _, pre0 _ (P1086 _ ?_), hrun1089, hended1089, _, _, rfl, ?_, ⟨⟨_, rfl⟩, hW1089, hsame1089.mono (Nat.le_of_ble_eq_true rfl) (Nat.le_of_ble_eq_true rfl)⟩⟩
            · show Sg p e below (T1085.setTop (mkF m 148 #[sR a1, sR fa, sI 1, sR f1, sR g1, sI 1, sI 0, sI 1, .val (.long (y0 &&& v0)), .second] [])) _
              exact X1085.returnOut hx Bd.returns (hb hby dp22_3_148) hr1089
            · show Q_ret Z a1 P W kP kW M [x0] ur [y0] [q0, q1] [v0, v1] h0 n0 _ T1085.heap _
              rw [e1085]
              exact ⟨rfl, Nq1085, K1088, [x0], [] ++ ur, [(y0 &&& v0)], [] ++ vr, (1 : Int32), by rw [own_rp, if_neg r0]; rfl, by rw [own_rw, if_neg r0, lk0]; rfl, rfl, by simp, rfl, by simp [hv], u1085_0, u1085_1, u1085_2, u1085_3, u1085_4⟩
        · skip
          have tq1032 : ¬ q0.toInt = x0.toInt := fun y => q1032 (Int32.toInt_inj.mp y)
          have f1090 := (E1.keep K892)
          have f1091 := (EP.keep K892)
          have f1092 := (EW1.keep K892)
          have f1093 := (Fp.keep K892 nin0)
          have f1094 := (Fw.keep K892 nin0)
          have f1095 := (Af.keep K892 nin0)
          have f1096 := (Ag.keep K892 nin0)
          have f1097 := (AP.keep K892 nin0)
          have f1098 := (AW.keep K892 nin0)
          obtain ⟨T1099, h1099, L1099, X1099, e1099, Nq1099, K1099, st1099⟩ := pc_rtn a1 fa f1 g1 P W kf kg kP kW (1 : Int32) (2 : Int32) M (0 : Int32) (0 : Int32) (0 : Int32) q0 x0 y0 v0 [(.int q0), (.int q1)] [(.long v0), (.long v1)] (([x0] ++ ur).map Value.int) (([y0] ++ vr).map Value.long) sU sU X892 hx hZ hw hby hml hown e892 Nq892 Z894 (Nat.le_of_ble_eq_true rfl) (Nat.le_of_ble_eq_true rfl) (by decide) (by decide) g_P g_W f1090 f1091 f1092 f1093 f1094 f1095 f1096 f1097 f1098 (by decide) ⟨by decide, by decide⟩ rfl rfl (own_inb hM (k := 0) (by simp) hm) rfl rfl (Or.inl ⟨rfl, rfl⟩) q896 q1032
          have P1100 : Rg p e below (T1099.setTop (mkF m 24 #[sR a1, sR fa, sI 1, sR f1, sR g1, sI 0, sI 0, sI 1, sU, sU] [])) B0 := fun t k => P893 t (by
            exact st1099 _ k)
          have Z1101 : n0 ≤ h1099.size := Nat.le_trans Z894 K1099.1
          have K1102 : Keep h0 h1099 [a1, P, W] := K895.trans K1099 (all0)
          have f1103 := ((Fc.keep K892 nin0).keep K1099 nin0)
          obtain ⟨T1104, X1104, e1104, st1104⟩ := getF X1099 hx hZ hown (host := "") (Or.inl (own_hw hw 48 rfl)) Via.refl e1099 f1103 (g := (mkF m 27 #[sR a1, sR fa, sI 1, sR f1, sR g1, sI 0, sI 0, sI 1, sU, sU] [(.ref a1), (.int (1 : Int32))])) rfl rfl (hb hby dp22_3_27)
          have P1105 : Rg p e below (T1104.setTop (mkF m 30 #[sR a1, sR fa, sI 1, sR f1, sR g1, sI 0, sI 0, sI 1, sU, sU] [(.int (1 : Int32)), (.int (1 : Int32))])) B0 := fun t k => P1100 t (by
            refine XS.iload X1099.here hx rfl (hb hby dp22_3_24) rfl ?_
            refine XS.aloadN X1099.here hx rfl (hb hby dp22_3_26) rfl rfl ?_
            show Sg p e below (T1099.setTop (mkF m 27 #[sR a1, sR fa, sI 1, sR f1, sR g1, sI 0, sI 0, sI 1, sU, sU] [(.ref a1), (.int (1 : Int32))])) _
            exact st1104 _ k)
          have lk0 : own_look [q0, q1] [v0, v1] x0 = 0 := by simp only [own_look]; rw [if_neg (fun e => by have e' := congrArg Int32.toInt e; omega), if_neg (fun e => by have e' := congrArg Int32.toInt e; omega)]
          have r0 : y0 &&& own_look [q0, q1] [v0, v1] x0 = 0 := by rw [lk0]; exact own_and0 _
          have f1106 := (f1090.keep K1099)
          have f1107 := (f1091.keep K1099)
          have f1108 := (f1092.keep K1099)
          have f1109 := (f1093.keep K1099 nin0)
          have f1110 := (f1094.keep K1099 nin0)
          have f1111 := (f1097.keep K1099 nin0)
          have f1112 := (f1098.keep K1099 nin0)
          have P1113 : Rg p e below (T1104.setTop (mkF m 142 #[sR a1, sR fa, sI 1, sR f1, sR g1, sI 0, sI 0, sI 1, sU, sU] [])) B0 := fun t k => P1105 t (by
            refine XS.icmpYes X1104.here hx rfl (pc0 := 30) (pc' := 142) rfl (hb hby dp22_3_30) rfl (flt (show ¬ ((1 : Int32) < (1 : Int32)) from (by decide))).2.1 (by decide) (by decide) ?_
            show Sg p e below (T1104.setTop (mkF m 142 #[sR a1, sR fa, sI 1, sR f1, sR g1, sI 0, sI 0, sI 1, sU, sU] [])) _
            exact k)
          obtain ⟨T1114, h1114, L1114, X1114, e1114, Nq1114, K1114, u1114_0, u1114_1, u1114_2, u1114_3, u1114_4, st1114⟩ := pc_rtx a1 fa f1 g1 P W kP kW (1 : Int32) M (1 : Int32) (0 : Int32) (0 : Int32) (1 : Int32) (([x0] ++ ur).map Value.int) (([y0] ++ vr).map Value.long) sU sU X1104 hx hZ hw hby hml hown e1104 Nq1099 Z1101 (Nat.le_of_ble_eq_true rfl) (Nat.le_of_ble_eq_true rfl) (by decide) (by decide) g_a1 f1106 f1107 f1108 f1109 f1110 f1103 f1111 f1112
          have P1115 : Rg p e below (T1114.setTop (mkF m 148 #[sR a1, sR fa, sI 1, sR f1, sR g1, sI 0, sI 0, sI 1, sU, sU] [])) B0 := fun t k => P1113 t (by
            exact st1114 _ k)
          have Z1116 : n0 ≤ h1114.size := Nat.le_trans Z1101 K1114.1
          have K1117 : Keep h0 h1114 [a1, P, W] := K1102.trans K1114 ((allS (Or.inl (List.mem_of_getElem? (i := 0) rfl)) all0))
          obtain ⟨fs1118, hr1118, hrun1118, hended1118, hW1118, hsame1118⟩ := X1114.leave (v := none) (fun _ => rfl)
          refine ⟨_, _, pre0 _ (P1115 _ ?_), hrun1118, hended1118, _, _, rfl, ?_, ⟨⟨_, rfl⟩, hW1118, hsame1118.mono (Nat.le_of_ble_eq_true rfl) (Nat.le_of_ble_eq_true rfl)⟩⟩
          · show Sg p e below (T1114.setTop (mkF m 148 #[sR a1, sR fa, sI 1, sR f1, sR g1, sI 0, sI 0, sI 1, sU, sU] [])) _
            exact X1114.returnOut hx Bd.returns (hb hby dp22_3_148) hr1118
          · show Q_ret Z a1 P W kP kW M [x0] ur [y0] [q0, q1] [v0, v1] h0 n0 _ T1114.heap _
            rw [e1114]
            exact ⟨rfl, Nq1114, K1117, [], [x0] ++ ur, [], [y0] ++ vr, (0 : Int32), by rw [own_rp, if_pos r0]; rfl, by rw [own_rw, if_pos r0]; rfl, rfl, by simp, rfl, by simp [hv], u1114_0, u1114_1, u1114_2, u1114_3, u1114_4⟩
    · exact absurd hq2 (by simp)
  · skip
    have hc' : cn = (2 : Int32) := hc
    subst hc'
    obtain ⟨y0, y1, rfl⟩ := own_len2 hl
    have hx01 := Int32.lt_iff_toInt_lt.mp (own_p2 hs)
    rcases ql with _ | ⟨q0, _ | ⟨q1, _ | ⟨q2, ql⟩⟩⟩
    · skip
      have hN' : N = (0 : Int32) := hNq
      subst hN'
      obtain rfl := own_len0 hvl
      obtain ⟨T1119, X1119, e1119, st1119⟩ := getF X0 hx hZ hown (Or.inr (own_hw hw 46 rfl)) Via.refl e0 Ffp (g := (mkF m 1 #[sR a1, sR fa, sI 1, sU, sU, sU, sU, sU, sU, sU] [(.ref fa)])) rfl rfl (hb hby dp22_3_1)
      have P1120 : Rg p e below (T1119.setTop (mkF m 4 #[sR a1, sR fa, sI 1, sU, sU, sU, sU, sU, sU, sU] [(.ref PP)])) B0 := fun t k => P0 t (by
        refine XS.aloadN X0.here hx rfl (hb hby dp22_3_0) rfl rfl ?_
        show Sg p e below (s₁.setTop (mkF m 1 #[sR a1, sR fa, sI 1, sU, sU, sU, sU, sU, sU, sU] [(.ref fa)])) _
        exact st1119 _ k)
      obtain ⟨cl1121, Ar1121, -, S1121, N1121, H1121, -⟩ := id APP
      have hin1121 : ¬ ((1 : Int32) < 0 ∨ cl1121.slots.size ≤ ((1 : Int32)).toNatClampNeg) := inb_of S1121 ⟨by decide, by decide⟩
      obtain ⟨T1122, X1122, e1122, st1122⟩ := getF X1119 hx hZ hown (Or.inr (own_hw hw 47 rfl)) Via.refl e1119 Ffw (g := (mkF m 8 #[sR a1, sR fa, sI 1, sR f1, sU, sU, sU, sU, sU, sU] [(.ref fa)])) rfl rfl (hb hby dp22_3_8)
      have P1123 : Rg p e below (T1122.setTop (mkF m 11 #[sR a1, sR fa, sI 1, sR f1, sU, sU, sU, sU, sU, sU] [(.ref WW)])) B0 := fun t k => P1120 t (by
        refine XS.iloadN X1119.here hx rfl (hb hby dp22_3_4) rfl ?_
        show Sg p e below (T1119.setTop (mkF m 5 #[sR a1, sR fa, sI 1, sU, sU, sU, sU, sU, sU, sU] [(.int (1 : Int32)), (.ref PP)])) _
        refine X1119.aaload hx (j := (1 : Int32)) (v := (.ref f1)) (by rw [e1119]; exact Ar1121.1) (State.isArrayOf_alike hZ.alike Ar1121.2.1) rfl Ar1121.2.2 hin1121 (H1121.at hin1121 rfl) (g := (mkF m 5 #[sR a1, sR fa, sI 1, sU, sU, sU, sU, sU, sU, sU] [(.int (1 : Int32)), (.ref PP)])) rfl rfl (hb hby dp22_3_5) _ ?_
        show Sg p e below (T1119.setTop (mkF m 6 #[sR a1, sR fa, sI 1, sU, sU, sU, sU, sU, sU, sU] [(.ref f1)])) _
        refine XS.astoreN X1119.here hx rfl (hb hby dp22_3_6) rfl rfl (l' := #[sR a1, sR fa, sI 1, sR f1, sU, sU, sU, sU, sU, sU]) rfl ?_
        refine XS.aloadN X1119.here hx rfl (hb hby dp22_3_7) rfl rfl ?_
        show Sg p e below (T1119.setTop (mkF m 8 #[sR a1, sR fa, sI 1, sR f1, sU, sU, sU, sU, sU, sU] [(.ref fa)])) _
        exact st1122 _ k)
      obtain ⟨cl1124, Ar1124, -, S1124, N1124, H1124, -⟩ := id AWW
      have hin1124 : ¬ ((1 : Int32) < 0 ∨ cl1124.slots.size ≤ ((1 : Int32)).toNatClampNeg) := inb_of S1124 ⟨by decide, by decide⟩
      have P1125 : Rg p e below (T1122.setTop (mkF m 24 #[sR a1, sR fa, sI 1, sR f1, sR g1, sI 0, sI 0, sI 0, sU, sU] [])) B0 := fun t k => P1123 t (by
        refine XS.iloadN X1122.here hx rfl (hb hby dp22_3_11) rfl ?_
        show Sg p e below (T1122.setTop (mkF m 12 #[sR a1, sR fa, sI 1, sR f1, sU, sU, sU, sU, sU, sU] [(.int (1 : Int32)), (.ref WW)])) _
        refine X1122.aaload hx (j := (1 : Int32)) (v := (.ref g1)) (by rw [e1122]; exact Ar1124.1) (State.isArrayOf_alike hZ.alike Ar1124.2.1) rfl Ar1124.2.2 hin1124 (H1124.at hin1124 rfl) (g := (mkF m 12 #[sR a1, sR fa, sI 1, sR f1, sU, sU, sU, sU, sU, sU] [(.int (1 : Int32)), (.ref WW)])) rfl rfl (hb hby dp22_3_12) _ ?_
        show Sg p e below (T1122.setTop (mkF m 13 #[sR a1, sR fa, sI 1, sR f1, sU, sU, sU, sU, sU, sU] [(.ref g1)])) _
        refine XS.astore X1122.here hx rfl (hb hby dp22_3_13) rfl rfl (l' := #[sR a1, sR fa, sI 1, sR f1, sR g1, sU, sU, sU, sU, sU]) rfl ?_
        refine XS.iconst X1122.here hx rfl (hb hby dp22_3_15) ?_
        refine XS.istore X1122.here hx rfl (hb hby dp22_3_16) rfl (l' := #[sR a1, sR fa, sI 1, sR f1, sR g1, sI 0, sU, sU, sU, sU]) rfl ?_
        refine XS.iconst X1122.here hx rfl (hb hby dp22_3_18) ?_
        refine XS.istore X1122.here hx rfl (hb hby dp22_3_19) rfl (l' := #[sR a1, sR fa, sI 1, sR f1, sR g1, sI 0, sI 0, sU, sU, sU]) rfl ?_
        refine XS.iconst X1122.here hx rfl (hb hby dp22_3_21) ?_
        refine XS.istore X1122.here hx rfl (hb hby dp22_3_22) rfl (l' := #[sR a1, sR fa, sI 1, sR f1, sR g1, sI 0, sI 0, sI 0, sU, sU]) rfl ?_
        show Sg p e below (T1122.setTop (mkF m 24 #[sR a1, sR fa, sI 1, sR f1, sR g1, sI 0, sI 0, sI 0, sU, sU] [])) _
        exact k)
      obtain ⟨T1126, X1126, e1126, st1126⟩ := getF X1122 hx hZ hown (host := "") (Or.inl (own_hw hw 48 rfl)) Via.refl e1122 Fc (g := (mkF m 27 #[sR a1, sR fa, sI 1, sR f1, sR g1, sI 0, sI 0, sI 0, sU, sU] [(.ref a1), (.int (0 : Int32))])) rfl rfl (hb hby dp22_3_27)
      have P1127 : Rg p e below (T1126.setTop (mkF m 30 #[sR a1, sR fa, sI 1, sR f1, sR g1, sI 0, sI 0, sI 0, sU, sU] [(.int (2 : Int32)), (.int (0 : Int32))])) B0 := fun t k => P1125 t (by
        refine XS.iload X1122.here hx rfl (hb hby dp22_3_24) rfl ?_
        refine XS.aloadN X1122.here hx rfl (hb hby dp22_3_26) rfl rfl ?_
        show Sg p e below (T1122.setTop (mkF m 27 #[sR a1, sR fa, sI 1, sR f1, sR g1, sI 0, sI 0, sI 0, sU, sU] [(.ref a1), (.int (0 : Int32))])) _
        exact st1126 _ k)
      obtain ⟨cl1128, Ar1128, -, S1128, N1128, -, -⟩ := id Af
      have lk0 : own_look [] [] x0 = 0 := rfl
      have r0 : y0 &&& own_look [] [] x0 = 0 := by rw [lk0]; exact own_and0 _
      have lk1 : own_look [] [] x1 = 0 := rfl
      have r1 : y1 &&& own_look [] [] x1 = 0 := by rw [lk1]; exact own_and0 _
      have P1129 : Rg p e below (T1126.setTop (mkF m 142 #[sR a1, sR fa, sI 1, sR f1, sR g1, sI 0, sI 0, sI 0, sU, sU] [])) B0 := fun t k => P1127 t (by
        refine XS.icmpNo X1126.here hx rfl (hb hby dp22_3_30) rfl (tlt (show (0 : Int32) < (2 : Int32) from (by decide))).2.1 ?_
        refine XS.iload X1126.here hx rfl (hb hby dp22_3_33) rfl ?_
        refine XS.aloadN X1126.here hx rfl (hb hby dp22_3_35) rfl rfl ?_
        show Sg p e below (T1126.setTop (mkF m 36 #[sR a1, sR fa, sI 1, sR f1, sR g1, sI 0, sI 0, sI 0, sU, sU] [(.ref f1), (.int (0 : Int32))])) _
        refine X1126.arraylength hx (by rw [e1126]; exact Ar1128.1) (State.isArrayOf_alike hZ.alike Ar1128.2.1) (g := (mkF m 36 #[sR a1, sR fa, sI 1, sR f1, sR g1, sI 0, sI 0, sI 0, sU, sU] [(.ref f1), (.int (0 : Int32))])) rfl rfl (hb hby dp22_3_36) _ ?_
        rw [len_of S1128 N1128]
        show Sg p e below (T1126.setTop (mkF m 37 #[sR a1, sR fa, sI 1, sR f1, sR g1, sI 0, sI 0, sI 0, sU, sU] [(.int (0 : Int32)), (.int (0 : Int32))])) _
        refine XS.icmpYes X1126.here hx rfl (pc0 := 37) (pc' := 142) rfl (hb hby dp22_3_37) rfl (flt (show ¬ ((0 : Int32) < (0 : Int32)) from (by decide))).2.1 (by decide) (by decide) ?_
        show Sg p e below (T1126.setTop (mkF m 142 #[sR a1, sR fa, sI 1, sR f1, sR g1, sI 0, sI 0, sI 0, sU, sU] [])) _
        exact k)
      obtain ⟨T1130, h1130, L1130, X1130, e1130, Nq1130, K1130, u1130_0, u1130_1, u1130_2, u1130_3, u1130_4, st1130⟩ := pc_rtx a1 fa f1 g1 P W kP kW (1 : Int32) M (2 : Int32) (0 : Int32) (0 : Int32) (0 : Int32) (([x0, x1] ++ ur).map Value.int) (([y0, y1] ++ vr).map Value.long) sU sU X1126 hx hZ hw hby hml hown e1126 N0 Z0 (Nat.le_of_ble_eq_true rfl) (Nat.le_of_ble_eq_true rfl) (by decide) (by decide) g_a1 E1 EP EW1 Fp Fw Fc AP AW
      have P1131 : Rg p e below (T1130.setTop (mkF m 148 #[sR a1, sR fa, sI 1, sR f1, sR g1, sI 0, sI 0, sI 0, sU, sU] [])) B0 := fun t k => P1129 t (by
        exact st1130 _ k)
      have Z1132 : n0 ≤ h1130.size := Nat.le_trans Z0 K1130.1
      have K1133 : Keep h0 h1130 [a1, P, W] := (Keep.refl h0 [a1, P, W]).trans K1130 ((allS (Or.inl (List.mem_of_getElem? (i := 0) rfl)) all0))
      obtain ⟨fs1134, hr1134, hrun1134, hended1134, hW1134, hsame1134⟩ := X1130.leave (v := none) (fun _ => rfl)
      refine ⟨_, _, pre0 _ (P1131 _ ?_), hrun1134, hended1134, _, _, rfl, ?_, ⟨⟨_, rfl⟩, hW1134, hsame1134.mono (Nat.le_of_ble_eq_true rfl) (Nat.le_of_ble_eq_true rfl)⟩⟩
      · show Sg p e below (T1130.setTop (mkF m 148 #[sR a1, sR fa, sI 1, sR f1, sR g1, sI 0, sI 0, sI 0, sU, sU] [])) _
        exact X1130.returnOut hx Bd.returns (hb hby dp22_3_148) hr1134
      · show Q_ret Z a1 P W kP kW M [x0, x1] ur [y0, y1] [] [] h0 n0 _ T1130.heap _
        rw [e1130]
        exact ⟨rfl, Nq1130, K1133, [], [x0, x1] ++ ur, [], [y0, y1] ++ vr, (0 : Int32), by rw [own_rp, if_pos r0, own_rp, if_pos r1]; rfl, by rw [own_rw, if_pos r0, own_rw, if_pos r1]; rfl, rfl, by simp, rfl, by simp [hv], u1130_0, u1130_1, u1130_2, u1130_3, u1130_4⟩
    · skip
      have hN' : N = (1 : Int32) := hNq
      subst hN'
      obtain ⟨v0, rfl⟩ := own_len1 hvl
      obtain ⟨T1135, X1135, e1135, st1135⟩ := getF X0 hx hZ hown (Or.inr (own_hw hw 46 rfl)) Via.refl e0 Ffp (g := (mkF m 1 #[sR a1, sR fa, sI 1, sU, sU, sU, sU, sU, sU, sU] [(.ref fa)])) rfl rfl (hb hby dp22_3_1)
      have P1136 : Rg p e below (T1135.setTop (mkF m 4 #[sR a1, sR fa, sI 1, sU, sU, sU, sU, sU, sU, sU] [(.ref PP)])) B0 := fun t k => P0 t (by
        refine XS.aloadN X0.here hx rfl (hb hby dp22_3_0) rfl rfl ?_
        show Sg p e below (s₁.setTop (mkF m 1 #[sR a1, sR fa, sI 1, sU, sU, sU, sU, sU, sU, sU] [(.ref fa)])) _
        exact st1135 _ k)
      obtain ⟨cl1137, Ar1137, -, S1137, N1137, H1137, -⟩ := id APP
      have hin1137 : ¬ ((1 : Int32) < 0 ∨ cl1137.slots.size ≤ ((1 : Int32)).toNatClampNeg) := inb_of S1137 ⟨by decide, by decide⟩
      obtain ⟨T1138, X1138, e1138, st1138⟩ := getF X1135 hx hZ hown (Or.inr (own_hw hw 47 rfl)) Via.refl e1135 Ffw (g := (mkF m 8 #[sR a1, sR fa, sI 1, sR f1, sU, sU, sU, sU, sU, sU] [(.ref fa)])) rfl rfl (hb hby dp22_3_8)
      have P1139 : Rg p e below (T1138.setTop (mkF m 11 #[sR a1, sR fa, sI 1, sR f1, sU, sU, sU, sU, sU, sU] [(.ref WW)])) B0 := fun t k => P1136 t (by
        refine XS.iloadN X1135.here hx rfl (hb hby dp22_3_4) rfl ?_
        show Sg p e below (T1135.setTop (mkF m 5 #[sR a1, sR fa, sI 1, sU, sU, sU, sU, sU, sU, sU] [(.int (1 : Int32)), (.ref PP)])) _
        refine X1135.aaload hx (j := (1 : Int32)) (v := (.ref f1)) (by rw [e1135]; exact Ar1137.1) (State.isArrayOf_alike hZ.alike Ar1137.2.1) rfl Ar1137.2.2 hin1137 (H1137.at hin1137 rfl) (g := (mkF m 5 #[sR a1, sR fa, sI 1, sU, sU, sU, sU, sU, sU, sU] [(.int (1 : Int32)), (.ref PP)])) rfl rfl (hb hby dp22_3_5) _ ?_
        show Sg p e below (T1135.setTop (mkF m 6 #[sR a1, sR fa, sI 1, sU, sU, sU, sU, sU, sU, sU] [(.ref f1)])) _
        refine XS.astoreN X1135.here hx rfl (hb hby dp22_3_6) rfl rfl (l' := #[sR a1, sR fa, sI 1, sR f1, sU, sU, sU, sU, sU, sU]) rfl ?_
        refine XS.aloadN X1135.here hx rfl (hb hby dp22_3_7) rfl rfl ?_
        show Sg p e below (T1135.setTop (mkF m 8 #[sR a1, sR fa, sI 1, sR f1, sU, sU, sU, sU, sU, sU] [(.ref fa)])) _
        exact st1138 _ k)
      obtain ⟨cl1140, Ar1140, -, S1140, N1140, H1140, -⟩ := id AWW
      have hin1140 : ¬ ((1 : Int32) < 0 ∨ cl1140.slots.size ≤ ((1 : Int32)).toNatClampNeg) := inb_of S1140 ⟨by decide, by decide⟩
      have P1141 : Rg p e below (T1138.setTop (mkF m 24 #[sR a1, sR fa, sI 1, sR f1, sR g1, sI 0, sI 0, sI 0, sU, sU] [])) B0 := fun t k => P1139 t (by
        refine XS.iloadN X1138.here hx rfl (hb hby dp22_3_11) rfl ?_
        show Sg p e below (T1138.setTop (mkF m 12 #[sR a1, sR fa, sI 1, sR f1, sU, sU, sU, sU, sU, sU] [(.int (1 : Int32)), (.ref WW)])) _
        refine X1138.aaload hx (j := (1 : Int32)) (v := (.ref g1)) (by rw [e1138]; exact Ar1140.1) (State.isArrayOf_alike hZ.alike Ar1140.2.1) rfl Ar1140.2.2 hin1140 (H1140.at hin1140 rfl) (g := (mkF m 12 #[sR a1, sR fa, sI 1, sR f1, sU, sU, sU, sU, sU, sU] [(.int (1 : Int32)), (.ref WW)])) rfl rfl (hb hby dp22_3_12) _ ?_
        show Sg p e below (T1138.setTop (mkF m 13 #[sR a1, sR fa, sI 1, sR f1, sU, sU, sU, sU, sU, sU] [(.ref g1)])) _
        refine XS.astore X1138.here hx rfl (hb hby dp22_3_13) rfl rfl (l' := #[sR a1, sR fa, sI 1, sR f1, sR g1, sU, sU, sU, sU, sU]) rfl ?_
        refine XS.iconst X1138.here hx rfl (hb hby dp22_3_15) ?_
        refine XS.istore X1138.here hx rfl (hb hby dp22_3_16) rfl (l' := #[sR a1, sR fa, sI 1, sR f1, sR g1, sI 0, sU, sU, sU, sU]) rfl ?_
        refine XS.iconst X1138.here hx rfl (hb hby dp22_3_18) ?_
        refine XS.istore X1138.here hx rfl (hb hby dp22_3_19) rfl (l' := #[sR a1, sR fa, sI 1, sR f1, sR g1, sI 0, sI 0, sU, sU, sU]) rfl ?_
        refine XS.iconst X1138.here hx rfl (hb hby dp22_3_21) ?_
        refine XS.istore X1138.here hx rfl (hb hby dp22_3_22) rfl (l' := #[sR a1, sR fa, sI 1, sR f1, sR g1, sI 0, sI 0, sI 0, sU, sU]) rfl ?_
        show Sg p e below (T1138.setTop (mkF m 24 #[sR a1, sR fa, sI 1, sR f1, sR g1, sI 0, sI 0, sI 0, sU, sU] [])) _
        exact k)
      obtain ⟨T1142, h1142, L1142, X1142, e1142, Nq1142, K1142, st1142⟩ := pc_rth a1 fa f1 g1 kf (1 : Int32) (1 : Int32) (2 : Int32) (0 : Int32) (0 : Int32) (0 : Int32) [(.int q0)] sU sU X1138 hx hZ hw hby hml hown e1138 N0 Z0 (Nat.le_of_ble_eq_true rfl) (Nat.le_of_ble_eq_true rfl) (by decide) (by decide) Fc Af (by decide) (by decide)
      have P1143 : Rg p e below (T1142.setTop (mkF m 40 #[sR a1, sR fa, sI 1, sR f1, sR g1, sI 0, sI 0, sI 0, sU, sU] [])) B0 := fun t k => P1141 t (by
        exact st1142 _ k)
      have Z1144 : n0 ≤ h1142.size := Nat.le_trans Z0 K1142.1
      have K1145 : Keep h0 h1142 [a1, P, W] := (Keep.refl h0 [a1, P, W]).trans K1142 (all0)
      by_cases q1146 : q0 < x0
      · skip
        have tq1146 := Int32.lt_iff_toInt_lt.mp q1146
        have f1147 := (E1.keep K1142)
        have f1148 := (EP.keep K1142)
        have f1149 := (EW1.keep K1142)
        have f1150 := (Fp.keep K1142 nin0)
        have f1151 := (Fw.keep K1142 nin0)
        have f1152 := (Af.keep K1142 nin0)
        have f1153 := (Ag.keep K1142 nin0)
        have f1154 := (AP.keep K1142 nin0)
        have f1155 := (AW.keep K1142 nin0)
        obtain ⟨T1156, h1156, L1156, X1156, e1156, Nq1156, K1156, st1156⟩ := pc_rtv a1 fa f1 g1 P W kf kg kP kW (1 : Int32) (1 : Int32) M (0 : Int32) (0 : Int32) (0 : Int32) q0 x0 y0 v0 [(.int q0)] [(.long v0)] (([x0, x1] ++ ur).map Value.int) (([y0, y1] ++ vr).map Value.long) sU sU X1142 hx hZ hw hby hml hown e1142 Nq1142 Z1144 (Nat.le_of_ble_eq_true rfl) (Nat.le_of_ble_eq_true rfl) (by decide) (by decide) g_P g_W f1147 f1148 f1149 f1150 f1151 f1152 f1153 f1154 f1155 (by decide) ⟨by decide, by decide⟩ rfl rfl (own_inb hM (k := 0) (by simp) hm) rfl rfl (Or.inl ⟨rfl, rfl⟩) q1146
        have P1157 : Rg p e below (T1156.setTop (mkF m 40 #[sR a1, sR fa, sI 1, sR f1, sR g1, sI 0, sI 1, sI 0, sU, sU] [])) B0 := fun t k => P1143 t (by
          exact st1156 _ k)
        have Z1158 : n0 ≤ h1156.size := Nat.le_trans Z1144 K1156.1
        have K1159 : Keep h0 h1156 [a1, P, W] := K1145.trans K1156 (all0)
        have f1160 := (f1152.keep K1156 nin0)
        obtain ⟨T1161, h1161, L1161, X1161, e1161, Nq1161, K1161, st1161⟩ := pc_rtd a1 fa f1 g1 kf (1 : Int32) (1 : Int32) (0 : Int32) (1 : Int32) (0 : Int32) [(.int q0)] sU sU X1156 hx hZ hw hby hml hown e1156 Nq1156 Z1158 (Nat.le_of_ble_eq_true rfl) (Nat.le_of_ble_eq_true rfl) (by decide) (by decide) f1160 (by decide)
        have P1162 : Rg p e below (T1161.setTop (mkF m 24 #[sR a1, sR fa, sI 1, sR f1, sR g1, sI 0, sI 1, sI 1, sU, sU] [])) B0 := fun t k => P1157 t (by
          exact st1161 _ k)
        have Z1163 : n0 ≤ h1161.size := Nat.le_trans Z1158 K1161.1
        have K1164 : Keep h0 h1161 [a1, P, W] := K1159.trans K1161 (all0)
        have f1165 := (((Fc.keep K1142 nin0).keep K1156 nin0).keep K1161 nin0)
        obtain ⟨T1166, X1166, e1166, st1166⟩ := getF X1161 hx hZ hown (host := "") (Or.inl (own_hw hw 48 rfl)) Via.refl e1161 f1165 (g := (mkF m 27 #[sR a1, sR fa, sI 1, sR f1, sR g1, sI 0, sI 1, sI 1, sU, sU] [(.ref a1), (.int (1 : Int32))])) rfl rfl (hb hby dp22_3_27)
        have P1167 : Rg p e below (T1166.setTop (mkF m 30 #[sR a1, sR fa, sI 1, sR f1, sR g1, sI 0, sI 1, sI 1, sU, sU] [(.int (2 : Int32)), (.int (1 : Int32))])) B0 := fun t k => P1162 t (by
          refine XS.iload X1161.here hx rfl (hb hby dp22_3_24) rfl ?_
          refine XS.aloadN X1161.here hx rfl (hb hby dp22_3_26) rfl rfl ?_
          show Sg p e below (T1161.setTop (mkF m 27 #[sR a1, sR fa, sI 1, sR f1, sR g1, sI 0, sI 1, sI 1, sU, sU] [(.ref a1), (.int (1 : Int32))])) _
          exact st1166 _ k)
        have f1168 := (f1160.keep K1161 nin0)
        obtain ⟨cl1169, Ar1169, -, S1169, N1169, -, -⟩ := id f1168
        have lk0 : own_look [q0] [v0] x0 = 0 := by simp only [own_look]; rw [if_neg (fun e => by have e' := congrArg Int32.toInt e; omega)]
        have r0 : y0 &&& own_look [q0] [v0] x0 = 0 := by rw [lk0]; exact own_and0 _
        have lk1 : own_look [q0] [v0] x1 = 0 := by simp only [own_look]; rw [if_neg (fun e => by have e' := congrArg Int32.toInt e; omega)]
        have r1 : y1 &&& own_look [q0] [v0] x1 = 0 := by rw [lk1]; exact own_and0 _
        have f1170 := ((f1147.keep K1156).keep K1161)
        have f1171 := ((f1148.keep K1156).keep K1161)
        have f1172 := ((f1149.keep K1156).keep K1161)
        have f1173 := ((f1150.keep K1156 nin0).keep K1161 nin0)
        have f1174 := ((f1151.keep K1156 nin0).keep K1161 nin0)
        have f1175 := ((f1154.keep K1156 nin0).keep K1161 nin0)
        have f1176 := ((f1155.keep K1156 nin0).keep K1161 nin0)
        have P1177 : Rg p e below (T1166.setTop (mkF m 142 #[sR a1, sR fa, sI 1, sR f1, sR g1, sI 0, sI 1, sI 1, sU, sU] [])) B0 := fun t k => P1167 t (by
          refine XS.icmpNo X1166.here hx rfl (hb hby dp22_3_30) rfl (tlt (show (1 : Int32) < (2 : Int32) from (by decide))).2.1 ?_
          refine XS.iload X1166.here hx rfl (hb hby dp22_3_33) rfl ?_
          refine XS.aloadN X1166.here hx rfl (hb hby dp22_3_35) rfl rfl ?_
          show Sg p e below (T1166.setTop (mkF m 36 #[sR a1, sR fa, sI 1, sR f1, sR g1, sI 0, sI 1, sI 1, sU, sU] [(.ref f1), (.int (1 : Int32))])) _
          refine X1166.arraylength hx (by rw [e1166]; exact Ar1169.1) (State.isArrayOf_alike hZ.alike Ar1169.2.1) (g := (mkF m 36 #[sR a1, sR fa, sI 1, sR f1, sR g1, sI 0, sI 1, sI 1, sU, sU] [(.ref f1), (.int (1 : Int32))])) rfl rfl (hb hby dp22_3_36) _ ?_
          rw [len_of S1169 N1169]
          show Sg p e below (T1166.setTop (mkF m 37 #[sR a1, sR fa, sI 1, sR f1, sR g1, sI 0, sI 1, sI 1, sU, sU] [(.int (1 : Int32)), (.int (1 : Int32))])) _
          refine XS.icmpYes X1166.here hx rfl (pc0 := 37) (pc' := 142) rfl (hb hby dp22_3_37) rfl (flt (show ¬ ((1 : Int32) < (1 : Int32)) from (by decide))).2.1 (by decide) (by decide) ?_
          show Sg p e below (T1166.setTop (mkF m 142 #[sR a1, sR fa, sI 1, sR f1, sR g1, sI 0, sI 1, sI 1, sU, sU] [])) _
          exact k)
        obtain ⟨T1178, h1178, L1178, X1178, e1178, Nq1178, K1178, u1178_0, u1178_1, u1178_2, u1178_3, u1178_4, st1178⟩ := pc_rtx a1 fa f1 g1 P W kP kW (1 : Int32) M (2 : Int32) (0 : Int32) (1 : Int32) (1 : Int32) (([x0, x1] ++ ur).map Value.int) (([y0, y1] ++ vr).map Value.long) sU sU X1166 hx hZ hw hby hml hown e1166 Nq1161 Z1163 (Nat.le_of_ble_eq_true rfl) (Nat.le_of_ble_eq_true rfl) (by decide) (by decide) g_a1 f1170 f1171 f1172 f1173 f1174 f1165 f1175 f1176
        have P1179 : Rg p e below (T1178.setTop (mkF m 148 #[sR a1, sR fa, sI 1, sR f1, sR g1, sI 0, sI 1, sI 1, sU, sU] [])) B0 := fun t k => P1177 t (by
          exact st1178 _ k)
        have Z1180 : n0 ≤ h1178.size := Nat.le_trans Z1163 K1178.1
        have K1181 : Keep h0 h1178 [a1, P, W] := K1164.trans K1178 ((allS (Or.inl (List.mem_of_getElem? (i := 0) rfl)) all0))
        obtain ⟨fs1182, hr1182, hrun1182, hended1182, hW1182, hsame1182⟩ := X1178.leave (v := none) (fun _ => rfl)
        refine ⟨_, _, pre0 _ (P1179 _ ?_), hrun1182, hended1182, _, _, rfl, ?_, ⟨⟨_, rfl⟩, hW1182, hsame1182.mono (Nat.le_of_ble_eq_true rfl) (Nat.le_of_ble_eq_true rfl)⟩⟩
        · show Sg p e below (T1178.setTop (mkF m 148 #[sR a1, sR fa, sI 1, sR f1, sR g1, sI 0, sI 1, sI 1, sU, sU] [])) _
          exact X1178.returnOut hx Bd.returns (hb hby dp22_3_148) hr1182
        · show Q_ret Z a1 P W kP kW M [x0, x1] ur [y0, y1] [q0] [v0] h0 n0 _ T1178.heap _
          rw [e1178]
          exact ⟨rfl, Nq1178, K1181, [], [x0, x1] ++ ur, [], [y0, y1] ++ vr, (0 : Int32), by rw [own_rp, if_pos r0, own_rp, if_pos r1]; rfl, by rw [own_rw, if_pos r0, own_rw, if_pos r1]; rfl, rfl, by simp, rfl, by simp [hv], u1178_0, u1178_1, u1178_2, u1178_3, u1178_4⟩
      · skip
        have tq1146 : ¬ q0.toInt < x0.toInt := fun y => q1146 (Int32.lt_iff_toInt_lt.mpr y)
        by_cases q1183 : q0 = x0
        · skip
          have hit0 := q1183
          have thit0 := congrArg Int32.toInt q1183
          by_cases q1184 : y0 &&& v0 = (0 : Int64)
          · skip
            have f1185 := (E1.keep K1142)
            have f1186 := (EP.keep K1142)
            have f1187 := (EW1.keep K1142)
            have f1188 := (Fp.keep K1142 nin0)
            have f1189 := (Fw.keep K1142 nin0)
            have f1190 := (Af.keep K1142 nin0)
            have f1191 := (Ag.keep K1142 nin0)
            have f1192 := (AP.keep K1142 nin0)
            have f1193 := (AW.keep K1142 nin0)
            obtain ⟨T1194, h1194, L1194, X1194, e1194, Nq1194, K1194, st1194⟩ := pc_rtz a1 fa f1 g1 P W kf kg kP kW (1 : Int32) (1 : Int32) M (0 : Int32) (0 : Int32) (0 : Int32) q0 x0 y0 v0 [(.int q0)] [(.long v0)] (([x0, x1] ++ ur).map Value.int) (([y0, y1] ++ vr).map Value.long) sU sU X1142 hx hZ hw hby hml hown e1142 Nq1142 Z1144 (Nat.le_of_ble_eq_true rfl) (Nat.le_of_ble_eq_true rfl) (by decide) (by decide) g_P g_W f1185 f1186 f1187 f1188 f1189 f1190 f1191 f1192 f1193 (by decide) ⟨by decide, by decide⟩ rfl rfl (own_inb hM (k := 0) (by simp) hm) rfl rfl (Or.inl ⟨rfl, rfl⟩) q1146 q1183 q1184
            have P1195 : Rg p e below (T1194.setTop (mkF m 24 #[sR a1, sR fa, sI 1, sR f1, sR g1, sI 0, sI 0, sI 1, .val (.long (y0 &&& v0)), .second] [])) B0 := fun t k => P1143 t (by
              exact st1194 _ k)
            have Z1196 : n0 ≤ h1194.size := Nat.le_trans Z1144 K1194.1
            have K1197 : Keep h0 h1194 [a1, P, W] := K1145.trans K1194 (all0)
            have f1198 := ((Fc.keep K1142 nin0).keep K1194 nin0)
            have f1199 := (f1190.keep K1194 nin0)
            obtain ⟨T1200, h1200, L1200, X1200, e1200, Nq1200, K1200, st1200⟩ := pc_rth a1 fa f1 g1 kf (1 : Int32) (1 : Int32) (2 : Int32) (0 : Int32) (0 : Int32) (1 : Int32) [(.int q0)] (.val (.long (y0 &&& v0))) .second X1194 hx hZ hw hby hml hown e1194 Nq1194 Z1196 (Nat.le_of_ble_eq_true rfl) (Nat.le_of_ble_eq_true rfl) (by decide) (by decide) f1198 f1199 (by decide) (by decide)
            have P1201 : Rg p e below (T1200.setTop (mkF m 40 #[sR a1, sR fa, sI 1, sR f1, sR g1, sI 0, sI 0, sI 1, .val (.long (y0 &&& v0)), .second] [])) B0 := fun t k => P1195 t (by
              exact st1200 _ k)
            have Z1202 : n0 ≤ h1200.size := Nat.le_trans Z1196 K1200.1
            have K1203 : Keep h0 h1200 [a1, P, W] := K1197.trans K1200 (all0)
            have lq01 : q0 < x1 := by rw [hit0]; exact own_p2 hs
            have f1204 := ((f1185.keep K1194).keep K1200)
            have f1205 := ((f1186.keep K1194).keep K1200)
            have f1206 := ((f1187.keep K1194).keep K1200)
            have f1207 := ((f1188.keep K1194 nin0).keep K1200 nin0)
            have f1208 := ((f1189.keep K1194 nin0).keep K1200 nin0)
            have f1209 := (f1199.keep K1200 nin0)
            have f1210 := ((f1191.keep K1194 nin0).keep K1200 nin0)
            have f1211 := ((f1192.keep K1194 nin0).keep K1200 nin0)
            have f1212 := ((f1193.keep K1194 nin0).keep K1200 nin0)
            obtain ⟨T1213, h1213, L1213, X1213, e1213, Nq1213, K1213, st1213⟩ := pc_rtv a1 fa f1 g1 P W kf kg kP kW (1 : Int32) (1 : Int32) M (0 : Int32) (0 : Int32) (1 : Int32) q0 x1 y1 v0 [(.int q0)] [(.long v0)] (([x0, x1] ++ ur).map Value.int) (([y0, y1] ++ vr).map Value.long) (.val (.long (y0 &&& v0))) .second X1200 hx hZ hw hby hml hown e1200 Nq1200 Z1202 (Nat.le_of_ble_eq_true rfl) (Nat.le_of_ble_eq_true rfl) (by decide) (by decide) g_P g_W f1204 f1205 f1206 f1207 f1208 f1209 f1210 f1211 f1212 (by decide) ⟨by decide, by decide⟩ rfl rfl (own_inb hM (k := 1) (by simp) hm) rfl rfl (Or.inr ⟨_, rfl, rfl⟩) lq01
            have P1214 : Rg p e below (T1213.setTop (mkF m 40 #[sR a1, sR fa, sI 1, sR f1, sR g1, sI 0, sI 1, sI 1, .val (.long (y0 &&& v0)), .second] [])) B0 := fun t k => P1201 t (by
              exact st1213 _ k)
            have Z1215 : n0 ≤ h1213.size := Nat.le_trans Z1202 K1213.1
            have K1216 : Keep h0 h1213 [a1, P, W] := K1203.trans K1213 (all0)
            have f1217 := (f1209.keep K1213 nin0)
            obtain ⟨T1218, h1218, L1218, X1218, e1218, Nq1218, K1218, st1218⟩ := pc_rtd a1 fa f1 g1 kf (1 : Int32) (1 : Int32) (0 : Int32) (1 : Int32) (1 : Int32) [(.int q0)] (.val (.long (y0 &&& v0))) .second X1213 hx hZ hw hby hml hown e1213 Nq1213 Z1215 (Nat.le_of_ble_eq_true rfl) (Nat.le_of_ble_eq_true rfl) (by decide) (by decide) f1217 (by decide)
            have P1219 : Rg p e below (T1218.setTop (mkF m 24 #[sR a1, sR fa, sI 1, sR f1, sR g1, sI 0, sI 1, sI 2, .val (.long (y0 &&& v0)), .second] [])) B0 := fun t k => P1214 t (by
              exact st1218 _ k)
            have Z1220 : n0 ≤ h1218.size := Nat.le_trans Z1215 K1218.1
            have K1221 : Keep h0 h1218 [a1, P, W] := K1216.trans K1218 (all0)
            have f1222 := (((f1198.keep K1200 nin0).keep K1213 nin0).keep K1218 nin0)
            obtain ⟨T1223, X1223, e1223, st1223⟩ := getF X1218 hx hZ hown (host := "") (Or.inl (own_hw hw 48 rfl)) Via.refl e1218 f1222 (g := (mkF m 27 #[sR a1, sR fa, sI 1, sR f1, sR g1, sI 0, sI 1, sI 2, .val (.long (y0 &&& v0)), .second] [(.ref a1), (.int (2 : Int32))])) rfl rfl (hb hby dp22_3_27)
            have P1224 : Rg p e below (T1223.setTop (mkF m 30 #[sR a1, sR fa, sI 1, sR f1, sR g1, sI 0, sI 1, sI 2, .val (.long (y0 &&& v0)), .second] [(.int (2 : Int32)), (.int (2 : Int32))])) B0 := fun t k => P1219 t (by
              refine XS.iload X1218.here hx rfl (hb hby dp22_3_24) rfl ?_
              refine XS.aloadN X1218.here hx rfl (hb hby dp22_3_26) rfl rfl ?_
              show Sg p e below (T1218.setTop (mkF m 27 #[sR a1, sR fa, sI 1, sR f1, sR g1, sI 0, sI 1, sI 2, .val (.long (y0 &&& v0)), .second] [(.ref a1), (.int (2 : Int32))])) _
              exact st1223 _ k)
            have lk0 : own_look [q0] [v0] x0 = v0 := by simp only [own_look]; rw [if_pos q1183]
            have r0 : y0 &&& own_look [q0] [v0] x0 = 0 := by rw [lk0]; exact q1184
            have lk1 : own_look [q0] [v0] x1 = 0 := by simp only [own_look]; rw [if_neg (fun e => by have e' := congrArg Int32.toInt e; omega)]
            have r1 : y1 &&& own_look [q0] [v0] x1 = 0 := by rw [lk1]; exact own_and0 _
            have f1225 := ((f1204.keep K1213).keep K1218)
            have f1226 := ((f1205.keep K1213).keep K1218)
            have f1227 := ((f1206.keep K1213).keep K1218)
            have f1228 := ((f1207.keep K1213 nin0).keep K1218 nin0)
            have f1229 := ((f1208.keep K1213 nin0).keep K1218 nin0)
            have f1230 := ((f1211.keep K1213 nin0).keep K1218 nin0)
            have f1231 := ((f1212.keep K1213 nin0).keep K1218 nin0)
            have P1232 : Rg p e below (T1223.setTop (mkF m 142 #[sR a1, sR fa, sI 1, sR f1, sR g1, sI 0, sI 1, sI 2, .val (.long (y0 &&& v0)), .second] [])) B0 := fun t k => P1224 t (by
              refine XS.icmpYes X1223.here hx rfl (pc0 := 30) (pc' := 142) rfl (hb hby dp22_3_30) rfl (flt (show ¬ ((2 : Int32) < (2 : Int32)) from (by decide))).2.1 (by decide) (by decide) ?_
              show Sg p e below (T1223.setTop (mkF m 142 #[sR a1, sR fa, sI 1, sR f1, sR g1, sI 0, sI 1, sI 2, .val (.long (y0 &&& v0)), .second] [])) _
              exact k)
            obtain ⟨T1233, h1233, L1233, X1233, e1233, Nq1233, K1233, u1233_0, u1233_1, u1233_2, u1233_3, u1233_4, st1233⟩ := pc_rtx a1 fa f1 g1 P W kP kW (1 : Int32) M (2 : Int32) (0 : Int32) (1 : Int32) (2 : Int32) (([x0, x1] ++ ur).map Value.int) (([y0, y1] ++ vr).map Value.long) (.val (.long (y0 &&& v0))) .second X1223 hx hZ hw hby hml hown e1223 Nq1218 Z1220 (Nat.le_of_ble_eq_true rfl) (Nat.le_of_ble_eq_true rfl) (by decide) (by decide) g_a1 f1225 f1226 f1227 f1228 f1229 f1222 f1230 f1231
            have P1234 : Rg p e below (T1233.setTop (mkF m 148 #[sR a1, sR fa, sI 1, sR f1, sR g1, sI 0, sI 1, sI 2, .val (.long (y0 &&& v0)), .second] [])) B0 := fun t k => P1232 t (by
              exact st1233 _ k)
            have Z1235 : n0 ≤ h1233.size := Nat.le_trans Z1220 K1233.1
            have K1236 : Keep h0 h1233 [a1, P, W] := K1221.trans K1233 ((allS (Or.inl (List.mem_of_getElem? (i := 0) rfl)) all0))
            obtain ⟨fs1237, hr1237, hrun1237, hended1237, hW1237, hsame1237⟩ := X1233.leave (v := none) (fun _ => rfl)
            refine ⟨_, _, pre0 _ (P1234 _ ?_), hrun1237, hended1237, _, _, rfl, ?_, ⟨⟨_, rfl⟩, hW1237, hsame1237.mono (Nat.le_of_ble_eq_true rfl) (Nat.le_of_ble_eq_true rfl)⟩⟩
            · show Sg p e below (T1233.setTop (mkF m 148 #[sR a1, sR fa, sI 1, sR f1, sR g1, sI 0, sI 1, sI 2, .val (.long (y0 &&& v0)), .second] [])) _
              exact X1233.returnOut hx Bd.returns (hb hby dp22_3_148) hr1237
            · show Q_ret Z a1 P W kP kW M [x0, x1] ur [y0, y1] [q0] [v0] h0 n0 _ T1233.heap _
              rw [e1233]
              exact ⟨rfl, Nq1233, K1236, [], [x0, x1] ++ ur, [], [y0, y1] ++ vr, (0 : Int32), by rw [own_rp, if_pos r0, own_rp, if_pos r1]; rfl, by rw [own_rw, if_pos r0, own_rw, if_pos r1]; rfl, rfl, by simp, rfl, by simp [hv], u1233_0, u1233_1, u1233_2, u1233_3, u1233_4⟩
          · skip
            have f1238 := (E1.keep K1142)
            have f1239 := (EP.keep K1142)
            have f1240 := (EW1.keep K1142)
            have f1241 := (Fp.keep K1142 nin0)
            have f1242 := (Fw.keep K1142 nin0)
            have f1243 := (Af.keep K1142 nin0)
            have f1244 := (Ag.keep K1142 nin0)
            have f1245 := (AP.keep K1142 nin0)
            have f1246 := (AW.keep K1142 nin0)
            obtain ⟨T1247, h1247, L1247, X1247, e1247, Nq1247, K1247, u1247_0, u1247_1, st1247⟩ := pc_rtk a1 fa f1 g1 P W kf kg kP kW (1 : Int32) (1 : Int32) M (0 : Int32) (0 : Int32) (0 : Int32) q0 x0 y0 v0 [(.int q0)] [(.long v0)] (([x0, x1] ++ ur).map Value.int) (([y0, y1] ++ vr).map Value.long) sU sU 0 X1142 hx hZ hw hby hml hown e1142 Nq1142 Z1144 (Nat.le_of_ble_eq_true rfl) (Nat.le_of_ble_eq_true rfl) (by decide) (by decide) g_P g_W f1238 f1239 f1240 f1241 f1242 f1243 f1244 f1245 f1246 (by decide) ⟨by decide, by decide⟩ rfl rfl (own_inb hM (k := 0) (by simp) hm) rfl rfl (Or.inl ⟨rfl, rfl⟩) q1146 q1183 q1184 (own_inb hM (k := 0) (by simp) hm) rfl (by simp) (by simp)
            have P1248 : Rg p e below (T1247.setTop (mkF m 24 #[sR a1, sR fa, sI 1, sR f1, sR g1, sI 1, sI 0, sI 1, .val (.long (y0 &&& v0)), .second] [])) B0 := fun t k => P1143 t (by
              exact st1247 _ k)
            have Z1249 : n0 ≤ h1247.size := Nat.le_trans Z1144 K1247.1
            have K1250 : Keep h0 h1247 [a1, P, W] := K1145.trans K1247 ((allS (Or.inl (List.mem_of_getElem? (i := 1) rfl)) (allS (Or.inl (List.mem_of_getElem? (i := 2) rfl)) all0)))
            have AP1247 : Arv Z h1247 P kP .int M (([x0, x1] ++ ur).map Value.int) (.int (0 : Int32)) := u1247_0
            have AW1247 : Arv Z h1247 W kW .long M (([(y0 &&& v0), y1] ++ vr).map Value.long) (.long (0 : Int64)) := u1247_1
            have f1251 := ((Fc.keep K1142 nin0).keep K1247 (ninS (Exa.ne E1 EP (by decide)) (ninS (Exa.ne E1 EW1 (by decide)) nin0)))
            have f1252 := (f1243.keep K1247 (ninS nfP (ninS (Exa.ne EEf EW1 (by decide)) nin0)))
            obtain ⟨T1253, h1253, L1253, X1253, e1253, Nq1253, K1253, st1253⟩ := pc_rth a1 fa f1 g1 kf (1 : Int32) (1 : Int32) (2 : Int32) (1 : Int32) (0 : Int32) (1 : Int32) [(.int q0)] (.val (.long (y0 &&& v0))) .second X1247 hx hZ hw hby hml hown e1247 Nq1247 Z1249 (Nat.le_of_ble_eq_true rfl) (Nat.le_of_ble_eq_true rfl) (by decide) (by decide) f1251 f1252 (by decide) (by decide)
            have P1254 : Rg p e below (T1253.setTop (mkF m 40 #[sR a1, sR fa, sI 1, sR f1, sR g1, sI 1, sI 0, sI 1, .val (.long (y0 &&& v0)), .second] [])) B0 := fun t k => P1248 t (by
              exact st1253 _ k)
            have Z1255 : n0 ≤ h1253.size := Nat.le_trans Z1249 K1253.1
            have K1256 : Keep h0 h1253 [a1, P, W] := K1250.trans K1253 (all0)
            have lq01 : q0 < x1 := by rw [hit0]; exact own_p2 hs
            have f1257 := ((f1238.keep K1247).keep K1253)
            have f1258 := ((f1239.keep K1247).keep K1253)
            have f1259 := ((f1240.keep K1247).keep K1253)
            have f1260 := ((f1241.keep K1247 (ninS (Exa.ne E1 EP (by decide)) (ninS (Exa.ne E1 EW1 (by decide)) nin0))).keep K1253 nin0)
            have f1261 := ((f1242.keep K1247 (ninS (Exa.ne E1 EP (by decide)) (ninS (Exa.ne E1 EW1 (by decide)) nin0))).keep K1253 nin0)
            have f1262 := (f1252.keep K1253 nin0)
            have f1263 := ((f1244.keep K1247 (ninS (Exa.ne EEg EP (by decide)) (ninS ngW nin0))).keep K1253 nin0)
            have f1264 := (AP1247.keep K1253 nin0)
            have f1265 := (AW1247.keep K1253 nin0)
            obtain ⟨T1266, h1266, L1266, X1266, e1266, Nq1266, K1266, st1266⟩ := pc_rtv a1 fa f1 g1 P W kf kg kP kW (1 : Int32) (1 : Int32) M (1 : Int32) (0 : Int32) (1 : Int32) q0 x1 y1 v0 [(.int q0)] [(.long v0)] (([x0, x1] ++ ur).map Value.int) (([(y0 &&& v0), y1] ++ vr).map Value.long) (.val (.long (y0 &&& v0))) .second X1253 hx hZ hw hby hml hown e1253 Nq1253 Z1255 (Nat.le_of_ble_eq_true rfl) (Nat.le_of_ble_eq_true rfl) (by decide) (by decide) g_P g_W f1257 f1258 f1259 f1260 f1261 f1262 f1263 f1264 f1265 (by decide) ⟨by decide, by decide⟩ rfl rfl (own_inb hM (k := 1) (by simp) hm) rfl rfl (Or.inr ⟨_, rfl, rfl⟩) lq01
            have P1267 : Rg p e below (T1266.setTop (mkF m 40 #[sR a1, sR fa, sI 1, sR f1, sR g1, sI 1, sI 1, sI 1, .val (.long (y0 &&& v0)), .second] [])) B0 := fun t k => P1254 t (by
              exact st1266 _ k)
            have Z1268 : n0 ≤ h1266.size := Nat.le_trans Z1255 K1266.1
            have K1269 : Keep h0 h1266 [a1, P, W] := K1256.trans K1266 (all0)
            have f1270 := (f1262.keep K1266 nin0)
            obtain ⟨T1271, h1271, L1271, X1271, e1271, Nq1271, K1271, st1271⟩ := pc_rtd a1 fa f1 g1 kf (1 : Int32) (1 : Int32) (1 : Int32) (1 : Int32) (1 : Int32) [(.int q0)] (.val (.long (y0 &&& v0))) .second X1266 hx hZ hw hby hml hown e1266 Nq1266 Z1268 (Nat.le_of_ble_eq_true rfl) (Nat.le_of_ble_eq_true rfl) (by decide) (by decide) f1270 (by decide)
            have P1272 : Rg p e below (T1271.setTop (mkF m 24 #[sR a1, sR fa, sI 1, sR f1, sR g1, sI 1, sI 1, sI 2, .val (.long (y0 &&& v0)), .second] [])) B0 := fun t k => P1267 t (by
              exact st1271 _ k)
            have Z1273 : n0 ≤ h1271.size := Nat.le_trans Z1268 K1271.1
            have K1274 : Keep h0 h1271 [a1, P, W] := K1269.trans K1271 (all0)
            have f1275 := (((f1251.keep K1253 nin0).keep K1266 nin0).keep K1271 nin0)
            obtain ⟨T1276, X1276, e1276, st1276⟩ := getF X1271 hx hZ hown (host := "") (Or.inl (own_hw hw 48 rfl)) Via.refl e1271 f1275 (g := (mkF m 27 #[sR a1, sR fa, sI 1, sR f1, sR g1, sI 1, sI 1, sI 2, .val (.long (y0 &&& v0)), .second] [(.ref a1), (.int (2 : Int32))])) rfl rfl (hb hby dp22_3_27)
            have P1277 : Rg p e below (T1276.setTop (mkF m 30 #[sR a1, sR fa, sI 1, sR f1, sR g1, sI 1, sI 1, sI 2, .val (.long (y0 &&& v0)), .second] [(.int (2 : Int32)), (.int (2 : Int32))])) B0 := fun t k => P1272 t (by
              refine XS.iload X1271.here hx rfl (hb hby dp22_3_24) rfl ?_
              refine XS.aloadN X1271.here hx rfl (hb hby dp22_3_26) rfl rfl ?_
              show Sg p e below (T1271.setTop (mkF m 27 #[sR a1, sR fa, sI 1, sR f1, sR g1, sI 1, sI 1, sI 2, .val (.long (y0 &&& v0)), .second] [(.ref a1), (.int (2 : Int32))])) _
              exact st1276 _ k)
            have lk0 : own_look [q0] [v0] x0 = v0 := by simp only [own_look]; rw [if_pos q1183]
            have r0 : ¬ y0 &&& own_look [q0] [v0] x0 = 0 := by rw [lk0]; exact q1184
            have lk1 : own_look [q0] [v0] x1 = 0 := by simp only [own_look]; rw [if_neg (fun e => by have e' := congrArg Int32.toInt e; omega)]
            have r1 : y1 &&& own_look [q0] [v0] x1 = 0 := by rw [lk1]; exact own_and0 _
            have f1278 := ((f1257.keep K1266).keep K1271)
            have f1279 := ((f1258.keep K1266).keep K1271)
            have f1280 := ((f1259.keep K1266).keep K1271)
            have f1281 := ((f1260.keep K1266 nin0).keep K1271 nin0)
            have f1282 := ((f1261.keep K1266 nin0).keep K1271 nin0)
            have f1283 := ((f1264.keep K1266 nin0).keep K1271 nin0)
            have f1284 := ((f1265.keep K1266 nin0).keep K1271 nin0)
            have P1285 : Rg p e below (T1276.setTop (mkF m 142 #[sR a1, sR fa, sI 1, sR f1, sR g1, sI 1, sI 1, sI 2, .val (.long (y0 &&& v0)), .second] [])) B0 := fun t k => P1277 t (by
              refine XS.icmpYes X1276.here hx rfl (pc0 := 30) (pc' := 142) rfl (hb hby dp22_3_30) rfl (flt (show ¬ ((2 : Int32) < (2 : Int32)) from (by decide))).2.1 (by decide) (by decide) ?_
              show Sg p e below (T1276.setTop (mkF m 142 #[sR a1, sR fa, sI 1, sR f1, sR g1, sI 1, sI 1, sI 2, .val (.long (y0 &&& v0)), .second] [])) _
              exact k)
            obtain ⟨T1286, h1286, L1286, X1286, e1286, Nq1286, K1286, u1286_0, u1286_1, u1286_2, u1286_3, u1286_4, st1286⟩ := pc_rtx a1 fa f1 g1 P W kP kW (1 : Int32) M (2 : Int32) (1 : Int32) (1 : Int32) (2 : Int32) (([x0, x1] ++ ur).map Value.int) (([(y0 &&& v0), y1] ++ vr).map Value.long) (.val (.long (y0 &&& v0))) .second X1276 hx hZ hw hby hml hown e1276 Nq1271 Z1273 (Nat.le_of_ble_eq_true rfl) (Nat.le_of_ble_eq_true rfl) (by decide) (by decide) g_a1 f1278 f1279 f1280 f1281 f1282 f1275 f1283 f1284
            have P1287 : Rg p e below (T1286.setTop (mkF m 148 #[sR a1, sR fa, sI 1, sR f1, sR g1, sI 1, sI 1, sI 2, .val (.long (y0 &&& v0)), .second] [])) B0 := fun t k => P1285 t (by
              exact st1286 _ k)
            have Z1288 : n0 ≤ h1286.size := Nat.le_trans Z1273 K1286.1
            have K1289 : Keep h0 h1286 [a1, P, W] := K1274.trans K1286 ((allS (Or.inl (List.mem_of_getElem? (i := 0) rfl)) all0))
            obtain ⟨fs1290, hr1290, hrun1290, hended1290, hW1290, hsame1290⟩ := X1286.leave (v := none) (fun _ => rfl)
            refine ⟨_, _, pre0 _ (P1287 _ ?_), hrun1290, hended1290, _, _, rfl, ?_, ⟨⟨_, rfl⟩, hW1290, hsame1290.mono (Nat.le_of_ble_eq_true rfl) (Nat.le_of_ble_eq_true rfl)⟩⟩
            · show Sg p e below (T1286.setTop (mkF m 148 #[sR a1, sR fa, sI 1, sR f1, sR g1, sI 1, sI 1, sI 2, .val (.long (y0 &&& v0)), .second] [])) _
              exact X1286.returnOut hx Bd.returns (hb hby dp22_3_148) hr1290
            · show Q_ret Z a1 P W kP kW M [x0, x1] ur [y0, y1] [q0] [v0] h0 n0 _ T1286.heap _
              rw [e1286]
              exact ⟨rfl, Nq1286, K1289, [x0], [x1] ++ ur, [(y0 &&& v0)], [y1] ++ vr, (1 : Int32), by rw [own_rp, if_neg r0, own_rp, if_pos r1]; rfl, by rw [own_rw, if_neg r0, lk0, own_rw, if_pos r1]; rfl, rfl, by simp, rfl, by simp [hv], u1286_0, u1286_1, u1286_2, u1286_3, u1286_4⟩
        · skip
          have tq1183 : ¬ q0.toInt = x0.toInt := fun y => q1183 (Int32.toInt_inj.mp y)
          have f1291 := (E1.keep K1142)
          have f1292 := (EP.keep K1142)
          have f1293 := (EW1.keep K1142)
          have f1294 := (Fp.keep K1142 nin0)
          have f1295 := (Fw.keep K1142 nin0)
          have f1296 := (Af.keep K1142 nin0)
          have f1297 := (Ag.keep K1142 nin0)
          have f1298 := (AP.keep K1142 nin0)
          have f1299 := (AW.keep K1142 nin0)
          obtain ⟨T1300, h1300, L1300, X1300, e1300, Nq1300, K1300, st1300⟩ := pc_rtn a1 fa f1 g1 P W kf kg kP kW (1 : Int32) (1 : Int32) M (0 : Int32) (0 : Int32) (0 : Int32) q0 x0 y0 v0 [(.int q0)] [(.long v0)] (([x0, x1] ++ ur).map Value.int) (([y0, y1] ++ vr).map Value.long) sU sU X1142 hx hZ hw hby hml hown e1142 Nq1142 Z1144 (Nat.le_of_ble_eq_true rfl) (Nat.le_of_ble_eq_true rfl) (by decide) (by decide) g_P g_W f1291 f1292 f1293 f1294 f1295 f1296 f1297 f1298 f1299 (by decide) ⟨by decide, by decide⟩ rfl rfl (own_inb hM (k := 0) (by simp) hm) rfl rfl (Or.inl ⟨rfl, rfl⟩) q1146 q1183
          have P1301 : Rg p e below (T1300.setTop (mkF m 24 #[sR a1, sR fa, sI 1, sR f1, sR g1, sI 0, sI 0, sI 1, sU, sU] [])) B0 := fun t k => P1143 t (by
            exact st1300 _ k)
          have Z1302 : n0 ≤ h1300.size := Nat.le_trans Z1144 K1300.1
          have K1303 : Keep h0 h1300 [a1, P, W] := K1145.trans K1300 (all0)
          have f1304 := ((Fc.keep K1142 nin0).keep K1300 nin0)
          have f1305 := (f1296.keep K1300 nin0)
          obtain ⟨T1306, h1306, L1306, X1306, e1306, Nq1306, K1306, st1306⟩ := pc_rth a1 fa f1 g1 kf (1 : Int32) (1 : Int32) (2 : Int32) (0 : Int32) (0 : Int32) (1 : Int32) [(.int q0)] sU sU X1300 hx hZ hw hby hml hown e1300 Nq1300 Z1302 (Nat.le_of_ble_eq_true rfl) (Nat.le_of_ble_eq_true rfl) (by decide) (by decide) f1304 f1305 (by decide) (by decide)
          have P1307 : Rg p e below (T1306.setTop (mkF m 40 #[sR a1, sR fa, sI 1, sR f1, sR g1, sI 0, sI 0, sI 1, sU, sU] [])) B0 := fun t k => P1301 t (by
            exact st1306 _ k)
          have Z1308 : n0 ≤ h1306.size := Nat.le_trans Z1302 K1306.1
          have K1309 : Keep h0 h1306 [a1, P, W] := K1303.trans K1306 (all0)
          by_cases q1310 : q0 < x1
          · skip
            have tq1310 := Int32.lt_iff_toInt_lt.mp q1310
            have f1311 := ((f1291.keep K1300).keep K1306)
            have f1312 := ((f1292.keep K1300).keep K1306)
            have f1313 := ((f1293.keep K1300).keep K1306)
            have f1314 := ((f1294.keep K1300 nin0).keep K1306 nin0)
            have f1315 := ((f1295.keep K1300 nin0).keep K1306 nin0)
            have f1316 := (f1305.keep K1306 nin0)
            have f1317 := ((f1297.keep K1300 nin0).keep K1306 nin0)
            have f1318 := ((f1298.keep K1300 nin0).keep K1306 nin0)
            have f1319 := ((f1299.keep K1300 nin0).keep K1306 nin0)
            obtain ⟨T1320, h1320, L1320, X1320, e1320, Nq1320, K1320, st1320⟩ := pc_rtv a1 fa f1 g1 P W kf kg kP kW (1 : Int32) (1 : Int32) M (0 : Int32) (0 : Int32) (1 : Int32) q0 x1 y1 v0 [(.int q0)] [(.long v0)] (([x0, x1] ++ ur).map Value.int) (([y0, y1] ++ vr).map Value.long) sU sU X1306 hx hZ hw hby hml hown e1306 Nq1306 Z1308 (Nat.le_of_ble_eq_true rfl) (Nat.le_of_ble_eq_true rfl) (by decide) (by decide) g_P g_W f1311 f1312 f1313 f1314 f1315 f1316 f1317 f1318 f1319 (by decide) ⟨by decide, by decide⟩ rfl rfl (own_inb hM (k := 1) (by simp) hm) rfl rfl (Or.inl ⟨rfl, rfl⟩) q1310
            have P1321 : Rg p e below (T1320.setTop (mkF m 40 #[sR a1, sR fa, sI 1, sR f1, sR g1, sI 0, sI 1, sI 1, sU, sU] [])) B0 := fun t k => P1307 t (by
              exact st1320 _ k)
            have Z1322 : n0 ≤ h1320.size := Nat.le_trans Z1308 K1320.1
            have K1323 : Keep h0 h1320 [a1, P, W] := K1309.trans K1320 (all0)
            have f1324 := (f1316.keep K1320 nin0)
            obtain ⟨T1325, h1325, L1325, X1325, e1325, Nq1325, K1325, st1325⟩ := pc_rtd a1 fa f1 g1 kf (1 : Int32) (1 : Int32) (0 : Int32) (1 : Int32) (1 : Int32) [(.int q0)] sU sU X1320 hx hZ hw hby hml hown e1320 Nq1320 Z1322 (Nat.le_of_ble_eq_true rfl) (Nat.le_of_ble_eq_true rfl) (by decide) (by decide) f1324 (by decide)
            have P1326 : Rg p e below (T1325.setTop (mkF m 24 #[sR a1, sR fa, sI 1, sR f1, sR g1, sI 0, sI 1, sI 2, sU, sU] [])) B0 := fun t k => P1321 t (by
              exact st1325 _ k)
            have Z1327 : n0 ≤ h1325.size := Nat.le_trans Z1322 K1325.1
            have K1328 : Keep h0 h1325 [a1, P, W] := K1323.trans K1325 (all0)
            have f1329 := (((f1304.keep K1306 nin0).keep K1320 nin0).keep K1325 nin0)
            obtain ⟨T1330, X1330, e1330, st1330⟩ := getF X1325 hx hZ hown (host := "") (Or.inl (own_hw hw 48 rfl)) Via.refl e1325 f1329 (g := (mkF m 27 #[sR a1, sR fa, sI 1, sR f1, sR g1, sI 0, sI 1, sI 2, sU, sU] [(.ref a1), (.int (2 : Int32))])) rfl rfl (hb hby dp22_3_27)
            have P1331 : Rg p e below (T1330.setTop (mkF m 30 #[sR a1, sR fa, sI 1, sR f1, sR g1, sI 0, sI 1, sI 2, sU, sU] [(.int (2 : Int32)), (.int (2 : Int32))])) B0 := fun t k => P1326 t (by
              refine XS.iload X1325.here hx rfl (hb hby dp22_3_24) rfl ?_
              refine XS.aloadN X1325.here hx rfl (hb hby dp22_3_26) rfl rfl ?_
              show Sg p e below (T1325.setTop (mkF m 27 #[sR a1, sR fa, sI 1, sR f1, sR g1, sI 0, sI 1, sI 2, sU, sU] [(.ref a1), (.int (2 : Int32))])) _
              exact st1330 _ k)
            have lk0 : own_look [q0] [v0] x0 = 0 := by simp only [own_look]; rw [if_neg (fun e => by have e' := congrArg Int32.toInt e; omega)]
            have r0 : y0 &&& own_look [q0] [v0] x0 = 0 := by rw [lk0]; exact own_and0 _
            have lk1 : own_look [q0] [v0] x1 = 0 := by simp only [own_look]; rw [if_neg (fun e => by have e' := congrArg Int32.toInt e; omega)]
            have r1 : y1 &&& own_look [q0] [v0] x1 = 0 := by rw [lk1]; exact own_and0 _
            have f1332 := ((f1311.keep K1320).keep K1325)
            have f1333 := ((f1312.keep K1320).keep K1325)
            have f1334 := ((f1313.keep K1320).keep K1325)
            have f1335 := ((f1314.keep K1320 nin0).keep K1325 nin0)
            have f1336 := ((f1315.keep K1320 nin0).keep K1325 nin0)
            have f1337 := ((f1318.keep K1320 nin0).keep K1325 nin0)
            have f1338 := ((f1319.keep K1320 nin0).keep K1325 nin0)
            have P1339 : Rg p e below (T1330.setTop (mkF m 142 #[sR a1, sR fa, sI 1, sR f1, sR g1, sI 0, sI 1, sI 2, sU, sU] [])) B0 := fun t k => P1331 t (by
              refine XS.icmpYes X1330.here hx rfl (pc0 := 30) (pc' := 142) rfl (hb hby dp22_3_30) rfl (flt (show ¬ ((2 : Int32) < (2 : Int32)) from (by decide))).2.1 (by decide) (by decide) ?_
              show Sg p e below (T1330.setTop (mkF m 142 #[sR a1, sR fa, sI 1, sR f1, sR g1, sI 0, sI 1, sI 2, sU, sU] [])) _
              exact k)
            obtain ⟨T1340, h1340, L1340, X1340, e1340, Nq1340, K1340, u1340_0, u1340_1, u1340_2, u1340_3, u1340_4, st1340⟩ := pc_rtx a1 fa f1 g1 P W kP kW (1 : Int32) M (2 : Int32) (0 : Int32) (1 : Int32) (2 : Int32) (([x0, x1] ++ ur).map Value.int) (([y0, y1] ++ vr).map Value.long) sU sU X1330 hx hZ hw hby hml hown e1330 Nq1325 Z1327 (Nat.le_of_ble_eq_true rfl) (Nat.le_of_ble_eq_true rfl) (by decide) (by decide) g_a1 f1332 f1333 f1334 f1335 f1336 f1329 f1337 f1338
            have P1341 : Rg p e below (T1340.setTop (mkF m 148 #[sR a1, sR fa, sI 1, sR f1, sR g1, sI 0, sI 1, sI 2, sU, sU] [])) B0 := fun t k => P1339 t (by
              exact st1340 _ k)
            have Z1342 : n0 ≤ h1340.size := Nat.le_trans Z1327 K1340.1
            have K1343 : Keep h0 h1340 [a1, P, W] := K1328.trans K1340 ((allS (Or.inl (List.mem_of_getElem? (i := 0) rfl)) all0))
            obtain ⟨fs1344, hr1344, hrun1344, hended1344, hW1344, hsame1344⟩ := X1340.leave (v := none) (fun _ => rfl)
            refine ⟨_, _, pre0 _ (P1341 _ ?_), hrun1344, hended1344, _, _, rfl, ?_, ⟨⟨_, rfl⟩, hW1344, hsame1344.mono (Nat.le_of_ble_eq_true rfl) (Nat.le_of_ble_eq_true rfl)⟩⟩
            · show Sg p e below (T1340.setTop (mkF m 148 #[sR a1, sR fa, sI 1, sR f1, sR g1, sI 0, sI 1, sI 2, sU, sU] [])) _
              exact X1340.returnOut hx Bd.returns (hb hby dp22_3_148) hr1344
            · show Q_ret Z a1 P W kP kW M [x0, x1] ur [y0, y1] [q0] [v0] h0 n0 _ T1340.heap _
              rw [e1340]
              exact ⟨rfl, Nq1340, K1343, [], [x0, x1] ++ ur, [], [y0, y1] ++ vr, (0 : Int32), by rw [own_rp, if_pos r0, own_rp, if_pos r1]; rfl, by rw [own_rw, if_pos r0, own_rw, if_pos r1]; rfl, rfl, by simp, rfl, by simp [hv], u1340_0, u1340_1, u1340_2, u1340_3, u1340_4⟩
          · skip
            have tq1310 : ¬ q0.toInt < x1.toInt := fun y => q1310 (Int32.lt_iff_toInt_lt.mpr y)
            by_cases q1345 : q0 = x1
            · skip
              have hit1 := q1345
              have thit1 := congrArg Int32.toInt q1345
              by_cases q1346 : y1 &&& v0 = (0 : Int64)
              · skip
                have f1347 := ((f1291.keep K1300).keep K1306)
                have f1348 := ((f1292.keep K1300).keep K1306)
                have f1349 := ((f1293.keep K1300).keep K1306)
                have f1350 := ((f1294.keep K1300 nin0).keep K1306 nin0)
                have f1351 := ((f1295.keep K1300 nin0).keep K1306 nin0)
                have f1352 := (f1305.keep K1306 nin0)
                have f1353 := ((f1297.keep K1300 nin0).keep K1306 nin0)
                have f1354 := ((f1298.keep K1300 nin0).keep K1306 nin0)
                have f1355 := ((f1299.keep K1300 nin0).keep K1306 nin0)
                obtain ⟨T1356, h1356, L1356, X1356, e1356, Nq1356, K1356, st1356⟩ := pc_rtz a1 fa f1 g1 P W kf kg kP kW (1 : Int32) (1 : Int32) M (0 : Int32) (0 : Int32) (1 : Int32) q0 x1 y1 v0 [(.int q0)] [(.long v0)] (([x0, x1] ++ ur).map Value.int) (([y0, y1] ++ vr).map Value.long) sU sU X1306 hx hZ hw hby hml hown e1306 Nq1306 Z1308 (Nat.le_of_ble_eq_true rfl) (Nat.le_of_ble_eq_true rfl) (by decide) (by decide) g_P g_W f1347 f1348 f1349 f1350 f1351 f1352 f1353 f1354 f1355 (by decide) ⟨by decide, by decide⟩ rfl rfl (own_inb hM (k := 1) (by simp) hm) rfl rfl (Or.inl ⟨rfl, rfl⟩) q1310 q1345 q1346
                have P1357 : Rg p e below (T1356.setTop (mkF m 24 #[sR a1, sR fa, sI 1, sR f1, sR g1, sI 0, sI 0, sI 2, .val (.long (y1 &&& v0)), .second] [])) B0 := fun t k => P1307 t (by
                  exact st1356 _ k)
                have Z1358 : n0 ≤ h1356.size := Nat.le_trans Z1308 K1356.1
                have K1359 : Keep h0 h1356 [a1, P, W] := K1309.trans K1356 (all0)
                have f1360 := ((f1304.keep K1306 nin0).keep K1356 nin0)
                obtain ⟨T1361, X1361, e1361, st1361⟩ := getF X1356 hx hZ hown (host := "") (Or.inl (own_hw hw 48 rfl)) Via.refl e1356 f1360 (g := (mkF m 27 #[sR a1, sR fa, sI 1, sR f1, sR g1, sI 0, sI 0, sI 2, .val (.long (y1 &&& v0)), .second] [(.ref a1), (.int (2 : Int32))])) rfl rfl (hb hby dp22_3_27)
                have P1362 : Rg p e below (T1361.setTop (mkF m 30 #[sR a1, sR fa, sI 1, sR f1, sR g1, sI 0, sI 0, sI 2, .val (.long (y1 &&& v0)), .second] [(.int (2 : Int32)), (.int (2 : Int32))])) B0 := fun t k => P1357 t (by
                  refine XS.iload X1356.here hx rfl (hb hby dp22_3_24) rfl ?_
                  refine XS.aloadN X1356.here hx rfl (hb hby dp22_3_26) rfl rfl ?_
                  show Sg p e below (T1356.setTop (mkF m 27 #[sR a1, sR fa, sI 1, sR f1, sR g1, sI 0, sI 0, sI 2, .val (.long (y1 &&& v0)), .second] [(.ref a1), (.int (2 : Int32))])) _
                  exact st1361 _ k)
                have lk0 : own_look [q0] [v0] x0 = 0 := by simp only [own_look]; rw [if_neg (fun e => by have e' := congrArg Int32.toInt e; omega)]
                have r0 : y0 &&& own_look [q0] [v0] x0 = 0 := by rw [lk0]; exact own_and0 _
                have lk1 : own_look [q0] [v0] x1 = v0 := by simp only [own_look]; rw [if_pos q1345]
                have r1 : y1 &&& own_look [q0] [v0] x1 = 0 := by rw [lk1]; exact q1346
                have f1363 := (f1347.keep K1356)
                have f1364 := (f1348.keep K1356)
                have f1365 := (f1349.keep K1356)
                have f1366 := (f1350.keep K1356 nin0)
                have f1367 := (f1351.keep K1356 nin0)
                have f1368 := (f1354.keep K1356 nin0)
                have f1369 := (f1355.keep K1356 nin0)
                have P1370 : Rg p e below (T1361.setTop (mkF m 142 #[sR a1, sR fa, sI 1, sR f1, sR g1, sI 0, sI 0, sI 2, .val (.long (y1 &&& v0)), .second] [])) B0 := fun t k => P1362 t (by
                  refine XS.icmpYes X1361.here hx rfl (pc0 := 30) (pc' := 142) rfl (hb hby dp22_3_30) rfl (flt (show ¬ ((2 : Int32) < (2 : Int32)) from (by decide))).2.1 (by decide) (by decide) ?_
                  show Sg p e below (T1361.setTop (mkF m 142 #[sR a1, sR fa, sI 1, sR f1, sR g1, sI 0, sI 0, sI 2, .val (.long (y1 &&& v0)), .second] [])) _
                  exact k)
                obtain ⟨T1371, h1371, L1371, X1371, e1371, Nq1371, K1371, u1371_0, u1371_1, u1371_2, u1371_3, u1371_4, st1371⟩ := pc_rtx a1 fa f1 g1 P W kP kW (1 : Int32) M (2 : Int32) (0 : Int32) (0 : Int32) (2 : Int32) (([x0, x1] ++ ur).map Value.int) (([y0, y1] ++ vr).map Value.long) (.val (.long (y1 &&& v0))) .second X1361 hx hZ hw hby hml hown e1361 Nq1356 Z1358 (Nat.le_of_ble_eq_true rfl) (Nat.le_of_ble_eq_true rfl) (by decide) (by decide) g_a1 f1363 f1364 f1365 f1366 f1367 f1360 f1368 f1369
                have P1372 : Rg p e below (T1371.setTop (mkF m 148 #[sR a1, sR fa, sI 1, sR f1, sR g1, sI 0, sI 0, sI 2, .val (.long (y1 &&& v0)), .second] [])) B0 := fun t k => P1370 t (by
                  exact st1371 _ k)
                have Z1373 : n0 ≤ h1371.size := Nat.le_trans Z1358 K1371.1
                have K1374 : Keep h0 h1371 [a1, P, W] := K1359.trans K1371 ((allS (Or.inl (List.mem_of_getElem? (i := 0) rfl)) all0))
                obtain ⟨fs1375, hr1375, hrun1375, hended1375, hW1375, hsame1375⟩ := X1371.leave (v := none) (fun _ => rfl)
                refine ⟨_, _, pre0 _ (P1372 _ ?_), hrun1375, hended1375, _, _, rfl, ?_, ⟨⟨_, rfl⟩, hW1375, hsame1375.mono (Nat.le_of_ble_eq_true rfl) (Nat.le_of_ble_eq_true rfl)⟩⟩
                · show Sg p e below (T1371.setTop (mkF m 148 #[sR a1, sR fa, sI 1, sR f1, sR g1, sI 0, sI 0, sI 2, .val (.long (y1 &&& v0)), .second] [])) _
                  exact X1371.returnOut hx Bd.returns (hb hby dp22_3_148) hr1375
                · show Q_ret Z a1 P W kP kW M [x0, x1] ur [y0, y1] [q0] [v0] h0 n0 _ T1371.heap _
                  rw [e1371]
                  exact ⟨rfl, Nq1371, K1374, [], [x0, x1] ++ ur, [], [y0, y1] ++ vr, (0 : Int32), by rw [own_rp, if_pos r0, own_rp, if_pos r1]; rfl, by rw [own_rw, if_pos r0, own_rw, if_pos r1]; rfl, rfl, by simp, rfl, by simp [hv], u1371_0, u1371_1, u1371_2, u1371_3, u1371_4⟩
              · skip
                have f1376 := ((f1291.keep K1300).keep K1306)
                have f1377 := ((f1292.keep K1300).keep K1306)
                have f1378 := ((f1293.keep K1300).keep K1306)
                have f1379 := ((f1294.keep K1300 nin0).keep K1306 nin0)
                have f1380 := ((f1295.keep K1300 nin0).keep K1306 nin0)
                have f1381 := (f1305.keep K1306 nin0)
                have f1382 := ((f1297.keep K1300 nin0).keep K1306 nin0)
                have f1383 := ((f1298.keep K1300 nin0).keep K1306 nin0)
                have f1384 := ((f1299.keep K1300 nin0).keep K1306 nin0)
                obtain ⟨T1385, h1385, L1385, X1385, e1385, Nq1385, K1385, u1385_0, u1385_1, st1385⟩ := pc_rtk a1 fa f1 g1 P W kf kg kP kW (1 : Int32) (1 : Int32) M (0 : Int32) (0 : Int32) (1 : Int32) q0 x1 y1 v0 [(.int q0)] [(.long v0)] (([x0, x1] ++ ur).map Value.int) (([y0, y1] ++ vr).map Value.long) sU sU 0 X1306 hx hZ hw hby hml hown e1306 Nq1306 Z1308 (Nat.le_of_ble_eq_true rfl) (Nat.le_of_ble_eq_true rfl) (by decide) (by decide) g_P g_W f1376 f1377 f1378 f1379 f1380 f1381 f1382 f1383 f1384 (by decide) ⟨by decide, by decide⟩ rfl rfl (own_inb hM (k := 1) (by simp) hm) rfl rfl (Or.inl ⟨rfl, rfl⟩) q1310 q1345 q1346 (own_inb hM (k := 0) (by simp) hm) rfl (by simp) (by simp)
                have P1386 : Rg p e below (T1385.setTop (mkF m 24 #[sR a1, sR fa, sI 1, sR f1, sR g1, sI 1, sI 0, sI 2, .val (.long (y1 &&& v0)), .second] [])) B0 := fun t k => P1307 t (by
                  exact st1385 _ k)
                have Z1387 : n0 ≤ h1385.size := Nat.le_trans Z1308 K1385.1
                have K1388 : Keep h0 h1385 [a1, P, W] := K1309.trans K1385 ((allS (Or.inl (List.mem_of_getElem? (i := 1) rfl)) (allS (Or.inl (List.mem_of_getElem? (i := 2) rfl)) all0)))
                have AP1385 : Arv Z h1385 P kP .int M (([x1, x1] ++ ur).map Value.int) (.int (0 : Int32)) := u1385_0
                have AW1385 : Arv Z h1385 W kW .long M (([(y1 &&& v0), y1] ++ vr).map Value.long) (.long (0 : Int64)) := u1385_1
                have f1389 := ((f1304.keep K1306 nin0).keep K1385 (ninS (Exa.ne E1 EP (by decide)) (ninS (Exa.ne E1 EW1 (by decide)) nin0)))
                obtain ⟨T1390, X1390, e1390, st1390⟩ := getF X1385 hx hZ hown (host := "") (Or.inl (own_hw hw 48 rfl)) Via.refl e1385 f1389 (g := (mkF m 27 #[sR a1, sR fa, sI 1, sR f1, sR g1, sI 1, sI 0, sI 2, .val (.long (y1 &&& v0)), .second] [(.ref a1), (.int (2 : Int32))])) rfl rfl (hb hby dp22_3_27)
                have P1391 : Rg p e below (T1390.setTop (mkF m 30 #[sR a1, sR fa, sI 1, sR f1, sR g1, sI 1, sI 0, sI 2, .val (.long (y1 &&& v0)), .second] [(.int (2 : Int32)), (.int (2 : Int32))])) B0 := fun t k => P1386 t (by
                  refine XS.iload X1385.here hx rfl (hb hby dp22_3_24) rfl ?_
                  refine XS.aloadN X1385.here hx rfl (hb hby dp22_3_26) rfl rfl ?_
                  show Sg p e below (T1385.setTop (mkF m 27 #[sR a1, sR fa, sI 1, sR f1, sR g1, sI 1, sI 0, sI 2, .val (.long (y1 &&& v0)), .second] [(.ref a1), (.int (2 : Int32))])) _
                  exact st1390 _ k)
                have lk0 : own_look [q0] [v0] x0 = 0 := by simp only [own_look]; rw [if_neg (fun e => by have e' := congrArg Int32.toInt e; omega)]
                have r0 : y0 &&& own_look [q0] [v0] x0 = 0 := by rw [lk0]; exact own_and0 _
                have lk1 : own_look [q0] [v0] x1 = v0 := by simp only [own_look]; rw [if_pos q1345]
                have r1 : ¬ y1 &&& own_look [q0] [v0] x1 = 0 := by rw [lk1]; exact q1346
                have f1392 := (f1376.keep K1385)
                have f1393 := (f1377.keep K1385)
                have f1394 := (f1378.keep K1385)
                have f1395 := (f1379.keep K1385 (ninS (Exa.ne E1 EP (by decide)) (ninS (Exa.ne E1 EW1 (by decide)) nin0)))
                have f1396 := (f1380.keep K1385 (ninS (Exa.ne E1 EP (by decide)) (ninS (Exa.ne E1 EW1 (by decide)) nin0)))
                have P1397 : Rg p e below (T1390.setTop (mkF m 142 #[sR a1, sR fa, sI 1, sR f1, sR g1, sI 1, sI 0, sI 2, .val (.long (y1 &&& v0)), .second] [])) B0 := fun t k => P1391 t (by
                  refine XS.icmpYes X1390.here hx rfl (pc0 := 30) (pc' := 142) rfl (hb hby dp22_3_30) rfl (flt (show ¬ ((2 : Int32) < (2 : Int32)) from (by decide))).2.1 (by decide) (by decide) ?_
                  show Sg p e below (T1390.setTop (mkF m 142 #[sR a1, sR fa, sI 1, sR f1, sR g1, sI 1, sI 0, sI 2, .val (.long (y1 &&& v0)), .second] [])) _
                  exact k)
                obtain ⟨T1398, h1398, L1398, X1398, e1398, Nq1398, K1398, u1398_0, u1398_1, u1398_2, u1398_3, u1398_4, st1398⟩ := pc_rtx a1 fa f1 g1 P W kP kW (1 : Int32) M (2 : Int32) (1 : Int32) (0 : Int32) (2 : Int32) (([x1, x1] ++ ur).map Value.int) (([(y1 &&& v0), y1] ++ vr).map Value.long) (.val (.long (y1 &&& v0))) .second X1390 hx hZ hw hby hml hown e1390 Nq1385 Z1387 (Nat.le_of_ble_eq_true rfl) (Nat.le_of_ble_eq_true rfl) (by decide) (by decide) g_a1 f1392 f1393 f1394 f1395 f1396 f1389 AP1385 AW1385
                have P1399 : Rg p e below (T1398.setTop (mkF m 148 #[sR a1, sR fa, sI 1, sR f1, sR g1, sI 1, sI 0, sI 2, .val (.long (y1 &&& v0)), .second] [])) B0 := fun t k => P1397 t (by
                  exact st1398 _ k)
                have Z1400 : n0 ≤ h1398.size := Nat.le_trans Z1387 K1398.1
                have K1401 : Keep h0 h1398 [a1, P, W] := K1388.trans K1398 ((allS (Or.inl (List.mem_of_getElem? (i := 0) rfl)) all0))
                obtain ⟨fs1402, hr1402, hrun1402, hended1402, hW1402, hsame1402⟩ := X1398.leave (v := none) (fun _ => rfl)
                refine ⟨_, _, pre0 _ (P1399 _ ?_), hrun1402, hended1402, _, _, rfl, ?_, ⟨⟨_, rfl⟩, hW1402, hsame1402.mono (Nat.le_of_ble_eq_true rfl) (Nat.le_of_ble_eq_true rfl)⟩⟩
                · show Sg p e below (T1398.setTop (mkF m 148 #[sR a1, sR fa, sI 1, sR f1, sR g1, sI 1, sI 0, sI 2, .val (.long (y1 &&& v0)), .second] [])) _
                  exact X1398.returnOut hx Bd.returns (hb hby dp22_3_148) hr1402
                · show Q_ret Z a1 P W kP kW M [x0, x1] ur [y0, y1] [q0] [v0] h0 n0 _ T1398.heap _
                  rw [e1398]
                  exact ⟨rfl, Nq1398, K1401, [x1], [x1] ++ ur, [(y1 &&& v0)], [y1] ++ vr, (1 : Int32), by rw [own_rp, if_pos r0, own_rp, if_neg r1]; rfl, by rw [own_rw, if_pos r0, own_rw, if_neg r1, lk1]; rfl, rfl, by simp, rfl, by simp [hv], u1398_0, u1398_1, u1398_2, u1398_3, u1398_4⟩
            · skip
              have tq1345 : ¬ q0.toInt = x1.toInt := fun y => q1345 (Int32.toInt_inj.mp y)
              have f1403 := ((f1291.keep K1300).keep K1306)
              have f1404 := ((f1292.keep K1300).keep K1306)
              have f1405 := ((f1293.keep K1300).keep K1306)
              have f1406 := ((f1294.keep K1300 nin0).keep K1306 nin0)
              have f1407 := ((f1295.keep K1300 nin0).keep K1306 nin0)
              have f1408 := (f1305.keep K1306 nin0)
              have f1409 := ((f1297.keep K1300 nin0).keep K1306 nin0)
              have f1410 := ((f1298.keep K1300 nin0).keep K1306 nin0)
              have f1411 := ((f1299.keep K1300 nin0).keep K1306 nin0)
              obtain ⟨T1412, h1412, L1412, X1412, e1412, Nq1412, K1412, st1412⟩ := pc_rtn a1 fa f1 g1 P W kf kg kP kW (1 : Int32) (1 : Int32) M (0 : Int32) (0 : Int32) (1 : Int32) q0 x1 y1 v0 [(.int q0)] [(.long v0)] (([x0, x1] ++ ur).map Value.int) (([y0, y1] ++ vr).map Value.long) sU sU X1306 hx hZ hw hby hml hown e1306 Nq1306 Z1308 (Nat.le_of_ble_eq_true rfl) (Nat.le_of_ble_eq_true rfl) (by decide) (by decide) g_P g_W f1403 f1404 f1405 f1406 f1407 f1408 f1409 f1410 f1411 (by decide) ⟨by decide, by decide⟩ rfl rfl (own_inb hM (k := 1) (by simp) hm) rfl rfl (Or.inl ⟨rfl, rfl⟩) q1310 q1345
              have P1413 : Rg p e below (T1412.setTop (mkF m 24 #[sR a1, sR fa, sI 1, sR f1, sR g1, sI 0, sI 0, sI 2, sU, sU] [])) B0 := fun t k => P1307 t (by
                exact st1412 _ k)
              have Z1414 : n0 ≤ h1412.size := Nat.le_trans Z1308 K1412.1
              have K1415 : Keep h0 h1412 [a1, P, W] := K1309.trans K1412 (all0)
              have f1416 := ((f1304.keep K1306 nin0).keep K1412 nin0)
              obtain ⟨T1417, X1417, e1417, st1417⟩ := getF X1412 hx hZ hown (host := "") (Or.inl (own_hw hw 48 rfl)) Via.refl e1412 f1416 (g := (mkF m 27 #[sR a1, sR fa, sI 1, sR f1, sR g1, sI 0, sI 0, sI 2, sU, sU] [(.ref a1), (.int (2 : Int32))])) rfl rfl (hb hby dp22_3_27)
              have P1418 : Rg p e below (T1417.setTop (mkF m 30 #[sR a1, sR fa, sI 1, sR f1, sR g1, sI 0, sI 0, sI 2, sU, sU] [(.int (2 : Int32)), (.int (2 : Int32))])) B0 := fun t k => P1413 t (by
                refine XS.iload X1412.here hx rfl (hb hby dp22_3_24) rfl ?_
                refine XS.aloadN X1412.here hx rfl (hb hby dp22_3_26) rfl rfl ?_
                show Sg p e below (T1412.setTop (mkF m 27 #[sR a1, sR fa, sI 1, sR f1, sR g1, sI 0, sI 0, sI 2, sU, sU] [(.ref a1), (.int (2 : Int32))])) _
                exact st1417 _ k)
              have lk0 : own_look [q0] [v0] x0 = 0 := by simp only [own_look]; rw [if_neg (fun e => by have e' := congrArg Int32.toInt e; omega)]
              have r0 : y0 &&& own_look [q0] [v0] x0 = 0 := by rw [lk0]; exact own_and0 _
              have lk1 : own_look [q0] [v0] x1 = 0 := by simp only [own_look]; rw [if_neg (fun e => by have e' := congrArg Int32.toInt e; omega)]
              have r1 : y1 &&& own_look [q0] [v0] x1 = 0 := by rw [lk1]; exact own_and0 _
              have f1419 := (f1403.keep K1412)
              have f1420 := (f1404.keep K1412)
              have f1421 := (f1405.keep K1412)
              have f1422 := (f1406.keep K1412 nin0)
              have f1423 := (f1407.keep K1412 nin0)
              have f1424 := (f1410.keep K1412 nin0)
              have f1425 := (f1411.keep K1412 nin0)
              have P1426 : Rg p e below (T1417.setTop (mkF m 142 #[sR a1, sR fa, sI 1, sR f1, sR g1, sI 0, sI 0, sI 2, sU, sU] [])) B0 := fun t k => P1418 t (by
                refine XS.icmpYes X1417.here hx rfl (pc0 := 30) (pc' := 142) rfl (hb hby dp22_3_30) rfl (flt (show ¬ ((2 : Int32) < (2 : Int32)) from (by decide))).2.1 (by decide) (by decide) ?_
                show Sg p e below (T1417.setTop (mkF m 142 #[sR a1, sR fa, sI 1, sR f1, sR g1, sI 0, sI 0, sI 2, sU, sU] [])) _
                exact k)
              obtain ⟨T1427, h1427, L1427, X1427, e1427, Nq1427, K1427, u1427_0, u1427_1, u1427_2, u1427_3, u1427_4, st1427⟩ := pc_rtx a1 fa f1 g1 P W kP kW (1 : Int32) M (2 : Int32) (0 : Int32) (0 : Int32) (2 : Int32) (([x0, x1] ++ ur).map Value.int) (([y0, y1] ++ vr).map Value.long) sU sU X1417 hx hZ hw hby hml hown e1417 Nq1412 Z1414 (Nat.le_of_ble_eq_true rfl) (Nat.le_of_ble_eq_true rfl) (by decide) (by decide) g_a1 f1419 f1420 f1421 f1422 f1423 f1416 f1424 f1425
              have P1428 : Rg p e below (T1427.setTop (mkF m 148 #[sR a1, sR fa, sI 1, sR f1, sR g1, sI 0, sI 0, sI 2, sU, sU] [])) B0 := fun t k => P1426 t (by
                exact st1427 _ k)
              have Z1429 : n0 ≤ h1427.size := Nat.le_trans Z1414 K1427.1
              have K1430 : Keep h0 h1427 [a1, P, W] := K1415.trans K1427 ((allS (Or.inl (List.mem_of_getElem? (i := 0) rfl)) all0))
              obtain ⟨fs1431, hr1431, hrun1431, hended1431, hW1431, hsame1431⟩ := X1427.leave (v := none) (fun _ => rfl)
              refine ⟨_, _, pre0 _ (P1428 _ ?_), hrun1431, hended1431, _, _, rfl, ?_, ⟨⟨_, rfl⟩, hW1431, hsame1431.mono (Nat.le_of_ble_eq_true rfl) (Nat.le_of_ble_eq_true rfl)⟩⟩
              · show Sg p e below (T1427.setTop (mkF m 148 #[sR a1, sR fa, sI 1, sR f1, sR g1, sI 0, sI 0, sI 2, sU, sU] [])) _
                exact X1427.returnOut hx Bd.returns (hb hby dp22_3_148) hr1431
              · show Q_ret Z a1 P W kP kW M [x0, x1] ur [y0, y1] [q0] [v0] h0 n0 _ T1427.heap _
                rw [e1427]
                exact ⟨rfl, Nq1427, K1430, [], [x0, x1] ++ ur, [], [y0, y1] ++ vr, (0 : Int32), by rw [own_rp, if_pos r0, own_rp, if_pos r1]; rfl, by rw [own_rw, if_pos r0, own_rw, if_pos r1]; rfl, rfl, by simp, rfl, by simp [hv], u1427_0, u1427_1, u1427_2, u1427_3, u1427_4⟩
    · skip
      have hN' : N = (2 : Int32) := hNq
      subst hN'
      obtain ⟨v0, v1, rfl⟩ := own_len2 hvl
      have hq01 := Int32.lt_iff_toInt_lt.mp (own_p2 hsq)
      obtain ⟨T1432, X1432, e1432, st1432⟩ := getF X0 hx hZ hown (Or.inr (own_hw hw 46 rfl)) Via.refl e0 Ffp (g := (mkF m 1 #[sR a1, sR fa, sI 1, sU, sU, sU, sU, sU, sU, sU] [(.ref fa)])) rfl rfl (hb hby dp22_3_1)
      have P1433 : Rg p e below (T1432.setTop (mkF m 4 #[sR a1, sR fa, sI 1, sU, sU, sU, sU, sU, sU, sU] [(.ref PP)])) B0 := fun t k => P0 t (by
        refine XS.aloadN X0.here hx rfl (hb hby dp22_3_0) rfl rfl ?_
        show Sg p e below (s₁.setTop (mkF m 1 #[sR a1, sR fa, sI 1, sU, sU, sU, sU, sU, sU, sU] [(.ref fa)])) _
        exact st1432 _ k)
      obtain ⟨cl1434, Ar1434, -, S1434, N1434, H1434, -⟩ := id APP
      have hin1434 : ¬ ((1 : Int32) < 0 ∨ cl1434.slots.size ≤ ((1 : Int32)).toNatClampNeg) := inb_of S1434 ⟨by decide, by decide⟩
      obtain ⟨T1435, X1435, e1435, st1435⟩ := getF X1432 hx hZ hown (Or.inr (own_hw hw 47 rfl)) Via.refl e1432 Ffw (g := (mkF m 8 #[sR a1, sR fa, sI 1, sR f1, sU, sU, sU, sU, sU, sU] [(.ref fa)])) rfl rfl (hb hby dp22_3_8)
      have P1436 : Rg p e below (T1435.setTop (mkF m 11 #[sR a1, sR fa, sI 1, sR f1, sU, sU, sU, sU, sU, sU] [(.ref WW)])) B0 := fun t k => P1433 t (by
        refine XS.iloadN X1432.here hx rfl (hb hby dp22_3_4) rfl ?_
        show Sg p e below (T1432.setTop (mkF m 5 #[sR a1, sR fa, sI 1, sU, sU, sU, sU, sU, sU, sU] [(.int (1 : Int32)), (.ref PP)])) _
        refine X1432.aaload hx (j := (1 : Int32)) (v := (.ref f1)) (by rw [e1432]; exact Ar1434.1) (State.isArrayOf_alike hZ.alike Ar1434.2.1) rfl Ar1434.2.2 hin1434 (H1434.at hin1434 rfl) (g := (mkF m 5 #[sR a1, sR fa, sI 1, sU, sU, sU, sU, sU, sU, sU] [(.int (1 : Int32)), (.ref PP)])) rfl rfl (hb hby dp22_3_5) _ ?_
        show Sg p e below (T1432.setTop (mkF m 6 #[sR a1, sR fa, sI 1, sU, sU, sU, sU, sU, sU, sU] [(.ref f1)])) _
        refine XS.astoreN X1432.here hx rfl (hb hby dp22_3_6) rfl rfl (l' := #[sR a1, sR fa, sI 1, sR f1, sU, sU, sU, sU, sU, sU]) rfl ?_
        refine XS.aloadN X1432.here hx rfl (hb hby dp22_3_7) rfl rfl ?_
        show Sg p e below (T1432.setTop (mkF m 8 #[sR a1, sR fa, sI 1, sR f1, sU, sU, sU, sU, sU, sU] [(.ref fa)])) _
        exact st1435 _ k)
      obtain ⟨cl1437, Ar1437, -, S1437, N1437, H1437, -⟩ := id AWW
      have hin1437 : ¬ ((1 : Int32) < 0 ∨ cl1437.slots.size ≤ ((1 : Int32)).toNatClampNeg) := inb_of S1437 ⟨by decide, by decide⟩
      have P1438 : Rg p e below (T1435.setTop (mkF m 24 #[sR a1, sR fa, sI 1, sR f1, sR g1, sI 0, sI 0, sI 0, sU, sU] [])) B0 := fun t k => P1436 t (by
        refine XS.iloadN X1435.here hx rfl (hb hby dp22_3_11) rfl ?_
        show Sg p e below (T1435.setTop (mkF m 12 #[sR a1, sR fa, sI 1, sR f1, sU, sU, sU, sU, sU, sU] [(.int (1 : Int32)), (.ref WW)])) _
        refine X1435.aaload hx (j := (1 : Int32)) (v := (.ref g1)) (by rw [e1435]; exact Ar1437.1) (State.isArrayOf_alike hZ.alike Ar1437.2.1) rfl Ar1437.2.2 hin1437 (H1437.at hin1437 rfl) (g := (mkF m 12 #[sR a1, sR fa, sI 1, sR f1, sU, sU, sU, sU, sU, sU] [(.int (1 : Int32)), (.ref WW)])) rfl rfl (hb hby dp22_3_12) _ ?_
        show Sg p e below (T1435.setTop (mkF m 13 #[sR a1, sR fa, sI 1, sR f1, sU, sU, sU, sU, sU, sU] [(.ref g1)])) _
        refine XS.astore X1435.here hx rfl (hb hby dp22_3_13) rfl rfl (l' := #[sR a1, sR fa, sI 1, sR f1, sR g1, sU, sU, sU, sU, sU]) rfl ?_
        refine XS.iconst X1435.here hx rfl (hb hby dp22_3_15) ?_
        refine XS.istore X1435.here hx rfl (hb hby dp22_3_16) rfl (l' := #[sR a1, sR fa, sI 1, sR f1, sR g1, sI 0, sU, sU, sU, sU]) rfl ?_
        refine XS.iconst X1435.here hx rfl (hb hby dp22_3_18) ?_
        refine XS.istore X1435.here hx rfl (hb hby dp22_3_19) rfl (l' := #[sR a1, sR fa, sI 1, sR f1, sR g1, sI 0, sI 0, sU, sU, sU]) rfl ?_
        refine XS.iconst X1435.here hx rfl (hb hby dp22_3_21) ?_
        refine XS.istore X1435.here hx rfl (hb hby dp22_3_22) rfl (l' := #[sR a1, sR fa, sI 1, sR f1, sR g1, sI 0, sI 0, sI 0, sU, sU]) rfl ?_
        show Sg p e below (T1435.setTop (mkF m 24 #[sR a1, sR fa, sI 1, sR f1, sR g1, sI 0, sI 0, sI 0, sU, sU] [])) _
        exact k)
      obtain ⟨T1439, h1439, L1439, X1439, e1439, Nq1439, K1439, st1439⟩ := pc_rth a1 fa f1 g1 kf (1 : Int32) (2 : Int32) (2 : Int32) (0 : Int32) (0 : Int32) (0 : Int32) [(.int q0), (.int q1)] sU sU X1435 hx hZ hw hby hml hown e1435 N0 Z0 (Nat.le_of_ble_eq_true rfl) (Nat.le_of_ble_eq_true rfl) (by decide) (by decide) Fc Af (by decide) (by decide)
      have P1440 : Rg p e below (T1439.setTop (mkF m 40 #[sR a1, sR fa, sI 1, sR f1, sR g1, sI 0, sI 0, sI 0, sU, sU] [])) B0 := fun t k => P1438 t (by
        exact st1439 _ k)
      have Z1441 : n0 ≤ h1439.size := Nat.le_trans Z0 K1439.1
      have K1442 : Keep h0 h1439 [a1, P, W] := (Keep.refl h0 [a1, P, W]).trans K1439 (all0)
      by_cases q1443 : q0 < x0
      · skip
        have tq1443 := Int32.lt_iff_toInt_lt.mp q1443
        have f1444 := (E1.keep K1439)
        have f1445 := (EP.keep K1439)
        have f1446 := (EW1.keep K1439)
        have f1447 := (Fp.keep K1439 nin0)
        have f1448 := (Fw.keep K1439 nin0)
        have f1449 := (Af.keep K1439 nin0)
        have f1450 := (Ag.keep K1439 nin0)
        have f1451 := (AP.keep K1439 nin0)
        have f1452 := (AW.keep K1439 nin0)
        obtain ⟨T1453, h1453, L1453, X1453, e1453, Nq1453, K1453, st1453⟩ := pc_rtv a1 fa f1 g1 P W kf kg kP kW (1 : Int32) (2 : Int32) M (0 : Int32) (0 : Int32) (0 : Int32) q0 x0 y0 v0 [(.int q0), (.int q1)] [(.long v0), (.long v1)] (([x0, x1] ++ ur).map Value.int) (([y0, y1] ++ vr).map Value.long) sU sU X1439 hx hZ hw hby hml hown e1439 Nq1439 Z1441 (Nat.le_of_ble_eq_true rfl) (Nat.le_of_ble_eq_true rfl) (by decide) (by decide) g_P g_W f1444 f1445 f1446 f1447 f1448 f1449 f1450 f1451 f1452 (by decide) ⟨by decide, by decide⟩ rfl rfl (own_inb hM (k := 0) (by simp) hm) rfl rfl (Or.inl ⟨rfl, rfl⟩) q1443
        have P1454 : Rg p e below (T1453.setTop (mkF m 40 #[sR a1, sR fa, sI 1, sR f1, sR g1, sI 0, sI 1, sI 0, sU, sU] [])) B0 := fun t k => P1440 t (by
          exact st1453 _ k)
        have Z1455 : n0 ≤ h1453.size := Nat.le_trans Z1441 K1453.1
        have K1456 : Keep h0 h1453 [a1, P, W] := K1442.trans K1453 (all0)
        by_cases q1457 : q1 < x0
        · skip
          have tq1457 := Int32.lt_iff_toInt_lt.mp q1457
          have f1458 := (f1444.keep K1453)
          have f1459 := (f1445.keep K1453)
          have f1460 := (f1446.keep K1453)
          have f1461 := (f1447.keep K1453 nin0)
          have f1462 := (f1448.keep K1453 nin0)
          have f1463 := (f1449.keep K1453 nin0)
          have f1464 := (f1450.keep K1453 nin0)
          have f1465 := (f1451.keep K1453 nin0)
          have f1466 := (f1452.keep K1453 nin0)
          obtain ⟨T1467, h1467, L1467, X1467, e1467, Nq1467, K1467, st1467⟩ := pc_rtv a1 fa f1 g1 P W kf kg kP kW (1 : Int32) (2 : Int32) M (0 : Int32) (1 : Int32) (0 : Int32) q1 x0 y0 v1 [(.int q0), (.int q1)] [(.long v0), (.long v1)] (([x0, x1] ++ ur).map Value.int) (([y0, y1] ++ vr).map Value.long) sU sU X1453 hx hZ hw hby hml hown e1453 Nq1453 Z1455 (Nat.le_of_ble_eq_true rfl) (Nat.le_of_ble_eq_true rfl) (by decide) (by decide) g_P g_W f1458 f1459 f1460 f1461 f1462 f1463 f1464 f1465 f1466 (by decide) ⟨by decide, by decide⟩ rfl rfl (own_inb hM (k := 0) (by simp) hm) rfl rfl (Or.inl ⟨rfl, rfl⟩) q1457
          have P1468 : Rg p e below (T1467.setTop (mkF m 40 #[sR a1, sR fa, sI 1, sR f1, sR g1, sI 0, sI 2, sI 0, sU, sU] [])) B0 := fun t k => P1454 t (by
            exact st1467 _ k)
          have Z1469 : n0 ≤ h1467.size := Nat.le_trans Z1455 K1467.1
          have K1470 : Keep h0 h1467 [a1, P, W] := K1456.trans K1467 (all0)
          have f1471 := (f1463.keep K1467 nin0)
          obtain ⟨T1472, h1472, L1472, X1472, e1472, Nq1472, K1472, st1472⟩ := pc_rtd a1 fa f1 g1 kf (1 : Int32) (2 : Int32) (0 : Int32) (2 : Int32) (0 : Int32) [(.int q0), (.int q1)] sU sU X1467 hx hZ hw hby hml hown e1467 Nq1467 Z1469 (Nat.le_of_ble_eq_true rfl) (Nat.le_of_ble_eq_true rfl) (by decide) (by decide) f1471 (by decide)
          have P1473 : Rg p e below (T1472.setTop (mkF m 24 #[sR a1, sR fa, sI 1, sR f1, sR g1, sI 0, sI 2, sI 1, sU, sU] [])) B0 := fun t k => P1468 t (by
            exact st1472 _ k)
          have Z1474 : n0 ≤ h1472.size := Nat.le_trans Z1469 K1472.1
          have K1475 : Keep h0 h1472 [a1, P, W] := K1470.trans K1472 (all0)
          have f1476 := ((((Fc.keep K1439 nin0).keep K1453 nin0).keep K1467 nin0).keep K1472 nin0)
          obtain ⟨T1477, X1477, e1477, st1477⟩ := getF X1472 hx hZ hown (host := "") (Or.inl (own_hw hw 48 rfl)) Via.refl e1472 f1476 (g := (mkF m 27 #[sR a1, sR fa, sI 1, sR f1, sR g1, sI 0, sI 2, sI 1, sU, sU] [(.ref a1), (.int (1 : Int32))])) rfl rfl (hb hby dp22_3_27)
          have P1478 : Rg p e below (T1477.setTop (mkF m 30 #[sR a1, sR fa, sI 1, sR f1, sR g1, sI 0, sI 2, sI 1, sU, sU] [(.int (2 : Int32)), (.int (1 : Int32))])) B0 := fun t k => P1473 t (by
            refine XS.iload X1472.here hx rfl (hb hby dp22_3_24) rfl ?_
            refine XS.aloadN X1472.here hx rfl (hb hby dp22_3_26) rfl rfl ?_
            show Sg p e below (T1472.setTop (mkF m 27 #[sR a1, sR fa, sI 1, sR f1, sR g1, sI 0, sI 2, sI 1, sU, sU] [(.ref a1), (.int (1 : Int32))])) _
            exact st1477 _ k)
          have f1479 := (f1471.keep K1472 nin0)
          obtain ⟨cl1480, Ar1480, -, S1480, N1480, -, -⟩ := id f1479
          have lk0 : own_look [q0, q1] [v0, v1] x0 = 0 := by simp only [own_look]; rw [if_neg (fun e => by have e' := congrArg Int32.toInt e; omega), if_neg (fun e => by have e' := congrArg Int32.toInt e; omega)]
          have r0 : y0 &&& own_look [q0, q1] [v0, v1] x0 = 0 := by rw [lk0]; exact own_and0 _
          have lk1 : own_look [q0, q1] [v0, v1] x1 = 0 := by simp only [own_look]; rw [if_neg (fun e => by have e' := congrArg Int32.toInt e; omega), if_neg (fun e => by have e' := congrArg Int32.toInt e; omega)]
          have r1 : y1 &&& own_look [q0, q1] [v0, v1] x1 = 0 := by rw [lk1]; exact own_and0 _
          have f1481 := ((f1458.keep K1467).keep K1472)
          have f1482 := ((f1459.keep K1467).keep K1472)
          have f1483 := ((f1460.keep K1467).keep K1472)
          have f1484 := ((f1461.keep K1467 nin0).keep K1472 nin0)
          have f1485 := ((f1462.keep K1467 nin0).keep K1472 nin0)
          have f1486 := ((f1465.keep K1467 nin0).keep K1472 nin0)
          have f1487 := ((f1466.keep K1467 nin0).keep K1472 nin0)
          have P1488 : Rg p e below (T1477.setTop (mkF m 142 #[sR a1, sR fa, sI 1, sR f1, sR g1, sI 0, sI 2, sI 1, sU, sU] [])) B0 := fun t k => P1478 t (by
            refine XS.icmpNo X1477.here hx rfl (hb hby dp22_3_30) rfl (tlt (show (1 : Int32) < (2 : Int32) from (by decide))).2.1 ?_
            refine XS.iload X1477.here hx rfl (hb hby dp22_3_33) rfl ?_
            refine XS.aloadN X1477.here hx rfl (hb hby dp22_3_35) rfl rfl ?_
            show Sg p e below (T1477.setTop (mkF m 36 #[sR a1, sR fa, sI 1, sR f1, sR g1, sI 0, sI 2, sI 1, sU, sU] [(.ref f1), (.int (2 : Int32))])) _
            refine X1477.arraylength hx (by rw [e1477]; exact Ar1480.1) (State.isArrayOf_alike hZ.alike Ar1480.2.1) (g := (mkF m 36 #[sR a1, sR fa, sI 1, sR f1, sR g1, sI 0, sI 2, sI 1, sU, sU] [(.ref f1), (.int (2 : Int32))])) rfl rfl (hb hby dp22_3_36) _ ?_
            rw [len_of S1480 N1480]
            show Sg p e below (T1477.setTop (mkF m 37 #[sR a1, sR fa, sI 1, sR f1, sR g1, sI 0, sI 2, sI 1, sU, sU] [(.int (2 : Int32)), (.int (2 : Int32))])) _
            refine XS.icmpYes X1477.here hx rfl (pc0 := 37) (pc' := 142) rfl (hb hby dp22_3_37) rfl (flt (show ¬ ((2 : Int32) < (2 : Int32)) from (by decide))).2.1 (by decide) (by decide) ?_
            show Sg p e below (T1477.setTop (mkF m 142 #[sR a1, sR fa, sI 1, sR f1, sR g1, sI 0, sI 2, sI 1, sU, sU] [])) _
            exact k)
          obtain ⟨T1489, h1489, L1489, X1489, e1489, Nq1489, K1489, u1489_0, u1489_1, u1489_2, u1489_3, u1489_4, st1489⟩ := pc_rtx a1 fa f1 g1 P W kP kW (1 : Int32) M (2 : Int32) (0 : Int32) (2 : Int32) (1 : Int32) (([x0, x1] ++ ur).map Value.int) (([y0, y1] ++ vr).map Value.long) sU sU X1477 hx hZ hw hby hml hown e1477 Nq1472 Z1474 (Nat.le_of_ble_eq_true rfl) (Nat.le_of_ble_eq_true rfl) (by decide) (by decide) g_a1 f1481 f1482 f1483 f1484 f1485 f1476 f1486 f1487
          have P1490 : Rg p e below (T1489.setTop (mkF m 148 #[sR a1, sR fa, sI 1, sR f1, sR g1, sI 0, sI 2, sI 1, sU, sU] [])) B0 := fun t k => P1488 t (by
            exact st1489 _ k)
          have Z1491 : n0 ≤ h1489.size := Nat.le_trans Z1474 K1489.1
          have K1492 : Keep h0 h1489 [a1, P, W] := K1475.trans K1489 ((allS (Or.inl (List.mem_of_getElem? (i := 0) rfl)) all0))
          obtain ⟨fs1493, hr1493, hrun1493, hended1493, hW1493, hsame1493⟩ := X1489.leave (v := none) (fun _ => rfl)
          refine ⟨_, _, pre0 _ (P1490 _ ?_), hrun1493, hended1493, _, _, rfl, ?_, ⟨⟨_, rfl⟩, hW1493, hsame1493.mono (Nat.le_of_ble_eq_true rfl) (Nat.le_of_ble_eq_true rfl)⟩⟩
          · show Sg p e below (T1489.setTop (mkF m 148 #[sR a1, sR fa, sI 1, sR f1, sR g1, sI 0, sI 2, sI 1, sU, sU] [])) _
            exact X1489.returnOut hx Bd.returns (hb hby dp22_3_148) hr1493
          · show Q_ret Z a1 P W kP kW M [x0, x1] ur [y0, y1] [q0, q1] [v0, v1] h0 n0 _ T1489.heap _
            rw [e1489]
            exact ⟨rfl, Nq1489, K1492, [], [x0, x1] ++ ur, [], [y0, y1] ++ vr, (0 : Int32), by rw [own_rp, if_pos r0, own_rp, if_pos r1]; rfl, by rw [own_rw, if_pos r0, own_rw, if_pos r1]; rfl, rfl, by simp, rfl, by simp [hv], u1489_0, u1489_1, u1489_2, u1489_3, u1489_4⟩
        · skip
          have tq1457 : ¬ q1.toInt < x0.toInt := fun y => q1457 (Int32.lt_iff_toInt_lt.mpr y)
          by_cases q1494 : q1 = x0
          · skip
            have hit0 := q1494
            have thit0 := congrArg Int32.toInt q1494
            by_cases q1495 : y0 &&& v1 = (0 : Int64)
            · skip
              have f1496 := (f1444.keep K1453)
              have f1497 := (f1445.keep K1453)
              have f1498 := (f1446.keep K1453)
              have f1499 := (f1447.keep K1453 nin0)
              have f1500 := (f1448.keep K1453 nin0)
              have f1501 := (f1449.keep K1453 nin0)
              have f1502 := (f1450.keep K1453 nin0)
              have f1503 := (f1451.keep K1453 nin0)
              have f1504 := (f1452.keep K1453 nin0)
              obtain ⟨T1505, h1505, L1505, X1505, e1505, Nq1505, K1505, st1505⟩ := pc_rtz a1 fa f1 g1 P W kf kg kP kW (1 : Int32) (2 : Int32) M (0 : Int32) (1 : Int32) (0 : Int32) q1 x0 y0 v1 [(.int q0), (.int q1)] [(.long v0), (.long v1)] (([x0, x1] ++ ur).map Value.int) (([y0, y1] ++ vr).map Value.long) sU sU X1453 hx hZ hw hby hml hown e1453 Nq1453 Z1455 (Nat.le_of_ble_eq_true rfl) (Nat.le_of_ble_eq_true rfl) (by decide) (by decide) g_P g_W f1496 f1497 f1498 f1499 f1500 f1501 f1502 f1503 f1504 (by decide) ⟨by decide, by decide⟩ rfl rfl (own_inb hM (k := 0) (by simp) hm) rfl rfl (Or.inl ⟨rfl, rfl⟩) q1457 q1494 q1495
              have P1506 : Rg p e below (T1505.setTop (mkF m 24 #[sR a1, sR fa, sI 1, sR f1, sR g1, sI 0, sI 1, sI 1, .val (.long (y0 &&& v1)), .second] [])) B0 := fun t k => P1454 t (by
                exact st1505 _ k)
              have Z1507 : n0 ≤ h1505.size := Nat.le_trans Z1455 K1505.1
              have K1508 : Keep h0 h1505 [a1, P, W] := K1456.trans K1505 (all0)
              have f1509 := (((Fc.keep K1439 nin0).keep K1453 nin0).keep K1505 nin0)
              have f1510 := (f1501.keep K1505 nin0)
              obtain ⟨T1511, h1511, L1511, X1511, e1511, Nq1511, K1511, st1511⟩ := pc_rth a1 fa f1 g1 kf (1 : Int32) (2 : Int32) (2 : Int32) (0 : Int32) (1 : Int32) (1 : Int32) [(.int q0), (.int q1)] (.val (.long (y0 &&& v1))) .second X1505 hx hZ hw hby hml hown e1505 Nq1505 Z1507 (Nat.le_of_ble_eq_true rfl) (Nat.le_of_ble_eq_true rfl) (by decide) (by decide) f1509 f1510 (by decide) (by decide)
              have P1512 : Rg p e below (T1511.setTop (mkF m 40 #[sR a1, sR fa, sI 1, sR f1, sR g1, sI 0, sI 1, sI 1, .val (.long (y0 &&& v1)), .second] [])) B0 := fun t k => P1506 t (by
                exact st1511 _ k)
              have Z1513 : n0 ≤ h1511.size := Nat.le_trans Z1507 K1511.1
              have K1514 : Keep h0 h1511 [a1, P, W] := K1508.trans K1511 (all0)
              have lq11 : q1 < x1 := by rw [hit0]; exact own_p2 hs
              have f1515 := ((f1496.keep K1505).keep K1511)
              have f1516 := ((f1497.keep K1505).keep K1511)
              have f1517 := ((f1498.keep K1505).keep K1511)
              have f1518 := ((f1499.keep K1505 nin0).keep K1511 nin0)
              have f1519 := ((f1500.keep K1505 nin0).keep K1511 nin0)
              have f1520 := (f1510.keep K1511 nin0)
              have f1521 := ((f1502.keep K1505 nin0).keep K1511 nin0)
              have f1522 := ((f1503.keep K1505 nin0).keep K1511 nin0)
              have f1523 := ((f1504.keep K1505 nin0).keep K1511 nin0)
              obtain ⟨T1524, h1524, L1524, X1524, e1524, Nq1524, K1524, st1524⟩ := pc_rtv a1 fa f1 g1 P W kf kg kP kW (1 : Int32) (2 : Int32) M (0 : Int32) (1 : Int32) (1 : Int32) q1 x1 y1 v1 [(.int q0), (.int q1)] [(.long v0), (.long v1)] (([x0, x1] ++ ur).map Value.int) (([y0, y1] ++ vr).map Value.long) (.val (.long (y0 &&& v1))) .second X1511 hx hZ hw hby hml hown e1511 Nq1511 Z1513 (Nat.le_of_ble_eq_true rfl) (Nat.le_of_ble_eq_true rfl) (by decide) (by decide) g_P g_W f1515 f1516 f1517 f1518 f1519 f1520 f1521 f1522 f1523 (by decide) ⟨by decide, by decide⟩ rfl rfl (own_inb hM (k := 1) (by simp) hm) rfl rfl (Or.inr ⟨_, rfl, rfl⟩) lq11
              have P1525 : Rg p e below (T1524.setTop (mkF m 40 #[sR a1, sR fa, sI 1, sR f1, sR g1, sI 0, sI 2, sI 1, .val (.long (y0 &&& v1)), .second] [])) B0 := fun t k => P1512 t (by
                exact st1524 _ k)
              have Z1526 : n0 ≤ h1524.size := Nat.le_trans Z1513 K1524.1
              have K1527 : Keep h0 h1524 [a1, P, W] := K1514.trans K1524 (all0)
              have f1528 := (f1520.keep K1524 nin0)
              obtain ⟨T1529, h1529, L1529, X1529, e1529, Nq1529, K1529, st1529⟩ := pc_rtd a1 fa f1 g1 kf (1 : Int32) (2 : Int32) (0 : Int32) (2 : Int32) (1 : Int32) [(.int q0), (.int q1)] (.val (.long (y0 &&& v1))) .second X1524 hx hZ hw hby hml hown e1524 Nq1524 Z1526 (Nat.le_of_ble_eq_true rfl) (Nat.le_of_ble_eq_true rfl) (by decide) (by decide) f1528 (by decide)
              have P1530 : Rg p e below (T1529.setTop (mkF m 24 #[sR a1, sR fa, sI 1, sR f1, sR g1, sI 0, sI 2, sI 2, .val (.long (y0 &&& v1)), .second] [])) B0 := fun t k => P1525 t (by
                exact st1529 _ k)
              have Z1531 : n0 ≤ h1529.size := Nat.le_trans Z1526 K1529.1
              have K1532 : Keep h0 h1529 [a1, P, W] := K1527.trans K1529 (all0)
              have f1533 := (((f1509.keep K1511 nin0).keep K1524 nin0).keep K1529 nin0)
              obtain ⟨T1534, X1534, e1534, st1534⟩ := getF X1529 hx hZ hown (host := "") (Or.inl (own_hw hw 48 rfl)) Via.refl e1529 f1533 (g := (mkF m 27 #[sR a1, sR fa, sI 1, sR f1, sR g1, sI 0, sI 2, sI 2, .val (.long (y0 &&& v1)), .second] [(.ref a1), (.int (2 : Int32))])) rfl rfl (hb hby dp22_3_27)
              have P1535 : Rg p e below (T1534.setTop (mkF m 30 #[sR a1, sR fa, sI 1, sR f1, sR g1, sI 0, sI 2, sI 2, .val (.long (y0 &&& v1)), .second] [(.int (2 : Int32)), (.int (2 : Int32))])) B0 := fun t k => P1530 t (by
                refine XS.iload X1529.here hx rfl (hb hby dp22_3_24) rfl ?_
                refine XS.aloadN X1529.here hx rfl (hb hby dp22_3_26) rfl rfl ?_
                show Sg p e below (T1529.setTop (mkF m 27 #[sR a1, sR fa, sI 1, sR f1, sR g1, sI 0, sI 2, sI 2, .val (.long (y0 &&& v1)), .second] [(.ref a1), (.int (2 : Int32))])) _
                exact st1534 _ k)
              have lk0 : own_look [q0, q1] [v0, v1] x0 = v1 := by simp only [own_look]; rw [if_neg (fun e => by have e' := congrArg Int32.toInt e; omega), if_pos q1494]
              have r0 : y0 &&& own_look [q0, q1] [v0, v1] x0 = 0 := by rw [lk0]; exact q1495
              have lk1 : own_look [q0, q1] [v0, v1] x1 = 0 := by simp only [own_look]; rw [if_neg (fun e => by have e' := congrArg Int32.toInt e; omega), if_neg (fun e => by have e' := congrArg Int32.toInt e; omega)]
              have r1 : y1 &&& own_look [q0, q1] [v0, v1] x1 = 0 := by rw [lk1]; exact own_and0 _
              have f1536 := ((f1515.keep K1524).keep K1529)
              have f1537 := ((f1516.keep K1524).keep K1529)
              have f1538 := ((f1517.keep K1524).keep K1529)
              have f1539 := ((f1518.keep K1524 nin0).keep K1529 nin0)
              have f1540 := ((f1519.keep K1524 nin0).keep K1529 nin0)
              have f1541 := ((f1522.keep K1524 nin0).keep K1529 nin0)
              have f1542 := ((f1523.keep K1524 nin0).keep K1529 nin0)
              have P1543 : Rg p e below (T1534.setTop (mkF m 142 #[sR a1, sR fa, sI 1, sR f1, sR g1, sI 0, sI 2, sI 2, .val (.long (y0 &&& v1)), .second] [])) B0 := fun t k => P1535 t (by
                refine XS.icmpYes X1534.here hx rfl (pc0 := 30) (pc' := 142) rfl (hb hby dp22_3_30) rfl (flt (show ¬ ((2 : Int32) < (2 : Int32)) from (by decide))).2.1 (by decide) (by decide) ?_
                show Sg p e below (T1534.setTop (mkF m 142 #[sR a1, sR fa, sI 1, sR f1, sR g1, sI 0, sI 2, sI 2, .val (.long (y0 &&& v1)), .second] [])) _
                exact k)
              obtain ⟨T1544, h1544, L1544, X1544, e1544, Nq1544, K1544, u1544_0, u1544_1, u1544_2, u1544_3, u1544_4, st1544⟩ := pc_rtx a1 fa f1 g1 P W kP kW (1 : Int32) M (2 : Int32) (0 : Int32) (2 : Int32) (2 : Int32) (([x0, x1] ++ ur).map Value.int) (([y0, y1] ++ vr).map Value.long) (.val (.long (y0 &&& v1))) .second X1534 hx hZ hw hby hml hown e1534 Nq1529 Z1531 (Nat.le_of_ble_eq_true rfl) (Nat.le_of_ble_eq_true rfl) (by decide) (by decide) g_a1 f1536 f1537 f1538 f1539 f1540 f1533 f1541 f1542
              have P1545 : Rg p e below (T1544.setTop (mkF m 148 #[sR a1, sR fa, sI 1, sR f1, sR g1, sI 0, sI 2, sI 2, .val (.long (y0 &&& v1)), .second] [])) B0 := fun t k => P1543 t (by
                exact st1544 _ k)
              have Z1546 : n0 ≤ h1544.size := Nat.le_trans Z1531 K1544.1
              have K1547 : Keep h0 h1544 [a1, P, W] := K1532.trans K1544 ((allS (Or.inl (List.mem_of_getElem? (i := 0) rfl)) all0))
              obtain ⟨fs1548, hr1548, hrun1548, hended1548, hW1548, hsame1548⟩ := X1544.leave (v := none) (fun _ => rfl)
              refine ⟨_, _, pre0 _ (P1545 _ ?_), hrun1548, hended1548, _, _, rfl, ?_, ⟨⟨_, rfl⟩, hW1548, hsame1548.mono (Nat.le_of_ble_eq_true rfl) (Nat.le_of_ble_eq_true rfl)⟩⟩
              · show Sg p e below (T1544.setTop (mkF m 148 #[sR a1, sR fa, sI 1, sR f1, sR g1, sI 0, sI 2, sI 2, .val (.long (y0 &&& v1)), .second] [])) _
                exact X1544.returnOut hx Bd.returns (hb hby dp22_3_148) hr1548
              · show Q_ret Z a1 P W kP kW M [x0, x1] ur [y0, y1] [q0, q1] [v0, v1] h0 n0 _ T1544.heap _
                rw [e1544]
                exact ⟨rfl, Nq1544, K1547, [], [x0, x1] ++ ur, [], [y0, y1] ++ vr, (0 : Int32), by rw [own_rp, if_pos r0, own_rp, if_pos r1]; rfl, by rw [own_rw, if_pos r0, own_rw, if_pos r1]; rfl, rfl, by simp, rfl, by simp [hv], u1544_0, u1544_1, u1544_2, u1544_3, u1544_4⟩
            · skip
              have f1549 := (f1444.keep K1453)
              have f1550 := (f1445.keep K1453)
              have f1551 := (f1446.keep K1453)
              have f1552 := (f1447.keep K1453 nin0)
              have f1553 := (f1448.keep K1453 nin0)
              have f1554 := (f1449.keep K1453 nin0)
              have f1555 := (f1450.keep K1453 nin0)
              have f1556 := (f1451.keep K1453 nin0)
              have f1557 := (f1452.keep K1453 nin0)
              obtain ⟨T1558, h1558, L1558, X1558, e1558, Nq1558, K1558, u1558_0, u1558_1, st1558⟩ := pc_rtk a1 fa f1 g1 P W kf kg kP kW (1 : Int32) (2 : Int32) M (0 : Int32) (1 : Int32) (0 : Int32) q1 x0 y0 v1 [(.int q0), (.int q1)] [(.long v0), (.long v1)] (([x0, x1] ++ ur).map Value.int) (([y0, y1] ++ vr).map Value.long) sU sU 0 X1453 hx hZ hw hby hml hown e1453 Nq1453 Z1455 (Nat.le_of_ble_eq_true rfl) (Nat.le_of_ble_eq_true rfl) (by decide) (by decide) g_P g_W f1549 f1550 f1551 f1552 f1553 f1554 f1555 f1556 f1557 (by decide) ⟨by decide, by decide⟩ rfl rfl (own_inb hM (k := 0) (by simp) hm) rfl rfl (Or.inl ⟨rfl, rfl⟩) q1457 q1494 q1495 (own_inb hM (k := 0) (by simp) hm) rfl (by simp) (by simp)
              have P1559 : Rg p e below (T1558.setTop (mkF m 24 #[sR a1, sR fa, sI 1, sR f1, sR g1, sI 1, sI 1, sI 1, .val (.long (y0 &&& v1)), .second] [])) B0 := fun t k => P1454 t (by
                exact st1558 _ k)
              have Z1560 : n0 ≤ h1558.size := Nat.le_trans Z1455 K1558.1
              have K1561 : Keep h0 h1558 [a1, P, W] := K1456.trans K1558 ((allS (Or.inl (List.mem_of_getElem? (i := 1) rfl)) (allS (Or.inl (List.mem_of_getElem? (i := 2) rfl)) all0)))
              have AP1558 : Arv Z h1558 P kP .int M (([x0, x1] ++ ur).map Value.int) (.int (0 : Int32)) := u1558_0
              have AW1558 : Arv Z h1558 W kW .long M (([(y0 &&& v1), y1] ++ vr).map Value.long) (.long (0 : Int64)) := u1558_1
              have f1562 := (((Fc.keep K1439 nin0).keep K1453 nin0).keep K1558 (ninS (Exa.ne E1 EP (by decide)) (ninS (Exa.ne E1 EW1 (by decide)) nin0)))
              have f1563 := (f1554.keep K1558 (ninS nfP (ninS (Exa.ne EEf EW1 (by decide)) nin0)))
              obtain ⟨T1564, h1564, L1564, X1564, e1564, Nq1564, K1564, st1564⟩ := pc_rth a1 fa f1 g1 kf (1 : Int32) (2 : Int32) (2 : Int32) (1 : Int32) (1 : Int32) (1 : Int32) [(.int q0), (.int q1)] (.val (.long (y0 &&& v1))) .second X1558 hx hZ hw hby hml hown e1558 Nq1558 Z1560 (Nat.le_of_ble_eq_true rfl) (Nat.le_of_ble_eq_true rfl) (by decide) (by decide) f1562 f1563 (by decide) (by decide)
              have P1565 : Rg p e below (T1564.setTop (mkF m 40 #[sR a1, sR fa, sI 1, sR f1, sR g1, sI 1, sI 1, sI 1, .val (.long (y0 &&& v1)), .second] [])) B0 := fun t k => P1559 t (by
                exact st1564 _ k)
              have Z1566 : n0 ≤ h1564.size := Nat.le_trans Z1560 K1564.1
              have K1567 : Keep h0 h1564 [a1, P, W] := K1561.trans K1564 (all0)
              have lq11 : q1 < x1 := by rw [hit0]; exact own_p2 hs
              have f1568 := ((f1549.keep K1558).keep K1564)
              have f1569 := ((f1550.keep K1558).keep K1564)
              have f1570 := ((f1551.keep K1558).keep K1564)
              have f1571 := ((f1552.keep K1558 (ninS (Exa.ne E1 EP (by decide)) (ninS (Exa.ne E1 EW1 (by decide)) nin0))).keep K1564 nin0)
              have f1572 := ((f1553.keep K1558 (ninS (Exa.ne E1 EP (by decide)) (ninS (Exa.ne E1 EW1 (by decide)) nin0))).keep K1564 nin0)
              have f1573 := (f1563.keep K1564 nin0)
              have f1574 := ((f1555.keep K1558 (ninS (Exa.ne EEg EP (by decide)) (ninS ngW nin0))).keep K1564 nin0)
              have f1575 := (AP1558.keep K1564 nin0)
              have f1576 := (AW1558.keep K1564 nin0)
              obtain ⟨T1577, h1577, L1577, X1577, e1577, Nq1577, K1577, st1577⟩ := pc_rtv a1 fa f1 g1 P W kf kg kP kW (1 : Int32) (2 : Int32) M (1 : Int32) (1 : Int32) (1 : Int32) q1 x1 y1 v1 [(.int q0), (.int q1)] [(.long v0), (.long v1)] (([x0, x1] ++ ur).map Value.int) (([(y0 &&& v1), y1] ++ vr).map Value.long) (.val (.long (y0 &&& v1))) .second X1564 hx hZ hw hby hml hown e1564 Nq1564 Z1566 (Nat.le_of_ble_eq_true rfl) (Nat.le_of_ble_eq_true rfl) (by decide) (by decide) g_P g_W f1568 f1569 f1570 f1571 f1572 f1573 f1574 f1575 f1576 (by decide) ⟨by decide, by decide⟩ rfl rfl (own_inb hM (k := 1) (by simp) hm) rfl rfl (Or.inr ⟨_, rfl, rfl⟩) lq11
              have P1578 : Rg p e below (T1577.setTop (mkF m 40 #[sR a1, sR fa, sI 1, sR f1, sR g1, sI 1, sI 2, sI 1, .val (.long (y0 &&& v1)), .second] [])) B0 := fun t k => P1565 t (by
                exact st1577 _ k)
              have Z1579 : n0 ≤ h1577.size := Nat.le_trans Z1566 K1577.1
              have K1580 : Keep h0 h1577 [a1, P, W] := K1567.trans K1577 (all0)
              have f1581 := (f1573.keep K1577 nin0)
              obtain ⟨T1582, h1582, L1582, X1582, e1582, Nq1582, K1582, st1582⟩ := pc_rtd a1 fa f1 g1 kf (1 : Int32) (2 : Int32) (1 : Int32) (2 : Int32) (1 : Int32) [(.int q0), (.int q1)] (.val (.long (y0 &&& v1))) .second X1577 hx hZ hw hby hml hown e1577 Nq1577 Z1579 (Nat.le_of_ble_eq_true rfl) (Nat.le_of_ble_eq_true rfl) (by decide) (by decide) f1581 (by decide)
              have P1583 : Rg p e below (T1582.setTop (mkF m 24 #[sR a1, sR fa, sI 1, sR f1, sR g1, sI 1, sI 2, sI 2, .val (.long (y0 &&& v1)), .second] [])) B0 := fun t k => P1578 t (by
                exact st1582 _ k)
              have Z1584 : n0 ≤ h1582.size := Nat.le_trans Z1579 K1582.1
              have K1585 : Keep h0 h1582 [a1, P, W] := K1580.trans K1582 (all0)
              have f1586 := (((f1562.keep K1564 nin0).keep K1577 nin0).keep K1582 nin0)
              obtain ⟨T1587, X1587, e1587, st1587⟩ := getF X1582 hx hZ hown (host := "") (Or.inl (own_hw hw 48 rfl)) Via.refl e1582 f1586 (g := (mkF m 27 #[sR a1, sR fa, sI 1, sR f1, sR g1, sI 1, sI 2, sI 2, .val (.long (y0 &&& v1)), .second] [(.ref a1), (.int (2 : Int32))])) rfl rfl (hb hby dp22_3_27)
              have P1588 : Rg p e below (T1587.setTop (mkF m 30 #[sR a1, sR fa, sI 1, sR f1, sR g1, sI 1, sI 2, sI 2, .val (.long (y0 &&& v1)), .second] [(.int (2 : Int32)), (.int (2 : Int32))])) B0 := fun t k => P1583 t (by
                refine XS.iload X1582.here hx rfl (hb hby dp22_3_24) rfl ?_
                refine XS.aloadN X1582.here hx rfl (hb hby dp22_3_26) rfl rfl ?_
                show Sg p e below (T1582.setTop (mkF m 27 #[sR a1, sR fa, sI 1, sR f1, sR g1, sI 1, sI 2, sI 2, .val (.long (y0 &&& v1)), .second] [(.ref a1), (.int (2 : Int32))])) _
                exact st1587 _ k)
              have lk0 : own_look [q0, q1] [v0, v1] x0 = v1 := by simp only [own_look]; rw [if_neg (fun e => by have e' := congrArg Int32.toInt e; omega), if_pos q1494]
              have r0 : ¬ y0 &&& own_look [q0, q1] [v0, v1] x0 = 0 := by rw [lk0]; exact q1495
              have lk1 : own_look [q0, q1] [v0, v1] x1 = 0 := by simp only [own_look]; rw [if_neg (fun e => by have e' := congrArg Int32.toInt e; omega), if_neg (fun e => by have e' := congrArg Int32.toInt e; omega)]
              have r1 : y1 &&& own_look [q0, q1] [v0, v1] x1 = 0 := by rw [lk1]; exact own_and0 _
              have f1589 := ((f1568.keep K1577).keep K1582)
              have f1590 := ((f1569.keep K1577).keep K1582)
              have f1591 := ((f1570.keep K1577).keep K1582)
              have f1592 := ((f1571.keep K1577 nin0).keep K1582 nin0)
              have f1593 := ((f1572.keep K1577 nin0).keep K1582 nin0)
              have f1594 := ((f1575.keep K1577 nin0).keep K1582 nin0)
              have f1595 := ((f1576.keep K1577 nin0).keep K1582 nin0)
              have P1596 : Rg p e below (T1587.setTop (mkF m 142 #[sR a1, sR fa, sI 1, sR f1, sR g1, sI 1, sI 2, sI 2, .val (.long (y0 &&& v1)), .second] [])) B0 := fun t k => P1588 t (by
                refine XS.icmpYes X1587.here hx rfl (pc0 := 30) (pc' := 142) rfl (hb hby dp22_3_30) rfl (flt (show ¬ ((2 : Int32) < (2 : Int32)) from (by decide))).2.1 (by decide) (by decide) ?_
                show Sg p e below (T1587.setTop (mkF m 142 #[sR a1, sR fa, sI 1, sR f1, sR g1, sI 1, sI 2, sI 2, .val (.long (y0 &&& v1)), .second] [])) _
                exact k)
              obtain ⟨T1597, h1597, L1597, X1597, e1597, Nq1597, K1597, u1597_0, u1597_1, u1597_2, u1597_3, u1597_4, st1597⟩ := pc_rtx a1 fa f1 g1 P W kP kW (1 : Int32) M (2 : Int32) (1 : Int32) (2 : Int32) (2 : Int32) (([x0, x1] ++ ur).map Value.int) (([(y0 &&& v1), y1] ++ vr).map Value.long) (.val (.long (y0 &&& v1))) .second X1587 hx hZ hw hby hml hown e1587 Nq1582 Z1584 (Nat.le_of_ble_eq_true rfl) (Nat.le_of_ble_eq_true rfl) (by decide) (by decide) g_a1 f1589 f1590 f1591 f1592 f1593 f1586 f1594 f1595
              have P1598 : Rg p e below (T1597.setTop (mkF m 148 #[sR a1, sR fa, sI 1, sR f1, sR g1, sI 1, sI 2, sI 2, .val (.long (y0 &&& v1)), .second] [])) B0 := fun t k => P1596 t (by
                exact st1597 _ k)
              have Z1599 : n0 ≤ h1597.size := Nat.le_trans Z1584 K1597.1
              have K1600 : Keep h0 h1597 [a1, P, W] := K1585.trans K1597 ((allS (Or.inl (List.mem_of_getElem? (i := 0) rfl)) all0))
              obtain ⟨fs1601, hr1601, hrun1601, hended1601, hW1601, hsame1601⟩ := X1597.leave (v := none) (fun _ => rfl)
              refine ⟨_, _, pre0 _ (P1598 _ ?_), hrun1601, hended1601, _, _, rfl, ?_, ⟨⟨_, rfl⟩, hW1601, hsame1601.mono (Nat.le_of_ble_eq_true rfl) (Nat.le_of_ble_eq_true rfl)⟩⟩
              · show Sg p e below (T1597.setTop (mkF m 148 #[sR a1, sR fa, sI 1, sR f1, sR g1, sI 1, sI 2, sI 2, .val (.long (y0 &&& v1)), .second] [])) _
                exact X1597.returnOut hx Bd.returns (hb hby dp22_3_148) hr1601
              · show Q_ret Z a1 P W kP kW M [x0, x1] ur [y0, y1] [q0, q1] [v0, v1] h0 n0 _ T1597.heap _
                rw [e1597]
                exact ⟨rfl, Nq1597, K1600, [x0], [x1] ++ ur, [(y0 &&& v1)], [y1] ++ vr, (1 : Int32), by rw [own_rp, if_neg r0, own_rp, if_pos r1]; rfl, by rw [own_rw, if_neg r0, lk0, own_rw, if_pos r1]; rfl, rfl, by simp, rfl, by simp [hv], u1597_0, u1597_1, u1597_2, u1597_3, u1597_4⟩
          · skip
            have tq1494 : ¬ q1.toInt = x0.toInt := fun y => q1494 (Int32.toInt_inj.mp y)
            have f1602 := (f1444.keep K1453)
            have f1603 := (f1445.keep K1453)
            have f1604 := (f1446.keep K1453)
            have f1605 := (f1447.keep K1453 nin0)
            have f1606 := (f1448.keep K1453 nin0)
            have f1607 := (f1449.keep K1453 nin0)
            have f1608 := (f1450.keep K1453 nin0)
            have f1609 := (f1451.keep K1453 nin0)
            have f1610 := (f1452.keep K1453 nin0)
            obtain ⟨T1611, h1611, L1611, X1611, e1611, Nq1611, K1611, st1611⟩ := pc_rtn a1 fa f1 g1 P W kf kg kP kW (1 : Int32) (2 : Int32) M (0 : Int32) (1 : Int32) (0 : Int32) q1 x0 y0 v1 [(.int q0), (.int q1)] [(.long v0), (.long v1)] (([x0, x1] ++ ur).map Value.int) (([y0, y1] ++ vr).map Value.long) sU sU X1453 hx hZ hw hby hml hown e1453 Nq1453 Z1455 (Nat.le_of_ble_eq_true rfl) (Nat.le_of_ble_eq_true rfl) (by decide) (by decide) g_P g_W f1602 f1603 f1604 f1605 f1606 f1607 f1608 f1609 f1610 (by decide) ⟨by decide, by decide⟩ rfl rfl (own_inb hM (k := 0) (by simp) hm) rfl rfl (Or.inl ⟨rfl, rfl⟩) q1457 q1494
            have P1612 : Rg p e below (T1611.setTop (mkF m 24 #[sR a1, sR fa, sI 1, sR f1, sR g1, sI 0, sI 1, sI 1, sU, sU] [])) B0 := fun t k => P1454 t (by
              exact st1611 _ k)
            have Z1613 : n0 ≤ h1611.size := Nat.le_trans Z1455 K1611.1
            have K1614 : Keep h0 h1611 [a1, P, W] := K1456.trans K1611 (all0)
            have f1615 := (((Fc.keep K1439 nin0).keep K1453 nin0).keep K1611 nin0)
            have f1616 := (f1607.keep K1611 nin0)
            obtain ⟨T1617, h1617, L1617, X1617, e1617, Nq1617, K1617, st1617⟩ := pc_rth a1 fa f1 g1 kf (1 : Int32) (2 : Int32) (2 : Int32) (0 : Int32) (1 : Int32) (1 : Int32) [(.int q0), (.int q1)] sU sU X1611 hx hZ hw hby hml hown e1611 Nq1611 Z1613 (Nat.le_of_ble_eq_true rfl) (Nat.le_of_ble_eq_true rfl) (by decide) (by decide) f1615 f1616 (by decide) (by decide)
            have P1618 : Rg p e below (T1617.setTop (mkF m 40 #[sR a1, sR fa, sI 1, sR f1, sR g1, sI 0, sI 1, sI 1, sU, sU] [])) B0 := fun t k => P1612 t (by
              exact st1617 _ k)
            have Z1619 : n0 ≤ h1617.size := Nat.le_trans Z1613 K1617.1
            have K1620 : Keep h0 h1617 [a1, P, W] := K1614.trans K1617 (all0)
            by_cases q1621 : q1 < x1
            · skip
              have tq1621 := Int32.lt_iff_toInt_lt.mp q1621
              have f1622 := ((f1602.keep K1611).keep K1617)
              have f1623 := ((f1603.keep K1611).keep K1617)
              have f1624 := ((f1604.keep K1611).keep K1617)
              have f1625 := ((f1605.keep K1611 nin0).keep K1617 nin0)
              have f1626 := ((f1606.keep K1611 nin0).keep K1617 nin0)
              have f1627 := (f1616.keep K1617 nin0)
              have f1628 := ((f1608.keep K1611 nin0).keep K1617 nin0)
              have f1629 := ((f1609.keep K1611 nin0).keep K1617 nin0)
              have f1630 := ((f1610.keep K1611 nin0).keep K1617 nin0)
              obtain ⟨T1631, h1631, L1631, X1631, e1631, Nq1631, K1631, st1631⟩ := pc_rtv a1 fa f1 g1 P W kf kg kP kW (1 : Int32) (2 : Int32) M (0 : Int32) (1 : Int32) (1 : Int32) q1 x1 y1 v1 [(.int q0), (.int q1)] [(.long v0), (.long v1)] (([x0, x1] ++ ur).map Value.int) (([y0, y1] ++ vr).map Value.long) sU sU X1617 hx hZ hw hby hml hown e1617 Nq1617 Z1619 (Nat.le_of_ble_eq_true rfl) (Nat.le_of_ble_eq_true rfl) (by decide) (by decide) g_P g_W f1622 f1623 f1624 f1625 f1626 f1627 f1628 f1629 f1630 (by decide) ⟨by decide, by decide⟩ rfl rfl (own_inb hM (k := 1) (by simp) hm) rfl rfl (Or.inl ⟨rfl, rfl⟩) q1621
              have P1632 : Rg p e below (T1631.setTop (mkF m 40 #[sR a1, sR fa, sI 1, sR f1, sR g1, sI 0, sI 2, sI 1, sU, sU] [])) B0 := fun t k => P1618 t (by
                exact st1631 _ k)
              have Z1633 : n0 ≤ h1631.size := Nat.le_trans Z1619 K1631.1
              have K1634 : Keep h0 h1631 [a1, P, W] := K1620.trans K1631 (all0)
              have f1635 := (f1627.keep K1631 nin0)
              obtain ⟨T1636, h1636, L1636, X1636, e1636, Nq1636, K1636, st1636⟩ := pc_rtd a1 fa f1 g1 kf (1 : Int32) (2 : Int32) (0 : Int32) (2 : Int32) (1 : Int32) [(.int q0), (.int q1)] sU sU X1631 hx hZ hw hby hml hown e1631 Nq1631 Z1633 (Nat.le_of_ble_eq_true rfl) (Nat.le_of_ble_eq_true rfl) (by decide) (by decide) f1635 (by decide)
              have P1637 : Rg p e below (T1636.setTop (mkF m 24 #[sR a1, sR fa, sI 1, sR f1, sR g1, sI 0, sI 2, sI 2, sU, sU] [])) B0 := fun t k => P1632 t (by
                exact st1636 _ k)
              have Z1638 : n0 ≤ h1636.size := Nat.le_trans Z1633 K1636.1
              have K1639 : Keep h0 h1636 [a1, P, W] := K1634.trans K1636 (all0)
              have f1640 := (((f1615.keep K1617 nin0).keep K1631 nin0).keep K1636 nin0)
              obtain ⟨T1641, X1641, e1641, st1641⟩ := getF X1636 hx hZ hown (host := "") (Or.inl (own_hw hw 48 rfl)) Via.refl e1636 f1640 (g := (mkF m 27 #[sR a1, sR fa, sI 1, sR f1, sR g1, sI 0, sI 2, sI 2, sU, sU] [(.ref a1), (.int (2 : Int32))])) rfl rfl (hb hby dp22_3_27)
              have P1642 : Rg p e below (T1641.setTop (mkF m 30 #[sR a1, sR fa, sI 1, sR f1, sR g1, sI 0, sI 2, sI 2, sU, sU] [(.int (2 : Int32)), (.int (2 : Int32))])) B0 := fun t k => P1637 t (by
                refine XS.iload X1636.here hx rfl (hb hby dp22_3_24) rfl ?_
                refine XS.aloadN X1636.here hx rfl (hb hby dp22_3_26) rfl rfl ?_
                show Sg p e below (T1636.setTop (mkF m 27 #[sR a1, sR fa, sI 1, sR f1, sR g1, sI 0, sI 2, sI 2, sU, sU] [(.ref a1), (.int (2 : Int32))])) _
                exact st1641 _ k)
              have lk0 : own_look [q0, q1] [v0, v1] x0 = 0 := by simp only [own_look]; rw [if_neg (fun e => by have e' := congrArg Int32.toInt e; omega), if_neg (fun e => by have e' := congrArg Int32.toInt e; omega)]
              have r0 : y0 &&& own_look [q0, q1] [v0, v1] x0 = 0 := by rw [lk0]; exact own_and0 _
              have lk1 : own_look [q0, q1] [v0, v1] x1 = 0 := by simp only [own_look]; rw [if_neg (fun e => by have e' := congrArg Int32.toInt e; omega), if_neg (fun e => by have e' := congrArg Int32.toInt e; omega)]
              have r1 : y1 &&& own_look [q0, q1] [v0, v1] x1 = 0 := by rw [lk1]; exact own_and0 _
              have f1643 := ((f1622.keep K1631).keep K1636)
              have f1644 := ((f1623.keep K1631).keep K1636)
              have f1645 := ((f1624.keep K1631).keep K1636)
              have f1646 := ((f1625.keep K1631 nin0).keep K1636 nin0)
              have f1647 := ((f1626.keep K1631 nin0).keep K1636 nin0)
              have f1648 := ((f1629.keep K1631 nin0).keep K1636 nin0)
              have f1649 := ((f1630.keep K1631 nin0).keep K1636 nin0)
              have P1650 : Rg p e below (T1641.setTop (mkF m 142 #[sR a1, sR fa, sI 1, sR f1, sR g1, sI 0, sI 2, sI 2, sU, sU] [])) B0 := fun t k => P1642 t (by
                refine XS.icmpYes X1641.here hx rfl (pc0 := 30) (pc' := 142) rfl (hb hby dp22_3_30) rfl (flt (show ¬ ((2 : Int32) < (2 : Int32)) from (by decide))).2.1 (by decide) (by decide) ?_
                show Sg p e below (T1641.setTop (mkF m 142 #[sR a1, sR fa, sI 1, sR f1, sR g1, sI 0, sI 2, sI 2, sU, sU] [])) _
                exact k)
              obtain ⟨T1651, h1651, L1651, X1651, e1651, Nq1651, K1651, u1651_0, u1651_1, u1651_2, u1651_3, u1651_4, st1651⟩ := pc_rtx a1 fa f1 g1 P W kP kW (1 : Int32) M (2 : Int32) (0 : Int32) (2 : Int32) (2 : Int32) (([x0, x1] ++ ur).map Value.int) (([y0, y1] ++ vr).map Value.long) sU sU X1641 hx hZ hw hby hml hown e1641 Nq1636 Z1638 (Nat.le_of_ble_eq_true rfl) (Nat.le_of_ble_eq_true rfl) (by decide) (by decide) g_a1 f1643 f1644 f1645 f1646 f1647 f1640 f1648 f1649
              have P1652 : Rg p e below (T1651.setTop (mkF m 148 #[sR a1, sR fa, sI 1, sR f1, sR g1, sI 0, sI 2, sI 2, sU, sU] [])) B0 := fun t k => P1650 t (by
                exact st1651 _ k)
              have Z1653 : n0 ≤ h1651.size := Nat.le_trans Z1638 K1651.1
              have K1654 : Keep h0 h1651 [a1, P, W] := K1639.trans K1651 ((allS (Or.inl (List.mem_of_getElem? (i := 0) rfl)) all0))
              obtain ⟨fs1655, hr1655, hrun1655, hended1655, hW1655, hsame1655⟩ := X1651.leave (v := none) (fun _ => rfl)
              refine ⟨_, _, pre0 _ (P1652 _ ?_), hrun1655, hended1655, _, _, rfl, ?_, ⟨⟨_, rfl⟩, hW1655, hsame1655.mono (Nat.le_of_ble_eq_true rfl) (Nat.le_of_ble_eq_true rfl)⟩⟩
              · show Sg p e below (T1651.setTop (mkF m 148 #[sR a1, sR fa, sI 1, sR f1, sR g1, sI 0, sI 2, sI 2, sU, sU] [])) _
                exact X1651.returnOut hx Bd.returns (hb hby dp22_3_148) hr1655
              · show Q_ret Z a1 P W kP kW M [x0, x1] ur [y0, y1] [q0, q1] [v0, v1] h0 n0 _ T1651.heap _
                rw [e1651]
                exact ⟨rfl, Nq1651, K1654, [], [x0, x1] ++ ur, [], [y0, y1] ++ vr, (0 : Int32), by rw [own_rp, if_pos r0, own_rp, if_pos r1]; rfl, by rw [own_rw, if_pos r0, own_rw, if_pos r1]; rfl, rfl, by simp, rfl, by simp [hv], u1651_0, u1651_1, u1651_2, u1651_3, u1651_4⟩
            · skip
              have tq1621 : ¬ q1.toInt < x1.toInt := fun y => q1621 (Int32.lt_iff_toInt_lt.mpr y)
              by_cases q1656 : q1 = x1
              · skip
                have hit1 := q1656
                have thit1 := congrArg Int32.toInt q1656
                by_cases q1657 : y1 &&& v1 = (0 : Int64)
                · skip
                  have f1658 := ((f1602.keep K1611).keep K1617)
                  have f1659 := ((f1603.keep K1611).keep K1617)
                  have f1660 := ((f1604.keep K1611).keep K1617)
                  have f1661 := ((f1605.keep K1611 nin0).keep K1617 nin0)
                  have f1662 := ((f1606.keep K1611 nin0).keep K1617 nin0)
                  have f1663 := (f1616.keep K1617 nin0)
                  have f1664 := ((f1608.keep K1611 nin0).keep K1617 nin0)
                  have f1665 := ((f1609.keep K1611 nin0).keep K1617 nin0)
                  have f1666 := ((f1610.keep K1611 nin0).keep K1617 nin0)
                  obtain ⟨T1667, h1667, L1667, X1667, e1667, Nq1667, K1667, st1667⟩ := pc_rtz a1 fa f1 g1 P W kf kg kP kW (1 : Int32) (2 : Int32) M (0 : Int32) (1 : Int32) (1 : Int32) q1 x1 y1 v1 [(.int q0), (.int q1)] [(.long v0), (.long v1)] (([x0, x1] ++ ur).map Value.int) (([y0, y1] ++ vr).map Value.long) sU sU X1617 hx hZ hw hby hml hown e1617 Nq1617 Z1619 (Nat.le_of_ble_eq_true rfl) (Nat.le_of_ble_eq_true rfl) (by decide) (by decide) g_P g_W f1658 f1659 f1660 f1661 f1662 f1663 f1664 f1665 f1666 (by decide) ⟨by decide, by decide⟩ rfl rfl (own_inb hM (k := 1) (by simp) hm) rfl rfl (Or.inl ⟨rfl, rfl⟩) q1621 q1656 q1657
                  have P1668 : Rg p e below (T1667.setTop (mkF m 24 #[sR a1, sR fa, sI 1, sR f1, sR g1, sI 0, sI 1, sI 2, .val (.long (y1 &&& v1)), .second] [])) B0 := fun t k => P1618 t (by
                    exact st1667 _ k)
                  have Z1669 : n0 ≤ h1667.size := Nat.le_trans Z1619 K1667.1
                  have K1670 : Keep h0 h1667 [a1, P, W] := K1620.trans K1667 (all0)
                  have f1671 := ((f1615.keep K1617 nin0).keep K1667 nin0)
                  obtain ⟨T1672, X1672, e1672, st1672⟩ := getF X1667 hx hZ hown (host := "") (Or.inl (own_hw hw 48 rfl)) Via.refl e1667 f1671 (g := (mkF m 27 #[sR a1, sR fa, sI 1, sR f1, sR g1, sI 0, sI 1, sI 2, .val (.long (y1 &&& v1)), .second] [(.ref a1), (.int (2 : Int32))])) rfl rfl (hb hby dp22_3_27)
                  have P1673 : Rg p e below (T1672.setTop (mkF m 30 #[sR a1, sR fa, sI 1, sR f1, sR g1, sI 0, sI 1, sI 2, .val (.long (y1 &&& v1)), .second] [(.int (2 : Int32)), (.int (2 : Int32))])) B0 := fun t k => P1668 t (by
                    refine XS.iload X1667.here hx rfl (hb hby dp22_3_24) rfl ?_
                    refine XS.aloadN X1667.here hx rfl (hb hby dp22_3_26) rfl rfl ?_
                    show Sg p e below (T1667.setTop (mkF m 27 #[sR a1, sR fa, sI 1, sR f1, sR g1, sI 0, sI 1, sI 2, .val (.long (y1 &&& v1)), .second] [(.ref a1), (.int (2 : Int32))])) _
                    exact st1672 _ k)
                  have lk0 : own_look [q0, q1] [v0, v1] x0 = 0 := by simp only [own_look]; rw [if_neg (fun e => by have e' := congrArg Int32.toInt e; omega), if_neg (fun e => by have e' := congrArg Int32.toInt e; omega)]
                  have r0 : y0 &&& own_look [q0, q1] [v0, v1] x0 = 0 := by rw [lk0]; exact own_and0 _
                  have lk1 : own_look [q0, q1] [v0, v1] x1 = v1 := by simp only [own_look]; rw [if_neg (fun e => by have e' := congrArg Int32.toInt e; omega), if_pos q1656]
                  have r1 : y1 &&& own_look [q0, q1] [v0, v1] x1 = 0 := by rw [lk1]; exact q1657
                  have f1674 := (f1658.keep K1667)
                  have f1675 := (f1659.keep K1667)
                  have f1676 := (f1660.keep K1667)
                  have f1677 := (f1661.keep K1667 nin0)
                  have f1678 := (f1662.keep K1667 nin0)
                  have f1679 := (f1665.keep K1667 nin0)
                  have f1680 := (f1666.keep K1667 nin0)
                  have P1681 : Rg p e below (T1672.setTop (mkF m 142 #[sR a1, sR fa, sI 1, sR f1, sR g1, sI 0, sI 1, sI 2, .val (.long (y1 &&& v1)), .second] [])) B0 := fun t k => P1673 t (by
                    refine XS.icmpYes X1672.here hx rfl (pc0 := 30) (pc' := 142) rfl (hb hby dp22_3_30) rfl (flt (show ¬ ((2 : Int32) < (2 : Int32)) from (by decide))).2.1 (by decide) (by decide) ?_
                    show Sg p e below (T1672.setTop (mkF m 142 #[sR a1, sR fa, sI 1, sR f1, sR g1, sI 0, sI 1, sI 2, .val (.long (y1 &&& v1)), .second] [])) _
                    exact k)
                  obtain ⟨T1682, h1682, L1682, X1682, e1682, Nq1682, K1682, u1682_0, u1682_1, u1682_2, u1682_3, u1682_4, st1682⟩ := pc_rtx a1 fa f1 g1 P W kP kW (1 : Int32) M (2 : Int32) (0 : Int32) (1 : Int32) (2 : Int32) (([x0, x1] ++ ur).map Value.int) (([y0, y1] ++ vr).map Value.long) (.val (.long (y1 &&& v1))) .second X1672 hx hZ hw hby hml hown e1672 Nq1667 Z1669 (Nat.le_of_ble_eq_true rfl) (Nat.le_of_ble_eq_true rfl) (by decide) (by decide) g_a1 f1674 f1675 f1676 f1677 f1678 f1671 f1679 f1680
                  have P1683 : Rg p e below (T1682.setTop (mkF m 148 #[sR a1, sR fa, sI 1, sR f1, sR g1, sI 0, sI 1, sI 2, .val (.long (y1 &&& v1)), .second] [])) B0 := fun t k => P1681 t (by
                    exact st1682 _ k)
                  have Z1684 : n0 ≤ h1682.size := Nat.le_trans Z1669 K1682.1
                  have K1685 : Keep h0 h1682 [a1, P, W] := K1670.trans K1682 ((allS (Or.inl (List.mem_of_getElem? (i := 0) rfl)) all0))
                  obtain ⟨fs1686, hr1686, hrun1686, hended1686, hW1686, hsame1686⟩ := X1682.leave (v := none) (fun _ => rfl)
                  refine ⟨_, _, pre0 _ (P1683 _ ?_), hrun1686, hended1686, _, _, rfl, ?_, ⟨⟨_, rfl⟩, hW1686, hsame1686.mono (Nat.le_of_ble_eq_true rfl) (Nat.le_of_ble_eq_true rfl)⟩⟩
                  · show Sg p e below (T1682.setTop (mkF m 148 #[sR a1, sR fa, sI 1, sR f1, sR g1, sI 0, sI 1, sI 2, .val (.long (y1 &&& v1)), .second] [])) _
                    exact X1682.returnOut hx Bd.returns (hb hby dp22_3_148) hr1686
                  · show Q_ret Z a1 P W kP kW M [x0, x1] ur [y0, y1] [q0, q1] [v0, v1] h0 n0 _ T1682.heap _
                    rw [e1682]
                    exact ⟨rfl, Nq1682, K1685, [], [x0, x1] ++ ur, [], [y0, y1] ++ vr, (0 : Int32), by rw [own_rp, if_pos r0, own_rp, if_pos r1]; rfl, by rw [own_rw, if_pos r0, own_rw, if_pos r1]; rfl, rfl, by simp, rfl, by simp [hv], u1682_0, u1682_1, u1682_2, u1682_3, u1682_4⟩
                · skip
                  have f1687 := ((f1602.keep K1611).keep K1617)
                  have f1688 := ((f1603.keep K1611).keep K1617)
                  have f1689 := ((f1604.keep K1611).keep K1617)
                  have f1690 := ((f1605.keep K1611 nin0).keep K1617 nin0)
                  have f1691 := ((f1606.keep K1611 nin0).keep K1617 nin0)
                  have f1692 := (f1616.keep K1617 nin0)
                  have f1693 := ((f1608.keep K1611 nin0).keep K1617 nin0)
                  have f1694 := ((f1609.keep K1611 nin0).keep K1617 nin0)
                  have f1695 := ((f1610.keep K1611 nin0).keep K1617 nin0)
                  obtain ⟨T1696, h1696, L1696, X1696, e1696, Nq1696, K1696, u1696_0, u1696_1, st1696⟩ := pc_rtk a1 fa f1 g1 P W kf kg kP kW (1 : Int32) (2 : Int32) M (0 : Int32) (1 : Int32) (1 : Int32) q1 x1 y1 v1 [(.int q0), (.int q1)] [(.long v0), (.long v1)] (([x0, x1] ++ ur).map Value.int) (([y0, y1] ++ vr).map Value.long) sU sU 0 X1617 hx hZ hw hby hml hown e1617 Nq1617 Z1619 (Nat.le_of_ble_eq_true rfl) (Nat.le_of_ble_eq_true rfl) (by decide) (by decide) g_P g_W f1687 f1688 f1689 f1690 f1691 f1692 f1693 f1694 f1695 (by decide) ⟨by decide, by decide⟩ rfl rfl (own_inb hM (k := 1) (by simp) hm) rfl rfl (Or.inl ⟨rfl, rfl⟩) q1621 q1656 q1657 (own_inb hM (k := 0) (by simp) hm) rfl (by simp) (by simp)
                  have P1697 : Rg p e below (T1696.setTop (mkF m 24 #[sR a1, sR fa, sI 1, sR f1, sR g1, sI 1, sI 1, sI 2, .val (.long (y1 &&& v1)), .second] [])) B0 := fun t k => P1618 t (by
                    exact st1696 _ k)
                  have Z1698 : n0 ≤ h1696.size := Nat.le_trans Z1619 K1696.1
                  have K1699 : Keep h0 h1696 [a1, P, W] := K1620.trans K1696 ((allS (Or.inl (List.mem_of_getElem? (i := 1) rfl)) (allS (Or.inl (List.mem_of_getElem? (i := 2) rfl)) all0)))
                  have AP1696 : Arv Z h1696 P kP .int M (([x1, x1] ++ ur).map Value.int) (.int (0 : Int32)) := u1696_0
                  have AW1696 : Arv Z h1696 W kW .long M (([(y1 &&& v1), y1] ++ vr).map Value.long) (.long (0 : Int64)) := u1696_1
                  have f1700 := ((f1615.keep K1617 nin0).keep K1696 (ninS (Exa.ne E1 EP (by decide)) (ninS (Exa.ne E1 EW1 (by decide)) nin0)))
                  obtain ⟨T1701, X1701, e1701, st1701⟩ := getF X1696 hx hZ hown (host := "") (Or.inl (own_hw hw 48 rfl)) Via.refl e1696 f1700 (g := (mkF m 27 #[sR a1, sR fa, sI 1, sR f1, sR g1, sI 1, sI 1, sI 2, .val (.long (y1 &&& v1)), .second] [(.ref a1), (.int (2 : Int32))])) rfl rfl (hb hby dp22_3_27)
                  have P1702 : Rg p e below (T1701.setTop (mkF m 30 #[sR a1, sR fa, sI 1, sR f1, sR g1, sI 1, sI 1, sI 2, .val (.long (y1 &&& v1)), .second] [(.int (2 : Int32)), (.int (2 : Int32))])) B0 := fun t k => P1697 t (by
                    refine XS.iload X1696.here hx rfl (hb hby dp22_3_24) rfl ?_
                    refine XS.aloadN X1696.here hx rfl (hb hby dp22_3_26) rfl rfl ?_
                    show Sg p e below (T1696.setTop (mkF m 27 #[sR a1, sR fa, sI 1, sR f1, sR g1, sI 1, sI 1, sI 2, .val (.long (y1 &&& v1)), .second] [(.ref a1), (.int (2 : Int32))])) _
                    exact st1701 _ k)
                  have lk0 : own_look [q0, q1] [v0, v1] x0 = 0 := by simp only [own_look]; rw [if_neg (fun e => by have e' := congrArg Int32.toInt e; omega), if_neg (fun e => by have e' := congrArg Int32.toInt e; omega)]
                  have r0 : y0 &&& own_look [q0, q1] [v0, v1] x0 = 0 := by rw [lk0]; exact own_and0 _
                  have lk1 : own_look [q0, q1] [v0, v1] x1 = v1 := by simp only [own_look]; rw [if_neg (fun e => by have e' := congrArg Int32.toInt e; omega), if_pos q1656]
                  have r1 : ¬ y1 &&& own_look [q0, q1] [v0, v1] x1 = 0 := by rw [lk1]; exact q1657
                  have f1703 := (f1687.keep K1696)
                  have f1704 := (f1688.keep K1696)
                  have f1705 := (f1689.keep K1696)
                  have f1706 := (f1690.keep K1696 (ninS (Exa.ne E1 EP (by decide)) (ninS (Exa.ne E1 EW1 (by decide)) nin0)))
                  have f1707 := (f1691.keep K1696 (ninS (Exa.ne E1 EP (by decide)) (ninS (Exa.ne E1 EW1 (by decide)) nin0)))
                  have P1708 : Rg p e below (T1701.setTop (mkF m 142 #[sR a1, sR fa, sI 1, sR f1, sR g1, sI 1, sI 1, sI 2, .val (.long (y1 &&& v1)), .second] [])) B0 := fun t k => P1702 t (by
                    refine XS.icmpYes X1701.here hx rfl (pc0 := 30) (pc' := 142) rfl (hb hby dp22_3_30) rfl (flt (show ¬ ((2 : Int32) < (2 : Int32)) from (by decide))).2.1 (by decide) (by decide) ?_
                    show Sg p e below (T1701.setTop (mkF m 142 #[sR a1, sR fa, sI 1, sR f1, sR g1, sI 1, sI 1, sI 2, .val (.long (y1 &&& v1)), .second] [])) _
                    exact k)
                  obtain ⟨T1709, h1709, L1709, X1709, e1709, Nq1709, K1709, u1709_0, u1709_1, u1709_2, u1709_3, u1709_4, st1709⟩ := pc_rtx a1 fa f1 g1 P W kP kW (1 : Int32) M (2 : Int32) (1 : Int32) (1 : Int32) (2 : Int32) (([x1, x1] ++ ur).map Value.int) (([(y1 &&& v1), y1] ++ vr).map Value.long) (.val (.long (y1 &&& v1))) .second X1701 hx hZ hw hby hml hown e1701 Nq1696 Z1698 (Nat.le_of_ble_eq_true rfl) (Nat.le_of_ble_eq_true rfl) (by decide) (by decide) g_a1 f1703 f1704 f1705 f1706 f1707 f1700 AP1696 AW1696
                  have P1710 : Rg p e below (T1709.setTop (mkF m 148 #[sR a1, sR fa, sI 1, sR f1, sR g1, sI 1, sI 1, sI 2, .val (.long (y1 &&& v1)), .second] [])) B0 := fun t k => P1708 t (by
                    exact st1709 _ k)
                  have Z1711 : n0 ≤ h1709.size := Nat.le_trans Z1698 K1709.1
                  have K1712 : Keep h0 h1709 [a1, P, W] := K1699.trans K1709 ((allS (Or.inl (List.mem_of_getElem? (i := 0) rfl)) all0))
                  obtain ⟨fs1713, hr1713, hrun1713, hended1713, hW1713, hsame1713⟩ := X1709.leave (v := none) (fun _ => rfl)
                  refine ⟨_, _, pre0 _ (P1710 _ ?_), hrun1713, hended1713, _, _, rfl, ?_, ⟨⟨_, rfl⟩, hW1713, hsame1713.mono (Nat.le_of_ble_eq_true rfl) (Nat.le_of_ble_eq_true rfl)⟩⟩
                  · show Sg p e below (T1709.setTop (mkF m 148 #[sR a1, sR fa, sI 1, sR f1, sR g1, sI 1, sI 1, sI 2, .val (.long (y1 &&& v1)), .second] [])) _
                    exact X1709.returnOut hx Bd.returns (hb hby dp22_3_148) hr1713
                  · show Q_ret Z a1 P W kP kW M [x0, x1] ur [y0, y1] [q0, q1] [v0, v1] h0 n0 _ T1709.heap _
                    rw [e1709]
                    exact ⟨rfl, Nq1709, K1712, [x1], [x1] ++ ur, [(y1 &&& v1)], [y1] ++ vr, (1 : Int32), by rw [own_rp, if_pos r0, own_rp, if_neg r1]; rfl, by rw [own_rw, if_pos r0, own_rw, if_neg r1, lk1]; rfl, rfl, by simp, rfl, by simp [hv], u1709_0, u1709_1, u1709_2, u1709_3, u1709_4⟩
              · skip
                have tq1656 : ¬ q1.toInt = x1.toInt := fun y => q1656 (Int32.toInt_inj.mp y)
                have f1714 := ((f1602.keep K1611).keep K1617)
                have f1715 := ((f1603.keep K1611).keep K1617)
                have f1716 := ((f1604.keep K1611).keep K1617)
                have f1717 := ((f1605.keep K1611 nin0).keep K1617 nin0)
                have f1718 := ((f1606.keep K1611 nin0).keep K1617 nin0)
                have f1719 := (f1616.keep K1617 nin0)
                have f1720 := ((f1608.keep K1611 nin0).keep K1617 nin0)
                have f1721 := ((f1609.keep K1611 nin0).keep K1617 nin0)
                have f1722 := ((f1610.keep K1611 nin0).keep K1617 nin0)
                obtain ⟨T1723, h1723, L1723, X1723, e1723, Nq1723, K1723, st1723⟩ := pc_rtn a1 fa f1 g1 P W kf kg kP kW (1 : Int32) (2 : Int32) M (0 : Int32) (1 : Int32) (1 : Int32) q1 x1 y1 v1 [(.int q0), (.int q1)] [(.long v0), (.long v1)] (([x0, x1] ++ ur).map Value.int) (([y0, y1] ++ vr).map Value.long) sU sU X1617 hx hZ hw hby hml hown e1617 Nq1617 Z1619 (Nat.le_of_ble_eq_true rfl) (Nat.le_of_ble_eq_true rfl) (by decide) (by decide) g_P g_W f1714 f1715 f1716 f1717 f1718 f1719 f1720 f1721 f1722 (by decide) ⟨by decide, by decide⟩ rfl rfl (own_inb hM (k := 1) (by simp) hm) rfl rfl (Or.inl ⟨rfl, rfl⟩) q1621 q1656
                have P1724 : Rg p e below (T1723.setTop (mkF m 24 #[sR a1, sR fa, sI 1, sR f1, sR g1, sI 0, sI 1, sI 2, sU, sU] [])) B0 := fun t k => P1618 t (by
                  exact st1723 _ k)
                have Z1725 : n0 ≤ h1723.size := Nat.le_trans Z1619 K1723.1
                have K1726 : Keep h0 h1723 [a1, P, W] := K1620.trans K1723 (all0)
                have f1727 := ((f1615.keep K1617 nin0).keep K1723 nin0)
                obtain ⟨T1728, X1728, e1728, st1728⟩ := getF X1723 hx hZ hown (host := "") (Or.inl (own_hw hw 48 rfl)) Via.refl e1723 f1727 (g := (mkF m 27 #[sR a1, sR fa, sI 1, sR f1, sR g1, sI 0, sI 1, sI 2, sU, sU] [(.ref a1), (.int (2 : Int32))])) rfl rfl (hb hby dp22_3_27)
                have P1729 : Rg p e below (T1728.setTop (mkF m 30 #[sR a1, sR fa, sI 1, sR f1, sR g1, sI 0, sI 1, sI 2, sU, sU] [(.int (2 : Int32)), (.int (2 : Int32))])) B0 := fun t k => P1724 t (by
                  refine XS.iload X1723.here hx rfl (hb hby dp22_3_24) rfl ?_
                  refine XS.aloadN X1723.here hx rfl (hb hby dp22_3_26) rfl rfl ?_
                  show Sg p e below (T1723.setTop (mkF m 27 #[sR a1, sR fa, sI 1, sR f1, sR g1, sI 0, sI 1, sI 2, sU, sU] [(.ref a1), (.int (2 : Int32))])) _
                  exact st1728 _ k)
                have lk0 : own_look [q0, q1] [v0, v1] x0 = 0 := by simp only [own_look]; rw [if_neg (fun e => by have e' := congrArg Int32.toInt e; omega), if_neg (fun e => by have e' := congrArg Int32.toInt e; omega)]
                have r0 : y0 &&& own_look [q0, q1] [v0, v1] x0 = 0 := by rw [lk0]; exact own_and0 _
                have lk1 : own_look [q0, q1] [v0, v1] x1 = 0 := by simp only [own_look]; rw [if_neg (fun e => by have e' := congrArg Int32.toInt e; omega), if_neg (fun e => by have e' := congrArg Int32.toInt e; omega)]
                have r1 : y1 &&& own_look [q0, q1] [v0, v1] x1 = 0 := by rw [lk1]; exact own_and0 _
                have f1730 := (f1714.keep K1723)
                have f1731 := (f1715.keep K1723)
                have f1732 := (f1716.keep K1723)
                have f1733 := (f1717.keep K1723 nin0)
                have f1734 := (f1718.keep K1723 nin0)
                have f1735 := (f1721.keep K1723 nin0)
                have f1736 := (f1722.keep K1723 nin0)
                have P1737 : Rg p e below (T1728.setTop (mkF m 142 #[sR a1, sR fa, sI 1, sR f1, sR g1, sI 0, sI 1, sI 2, sU, sU] [])) B0 := fun t k => P1729 t (by
                  refine XS.icmpYes X1728.here hx rfl (pc0 := 30) (pc' := 142) rfl (hb hby dp22_3_30) rfl (flt (show ¬ ((2 : Int32) < (2 : Int32)) from (by decide))).2.1 (by decide) (by decide) ?_
                  show Sg p e below (T1728.setTop (mkF m 142 #[sR a1, sR fa, sI 1, sR f1, sR g1, sI 0, sI 1, sI 2, sU, sU] [])) _
                  exact k)
                obtain ⟨T1738, h1738, L1738, X1738, e1738, Nq1738, K1738, u1738_0, u1738_1, u1738_2, u1738_3, u1738_4, st1738⟩ := pc_rtx a1 fa f1 g1 P W kP kW (1 : Int32) M (2 : Int32) (0 : Int32) (1 : Int32) (2 : Int32) (([x0, x1] ++ ur).map Value.int) (([y0, y1] ++ vr).map Value.long) sU sU X1728 hx hZ hw hby hml hown e1728 Nq1723 Z1725 (Nat.le_of_ble_eq_true rfl) (Nat.le_of_ble_eq_true rfl) (by decide) (by decide) g_a1 f1730 f1731 f1732 f1733 f1734 f1727 f1735 f1736
                have P1739 : Rg p e below (T1738.setTop (mkF m 148 #[sR a1, sR fa, sI 1, sR f1, sR g1, sI 0, sI 1, sI 2, sU, sU] [])) B0 := fun t k => P1737 t (by
                  exact st1738 _ k)
                have Z1740 : n0 ≤ h1738.size := Nat.le_trans Z1725 K1738.1
                have K1741 : Keep h0 h1738 [a1, P, W] := K1726.trans K1738 ((allS (Or.inl (List.mem_of_getElem? (i := 0) rfl)) all0))
                obtain ⟨fs1742, hr1742, hrun1742, hended1742, hW1742, hsame1742⟩ := X1738.leave (v := none) (fun _ => rfl)
                refine ⟨_, _, pre0 _ (P1739 _ ?_), hrun1742, hended1742, _, _, rfl, ?_, ⟨⟨_, rfl⟩, hW1742, hsame1742.mono (Nat.le_of_ble_eq_true rfl) (Nat.le_of_ble_eq_true rfl)⟩⟩
                · show Sg p e below (T1738.setTop (mkF m 148 #[sR a1, sR fa, sI 1, sR f1, sR g1, sI 0, sI 1, sI 2, sU, sU] [])) _
                  exact X1738.returnOut hx Bd.returns (hb hby dp22_3_148) hr1742
                · show Q_ret Z a1 P W kP kW M [x0, x1] ur [y0, y1] [q0, q1] [v0, v1] h0 n0 _ T1738.heap _
                  rw [e1738]
                  exact ⟨rfl, Nq1738, K1741, [], [x0, x1] ++ ur, [], [y0, y1] ++ vr, (0 : Int32), by rw [own_rp, if_pos r0, own_rp, if_pos r1]; rfl, by rw [own_rw, if_pos r0, own_rw, if_pos r1]; rfl, rfl, by simp, rfl, by simp [hv], u1738_0, u1738_1, u1738_2, u1738_3, u1738_4⟩
      · skip
        have tq1443 : ¬ q0.toInt < x0.toInt := fun y => q1443 (Int32.lt_iff_toInt_lt.mpr y)
        by_cases q1743 : q0 = x0
        · skip
          have hit0 := q1743
          have thit0 := congrArg Int32.toInt q1743
          by_cases q1744 : y0 &&& v0 = (0 : Int64)
          · skip
            have f1745 := (E1.keep K1439)
            have f1746 := (EP.keep K1439)
            have f1747 := (EW1.keep K1439)
            have f1748 := (Fp.keep K1439 nin0)
            have f1749 := (Fw.keep K1439 nin0)
            have f1750 := (Af.keep K1439 nin0)
            have f1751 := (Ag.keep K1439 nin0)
            have f1752 := (AP.keep K1439 nin0)
            have f1753 := (AW.keep K1439 nin0)
            obtain ⟨T1754, h1754, L1754, X1754, e1754, Nq1754, K1754, st1754⟩ := pc_rtz a1 fa f1 g1 P W kf kg kP kW (1 : Int32) (2 : Int32) M (0 : Int32) (0 : Int32) (0 : Int32) q0 x0 y0 v0 [(.int q0), (.int q1)] [(.long v0), (.long v1)] (([x0, x1] ++ ur).map Value.int) (([y0, y1] ++ vr).map Value.long) sU sU X1439 hx hZ hw hby hml hown e1439 Nq1439 Z1441 (Nat.le_of_ble_eq_true rfl) (Nat.le_of_ble_eq_true rfl) (by decide) (by decide) g_P g_W f1745 f1746 f1747 f1748 f1749 f1750 f1751 f1752 f1753 (by decide) ⟨by decide, by decide⟩ rfl rfl (own_inb hM (k := 0) (by simp) hm) rfl rfl (Or.inl ⟨rfl, rfl⟩) q1443 q1743 q1744
            have P1755 : Rg p e below (T1754.setTop (mkF m 24 #[sR a1, sR fa, sI 1, sR f1, sR g1, sI 0, sI 0, sI 1, .val (.long (y0 &&& v0)), .second] [])) B0 := fun t k => P1440 t (by
              exact st1754 _ k)
            have Z1756 : n0 ≤ h1754.size := Nat.le_trans Z1441 K1754.1
            have K1757 : Keep h0 h1754 [a1, P, W] := K1442.trans K1754 (all0)
            have f1758 := ((Fc.keep K1439 nin0).keep K1754 nin0)
            have f1759 := (f1750.keep K1754 nin0)
            obtain ⟨T1760, h1760, L1760, X1760, e1760, Nq1760, K1760, st1760⟩ := pc_rth a1 fa f1 g1 kf (1 : Int32) (2 : Int32) (2 : Int32) (0 : Int32) (0 : Int32) (1 : Int32) [(.int q0), (.int q1)] (.val (.long (y0 &&& v0))) .second X1754 hx hZ hw hby hml hown e1754 Nq1754 Z1756 (Nat.le_of_ble_eq_true rfl) (Nat.le_of_ble_eq_true rfl) (by decide) (by decide) f1758 f1759 (by decide) (by decide)
            have P1761 : Rg p e below (T1760.setTop (mkF m 40 #[sR a1, sR fa, sI 1, sR f1, sR g1, sI 0, sI 0, sI 1, .val (.long (y0 &&& v0)), .second] [])) B0 := fun t k => P1755 t (by
              exact st1760 _ k)
            have Z1762 : n0 ≤ h1760.size := Nat.le_trans Z1756 K1760.1
            have K1763 : Keep h0 h1760 [a1, P, W] := K1757.trans K1760 (all0)
            have lq01 : q0 < x1 := by rw [hit0]; exact own_p2 hs
            have f1764 := ((f1745.keep K1754).keep K1760)
            have f1765 := ((f1746.keep K1754).keep K1760)
            have f1766 := ((f1747.keep K1754).keep K1760)
            have f1767 := ((f1748.keep K1754 nin0).keep K1760 nin0)
            have f1768 := ((f1749.keep K1754 nin0).keep K1760 nin0)
            have f1769 := (f1759.keep K1760 nin0)
            have f1770 := ((f1751.keep K1754 nin0).keep K1760 nin0)
            have f1771 := ((f1752.keep K1754 nin0).keep K1760 nin0)
            have f1772 := ((f1753.keep K1754 nin0).keep K1760 nin0)
            obtain ⟨T1773, h1773, L1773, X1773, e1773, Nq1773, K1773, st1773⟩ := pc_rtv a1 fa f1 g1 P W kf kg kP kW (1 : Int32) (2 : Int32) M (0 : Int32) (0 : Int32) (1 : Int32) q0 x1 y1 v0 [(.int q0), (.int q1)] [(.long v0), (.long v1)] (([x0, x1] ++ ur).map Value.int) (([y0, y1] ++ vr).map Value.long) (.val (.long (y0 &&& v0))) .second X1760 hx hZ hw hby hml hown e1760 Nq1760 Z1762 (Nat.le_of_ble_eq_true rfl) (Nat.le_of_ble_eq_true rfl) (by decide) (by decide) g_P g_W f1764 f1765 f1766 f1767 f1768 f1769 f1770 f1771 f1772 (by decide) ⟨by decide, by decide⟩ rfl rfl (own_inb hM (k := 1) (by simp) hm) rfl rfl (Or.inr ⟨_, rfl, rfl⟩) lq01
            have P1774 : Rg p e below (T1773.setTop (mkF m 40 #[sR a1, sR fa, sI 1, sR f1, sR g1, sI 0, sI 1, sI 1, .val (.long (y0 &&& v0)), .second] [])) B0 := fun t k => P1761 t (by
              exact st1773 _ k)
            have Z1775 : n0 ≤ h1773.size := Nat.le_trans Z1762 K1773.1
            have K1776 : Keep h0 h1773 [a1, P, W] := K1763.trans K1773 (all0)
            by_cases q1777 : q1 < x1
            · skip
              have tq1777 := Int32.lt_iff_toInt_lt.mp q1777
              have f1778 := (f1764.keep K1773)
              have f1779 := (f1765.keep K1773)
              have f1780 := (f1766.keep K1773)
              have f1781 := (f1767.keep K1773 nin0)
              have f1782 := (f1768.keep K1773 nin0)
              have f1783 := (f1769.keep K1773 nin0)
              have f1784 := (f1770.keep K1773 nin0)
              have f1785 := (f1771.keep K1773 nin0)
              have f1786 := (f1772.keep K1773 nin0)
              obtain ⟨T1787, h1787, L1787, X1787, e1787, Nq1787, K1787, st1787⟩ := pc_rtv a1 fa f1 g1 P W kf kg kP kW (1 : Int32) (2 : Int32) M (0 : Int32) (1 : Int32) (1 : Int32) q1 x1 y1 v1 [(.int q0), (.int q1)] [(.long v0), (.long v1)] (([x0, x1] ++ ur).map Value.int) (([y0, y1] ++ vr).map Value.long) (.val (.long (y0 &&& v0))) .second X1773 hx hZ hw hby hml hown e1773 Nq1773 Z1775 (Nat.le_of_ble_eq_true rfl) (Nat.le_of_ble_eq_true rfl) (by decide) (by decide) g_P g_W f1778 f1779 f1780 f1781 f1782 f1783 f1784 f1785 f1786 (by decide) ⟨by decide, by decide⟩ rfl rfl (own_inb hM (k := 1) (by simp) hm) rfl rfl (Or.inr ⟨_, rfl, rfl⟩) q1777
              have P1788 : Rg p e below (T1787.setTop (mkF m 40 #[sR a1, sR fa, sI 1, sR f1, sR g1, sI 0, sI 2, sI 1, .val (.long (y0 &&& v0)), .second] [])) B0 := fun t k => P1774 t (by
                exact st1787 _ k)
              have Z1789 : n0 ≤ h1787.size := Nat.le_trans Z1775 K1787.1
              have K1790 : Keep h0 h1787 [a1, P, W] := K1776.trans K1787 (all0)
              have f1791 := (f1783.keep K1787 nin0)
              obtain ⟨T1792, h1792, L1792, X1792, e1792, Nq1792, K1792, st1792⟩ := pc_rtd a1 fa f1 g1 kf (1 : Int32) (2 : Int32) (0 : Int32) (2 : Int32) (1 : Int32) [(.int q0), (.int q1)] (.val (.long (y0 &&& v0))) .second X1787 hx hZ hw hby hml hown e1787 Nq1787 Z1789 (Nat.le_of_ble_eq_true rfl) (Nat.le_of_ble_eq_true rfl) (by decide) (by decide) f1791 (by decide)
              have P1793 : Rg p e below (T1792.setTop (mkF m 24 #[sR a1, sR fa, sI 1, sR f1, sR g1, sI 0, sI 2, sI 2, .val (.long (y0 &&& v0)), .second] [])) B0 := fun t k => P1788 t (by
                exact st1792 _ k)
              have Z1794 : n0 ≤ h1792.size := Nat.le_trans Z1789 K1792.1
              have K1795 : Keep h0 h1792 [a1, P, W] := K1790.trans K1792 (all0)
              have f1796 := ((((f1758.keep K1760 nin0).keep K1773 nin0).keep K1787 nin0).keep K1792 nin0)
              obtain ⟨T1797, X1797, e1797, st1797⟩ := getF X1792 hx hZ hown (host := "") (Or.inl (own_hw hw 48 rfl)) Via.refl e1792 f1796 (g := (mkF m 27 #[sR a1, sR fa, sI 1, sR f1, sR g1, sI 0, sI 2, sI 2, .val (.long (y0 &&& v0)), .second] [(.ref a1), (.int (2 : Int32))])) rfl rfl (hb hby dp22_3_27)
              have P1798 : Rg p e below (T1797.setTop (mkF m 30 #[sR a1, sR fa, sI 1, sR f1, sR g1, sI 0, sI 2, sI 2, .val (.long (y0 &&& v0)), .second] [(.int (2 : Int32)), (.int (2 : Int32))])) B0 := fun t k => P1793 t (by
                refine XS.iload X1792.here hx rfl (hb hby dp22_3_24) rfl ?_
                refine XS.aloadN X1792.here hx rfl (hb hby dp22_3_26) rfl rfl ?_
                show Sg p e below (T1792.setTop (mkF m 27 #[sR a1, sR fa, sI 1, sR f1, sR g1, sI 0, sI 2, sI 2, .val (.long (y0 &&& v0)), .second] [(.ref a1), (.int (2 : Int32))])) _
                exact st1797 _ k)
              have lk0 : own_look [q0, q1] [v0, v1] x0 = v0 := by simp only [own_look]; rw [if_pos q1743]
              have r0 : y0 &&& own_look [q0, q1] [v0, v1] x0 = 0 := by rw [lk0]; exact q1744
              have lk1 : own_look [q0, q1] [v0, v1] x1 = 0 := by simp only [own_look]; rw [if_neg (fun e => by have e' := congrArg Int32.toInt e; omega), if_neg (fun e => by have e' := congrArg Int32.toInt e; omega)]
              have r1 : y1 &&& own_look [q0, q1] [v0, v1] x1 = 0 := by rw [lk1]; exact own_and0 _
              have f1799 := ((f1778.keep K1787).keep K1792)
              have f1800 := ((f1779.keep K1787).keep K1792)
              have f1801 := ((f1780.keep K1787).keep K1792)
              have f1802 := ((f1781.keep K1787 nin0).keep K1792 nin0)
              have f1803 := ((f1782.keep K1787 nin0).keep K1792 nin0)
              have f1804 := ((f1785.keep K1787 nin0).keep K1792 nin0)
              have f1805 := ((f1786.keep K1787 nin0).keep K1792 nin0)
              have P1806 : Rg p e below (T1797.setTop (mkF m 142 #[sR a1, sR fa, sI 1, sR f1, sR g1, sI 0, sI 2, sI 2, .val (.long (y0 &&& v0)), .second] [])) B0 := fun t k => P1798 t (by
                refine XS.icmpYes X1797.here hx rfl (pc0 := 30) (pc' := 142) rfl (hb hby dp22_3_30) rfl (flt (show ¬ ((2 : Int32) < (2 : Int32)) from (by decide))).2.1 (by decide) (by decide) ?_
                show Sg p e below (T1797.setTop (mkF m 142 #[sR a1, sR fa, sI 1, sR f1, sR g1, sI 0, sI 2, sI 2, .val (.long (y0 &&& v0)), .second] [])) _
                exact k)
              obtain ⟨T1807, h1807, L1807, X1807, e1807, Nq1807, K1807, u1807_0, u1807_1, u1807_2, u1807_3, u1807_4, st1807⟩ := pc_rtx a1 fa f1 g1 P W kP kW (1 : Int32) M (2 : Int32) (0 : Int32) (2 : Int32) (2 : Int32) (([x0, x1] ++ ur).map Value.int) (([y0, y1] ++ vr).map Value.long) (.val (.long (y0 &&& v0))) .second X1797 hx hZ hw hby hml hown e1797 Nq1792 Z1794 (Nat.le_of_ble_eq_true rfl) (Nat.le_of_ble_eq_true rfl) (by decide) (by decide) g_a1 f1799 f1800 f1801 f1802 f1803 f1796 f1804 f1805
              have P1808 : Rg p e below (T1807.setTop (mkF m 148 #[sR a1, sR fa, sI 1, sR f1, sR g1, sI 0, sI 2, sI 2, .val (.long (y0 &&& v0)), .second] [])) B0 := fun t k => P1806 t (by
                exact st1807 _ k)
              have Z1809 : n0 ≤ h1807.size := Nat.le_trans Z1794 K1807.1
              have K1810 : Keep h0 h1807 [a1, P, W] := K1795.trans K1807 ((allS (Or.inl (List.mem_of_getElem? (i := 0) rfl)) all0))
              obtain ⟨fs1811, hr1811, hrun1811, hended1811, hW1811, hsame1811⟩ := X1807.leave (v := none) (fun _ => rfl)
              refine ⟨_, _, pre0 _ (P1808 _ ?_), hrun1811, hended1811, _, _, rfl, ?_, ⟨⟨_, rfl⟩, hW1811, hsame1811.mono (Nat.le_of_ble_eq_true rfl) (Nat.le_of_ble_eq_true rfl)⟩⟩
              · show Sg p e below (T1807.setTop (mkF m 148 #[sR a1, sR fa, sI 1, sR f1, sR g1, sI 0, sI 2, sI 2, .val (.long (y0 &&& v0)), .second] [])) _
                exact X1807.returnOut hx Bd.returns (hb hby dp22_3_148) hr1811
              · show Q_ret Z a1 P W kP kW M [x0, x1] ur [y0, y1] [q0, q1] [v0, v1] h0 n0 _ T1807.heap _
                rw [e1807]
                exact ⟨rfl, Nq1807, K1810, [], [x0, x1] ++ ur, [], [y0, y1] ++ vr, (0 : Int32), by rw [own_rp, if_pos r0, own_rp, if_pos r1]; rfl, by rw [own_rw, if_pos r0, own_rw, if_pos r1]; rfl, rfl, by simp, rfl, by simp [hv], u1807_0, u1807_1, u1807_2, u1807_3, u1807_4⟩
            · skip
              have tq1777 : ¬ q1.toInt < x1.toInt := fun y => q1777 (Int32.lt_iff_toInt_lt.mpr y)
              by_cases q1812 : q1 = x1
              · skip
                have hit1 := q1812
                have thit1 := congrArg Int32.toInt q1812
                by_cases q1813 : y1 &&& v1 = (0 : Int64)
                · skip
                  have f1814 := (f1764.keep K1773)
                  have f1815 := (f1765.keep K1773)
                  have f1816 := (f1766.keep K1773)
                  have f1817 := (f1767.keep K1773 nin0)
                  have f1818 := (f1768.keep K1773 nin0)
                  have f1819 := (f1769.keep K1773 nin0)
                  have f1820 := (f1770.keep K1773 nin0)
                  have f1821 := (f1771.keep K1773 nin0)
                  have f1822 := (f1772.keep K1773 nin0)
                  obtain ⟨T1823, h1823, L1823, X1823, e1823, Nq1823, K1823, st1823⟩ := pc_rtz a1 fa f1 g1 P W kf kg kP kW (1 : Int32) (2 : Int32) M (0 : Int32) (1 : Int32) (1 : Int32) q1 x1 y1 v1 [(.int q0), (.int q1)] [(.long v0), (.long v1)] (([x0, x1] ++ ur).map Value.int) (([y0, y1] ++ vr).map Value.long) (.val (.long (y0 &&& v0))) .second X1773 hx hZ hw hby hml hown e1773 Nq1773 Z1775 (Nat.le_of_ble_eq_true rfl) (Nat.le_of_ble_eq_true rfl) (by decide) (by decide) g_P g_W f1814 f1815 f1816 f1817 f1818 f1819 f1820 f1821 f1822 (by decide) ⟨by decide, by decide⟩ rfl rfl (own_inb hM (k := 1) (by simp) hm) rfl rfl (Or.inr ⟨_, rfl, rfl⟩) q1777 q1812 q1813
                  have P1824 : Rg p e below (T1823.setTop (mkF m 24 #[sR a1, sR fa, sI 1, sR f1, sR g1, sI 0, sI 1, sI 2, .val (.long (y1 &&& v1)), .second] [])) B0 := fun t k => P1774 t (by
                    exact st1823 _ k)
                  have Z1825 : n0 ≤ h1823.size := Nat.le_trans Z1775 K1823.1
                  have K1826 : Keep h0 h1823 [a1, P, W] := K1776.trans K1823 (all0)
                  have f1827 := (((f1758.keep K1760 nin0).keep K1773 nin0).keep K1823 nin0)
                  obtain ⟨T1828, X1828, e1828, st1828⟩ := getF X1823 hx hZ hown (host := "") (Or.inl (own_hw hw 48 rfl)) Via.refl e1823 f1827 (g := (mkF m 27 #[sR a1, sR fa, sI 1, sR f1, sR g1, sI 0, sI 1, sI 2, .val (.long (y1 &&& v1)), .second] [(.ref a1), (.int (2 : Int32))])) rfl rfl (hb hby dp22_3_27)
                  have P1829 : Rg p e below (T1828.setTop (mkF m 30 #[sR a1, sR fa, sI 1, sR f1, sR g1, sI 0, sI 1, sI 2, .val (.long (y1 &&& v1)), .second] [(.int (2 : Int32)), (.int (2 : Int32))])) B0 := fun t k => P1824 t (by
                    refine XS.iload X1823.here hx rfl (hb hby dp22_3_24) rfl ?_
                    refine XS.aloadN X1823.here hx rfl (hb hby dp22_3_26) rfl rfl ?_
                    show Sg p e below (T1823.setTop (mkF m 27 #[sR a1, sR fa, sI 1, sR f1, sR g1, sI 0, sI 1, sI 2, .val (.long (y1 &&& v1)), .second] [(.ref a1), (.int (2 : Int32))])) _
                    exact st1828 _ k)
                  have lk0 : own_look [q0, q1] [v0, v1] x0 = v0 := by simp only [own_look]; rw [if_pos q1743]
                  have r0 : y0 &&& own_look [q0, q1] [v0, v1] x0 = 0 := by rw [lk0]; exact q1744
                  have lk1 : own_look [q0, q1] [v0, v1] x1 = v1 := by simp only [own_look]; rw [if_neg (fun e => by have e' := congrArg Int32.toInt e; omega), if_pos q1812]
                  have r1 : y1 &&& own_look [q0, q1] [v0, v1] x1 = 0 := by rw [lk1]; exact q1813
                  have f1830 := (f1814.keep K1823)
                  have f1831 := (f1815.keep K1823)
                  have f1832 := (f1816.keep K1823)
                  have f1833 := (f1817.keep K1823 nin0)
                  have f1834 := (f1818.keep K1823 nin0)
                  have f1835 := (f1821.keep K1823 nin0)
                  have f1836 := (f1822.keep K1823 nin0)
                  have P1837 : Rg p e below (T1828.setTop (mkF m 142 #[sR a1, sR fa, sI 1, sR f1, sR g1, sI 0, sI 1, sI 2, .val (.long (y1 &&& v1)), .second] [])) B0 := fun t k => P1829 t (by
                    refine XS.icmpYes X1828.here hx rfl (pc0 := 30) (pc' := 142) rfl (hb hby dp22_3_30) rfl (flt (show ¬ ((2 : Int32) < (2 : Int32)) from (by decide))).2.1 (by decide) (by decide) ?_
                    show Sg p e below (T1828.setTop (mkF m 142 #[sR a1, sR fa, sI 1, sR f1, sR g1, sI 0, sI 1, sI 2, .val (.long (y1 &&& v1)), .second] [])) _
                    exact k)
                  obtain ⟨T1838, h1838, L1838, X1838, e1838, Nq1838, K1838, u1838_0, u1838_1, u1838_2, u1838_3, u1838_4, st1838⟩ := pc_rtx a1 fa f1 g1 P W kP kW (1 : Int32) M (2 : Int32) (0 : Int32) (1 : Int32) (2 : Int32) (([x0, x1] ++ ur).map Value.int) (([y0, y1] ++ vr).map Value.long) (.val (.long (y1 &&& v1))) .second X1828 hx hZ hw hby hml hown e1828 Nq1823 Z1825 (Nat.le_of_ble_eq_true rfl) (Nat.le_of_ble_eq_true rfl) (by decide) (by decide) g_a1 f1830 f1831 f1832 f1833 f1834 f1827 f1835 f1836
                  have P1839 : Rg p e below (T1838.setTop (mkF m 148 #[sR a1, sR fa, sI 1, sR f1, sR g1, sI 0, sI 1, sI 2, .val (.long (y1 &&& v1)), .second] [])) B0 := fun t k => P1837 t (by
                    exact st1838 _ k)
                  have Z1840 : n0 ≤ h1838.size := Nat.le_trans Z1825 K1838.1
                  have K1841 : Keep h0 h1838 [a1, P, W] := K1826.trans K1838 ((allS (Or.inl (List.mem_of_getElem? (i := 0) rfl)) all0))
                  obtain ⟨fs1842, hr1842, hrun1842, hended1842, hW1842, hsame1842⟩ := X1838.leave (v := none) (fun _ => rfl)
                  refine ⟨_, _, pre0 _ (P1839 _ ?_), hrun1842, hended1842, _, _, rfl, ?_, ⟨⟨_, rfl⟩, hW1842, hsame1842.mono (Nat.le_of_ble_eq_true rfl) (Nat.le_of_ble_eq_true rfl)⟩⟩
                  · show Sg p e below (T1838.setTop (mkF m 148 #[sR a1, sR fa, sI 1, sR f1, sR g1, sI 0, sI 1, sI 2, .val (.long (y1 &&& v1)), .second] [])) _
                    exact X1838.returnOut hx Bd.returns (hb hby dp22_3_148) hr1842
                  · show Q_ret Z a1 P W kP kW M [x0, x1] ur [y0, y1] [q0, q1] [v0, v1] h0 n0 _ T1838.heap _
                    rw [e1838]
                    exact ⟨rfl, Nq1838, K1841, [], [x0, x1] ++ ur, [], [y0, y1] ++ vr, (0 : Int32), by rw [own_rp, if_pos r0, own_rp, if_pos r1]; rfl, by rw [own_rw, if_pos r0, own_rw, if_pos r1]; rfl, rfl, by simp, rfl, by simp [hv], u1838_0, u1838_1, u1838_2, u1838_3, u1838_4⟩
                · skip
                  have f1843 := (f1764.keep K1773)
                  have f1844 := (f1765.keep K1773)
                  have f1845 := (f1766.keep K1773)
                  have f1846 := (f1767.keep K1773 nin0)
                  have f1847 := (f1768.keep K1773 nin0)
                  have f1848 := (f1769.keep K1773 nin0)
                  have f1849 := (f1770.keep K1773 nin0)
                  have f1850 := (f1771.keep K1773 nin0)
                  have f1851 := (f1772.keep K1773 nin0)
                  obtain ⟨T1852, h1852, L1852, X1852, e1852, Nq1852, K1852, u1852_0, u1852_1, st1852⟩ := pc_rtk a1 fa f1 g1 P W kf kg kP kW (1 : Int32) (2 : Int32) M (0 : Int32) (1 : Int32) (1 : Int32) q1 x1 y1 v1 [(.int q0), (.int q1)] [(.long v0), (.long v1)] (([x0, x1] ++ ur).map Value.int) (([y0, y1] ++ vr).map Value.long) (.val (.long (y0 &&& v0))) .second 0 X1773 hx hZ hw hby hml hown e1773 Nq1773 Z1775 (Nat.le_of_ble_eq_true rfl) (Nat.le_of_ble_eq_true rfl) (by decide) (by decide) g_P g_W f1843 f1844 f1845 f1846 f1847 f1848 f1849 f1850 f1851 (by decide) ⟨by decide, by decide⟩ rfl rfl (own_inb hM (k := 1) (by simp) hm) rfl rfl (Or.inr ⟨_, rfl, rfl⟩) q1777 q1812 q1813 (own_inb hM (k := 0) (by simp) hm) rfl (by simp) (by simp)
                  have P1853 : Rg p e below (T1852.setTop (mkF m 24 #[sR a1, sR fa, sI 1, sR f1, sR g1, sI 1, sI 1, sI 2, .val (.long (y1 &&& v1)), .second] [])) B0 := fun t k => P1774 t (by
                    exact st1852 _ k)
                  have Z1854 : n0 ≤ h1852.size := Nat.le_trans Z1775 K1852.1
                  have K1855 : Keep h0 h1852 [a1, P, W] := K1776.trans K1852 ((allS (Or.inl (List.mem_of_getElem? (i := 1) rfl)) (allS (Or.inl (List.mem_of_getElem? (i := 2) rfl)) all0)))
                  have AP1852 : Arv Z h1852 P kP .int M (([x1, x1] ++ ur).map Value.int) (.int (0 : Int32)) := u1852_0
                  have AW1852 : Arv Z h1852 W kW .long M (([(y1 &&& v1), y1] ++ vr).map Value.long) (.long (0 : Int64)) := u1852_1
                  have f1856 := (((f1758.keep K1760 nin0).keep K1773 nin0).keep K1852 (ninS (Exa.ne E1 EP (by decide)) (ninS (Exa.ne E1 EW1 (by decide)) nin0)))
                  obtain ⟨T1857, X1857, e1857, st1857⟩ := getF X1852 hx hZ hown (host := "") (Or.inl (own_hw hw 48 rfl)) Via.refl e1852 f1856 (g := (mkF m 27 #[sR a1, sR fa, sI 1, sR f1, sR g1, sI 1, sI 1, sI 2, .val (.long (y1 &&& v1)), .second] [(.ref a1), (.int (2 : Int32))])) rfl rfl (hb hby dp22_3_27)
                  have P1858 : Rg p e below (T1857.setTop (mkF m 30 #[sR a1, sR fa, sI 1, sR f1, sR g1, sI 1, sI 1, sI 2, .val (.long (y1 &&& v1)), .second] [(.int (2 : Int32)), (.int (2 : Int32))])) B0 := fun t k => P1853 t (by
                    refine XS.iload X1852.here hx rfl (hb hby dp22_3_24) rfl ?_
                    refine XS.aloadN X1852.here hx rfl (hb hby dp22_3_26) rfl rfl ?_
                    show Sg p e below (T1852.setTop (mkF m 27 #[sR a1, sR fa, sI 1, sR f1, sR g1, sI 1, sI 1, sI 2, .val (.long (y1 &&& v1)), .second] [(.ref a1), (.int (2 : Int32))])) _
                    exact st1857 _ k)
                  have lk0 : own_look [q0, q1] [v0, v1] x0 = v0 := by simp only [own_look]; rw [if_pos q1743]
                  have r0 : y0 &&& own_look [q0, q1] [v0, v1] x0 = 0 := by rw [lk0]; exact q1744
                  have lk1 : own_look [q0, q1] [v0, v1] x1 = v1 := by simp only [own_look]; rw [if_neg (fun e => by have e' := congrArg Int32.toInt e; omega), if_pos q1812]
                  have r1 : ¬ y1 &&& own_look [q0, q1] [v0, v1] x1 = 0 := by rw [lk1]; exact q1813
                  have f1859 := (f1843.keep K1852)
                  have f1860 := (f1844.keep K1852)
                  have f1861 := (f1845.keep K1852)
                  have f1862 := (f1846.keep K1852 (ninS (Exa.ne E1 EP (by decide)) (ninS (Exa.ne E1 EW1 (by decide)) nin0)))
                  have f1863 := (f1847.keep K1852 (ninS (Exa.ne E1 EP (by decide)) (ninS (Exa.ne E1 EW1 (by decide)) nin0)))
                  have P1864 : Rg p e below (T1857.setTop (mkF m 142 #[sR a1, sR fa, sI 1, sR f1, sR g1, sI 1, sI 1, sI 2, .val (.long (y1 &&& v1)), .second] [])) B0 := fun t k => P1858 t (by
                    refine XS.icmpYes X1857.here hx rfl (pc0 := 30) (pc' := 142) rfl (hb hby dp22_3_30) rfl (flt (show ¬ ((2 : Int32) < (2 : Int32)) from (by decide))).2.1 (by decide) (by decide) ?_
                    show Sg p e below (T1857.setTop (mkF m 142 #[sR a1, sR fa, sI 1, sR f1, sR g1, sI 1, sI 1, sI 2, .val (.long (y1 &&& v1)), .second] [])) _
                    exact k)
                  obtain ⟨T1865, h1865, L1865, X1865, e1865, Nq1865, K1865, u1865_0, u1865_1, u1865_2, u1865_3, u1865_4, st1865⟩ := pc_rtx a1 fa f1 g1 P W kP kW (1 : Int32) M (2 : Int32) (1 : Int32) (1 : Int32) (2 : Int32) (([x1, x1] ++ ur).map Value.int) (([(y1 &&& v1), y1] ++ vr).map Value.long) (.val (.long (y1 &&& v1))) .second X1857 hx hZ hw hby hml hown e1857 Nq1852 Z1854 (Nat.le_of_ble_eq_true rfl) (Nat.le_of_ble_eq_true rfl) (by decide) (by decide) g_a1 f1859 f1860 f1861 f1862 f1863 f1856 AP1852 AW1852
                  have P1866 : Rg p e below (T1865.setTop (mkF m 148 #[sR a1, sR fa, sI 1, sR f1, sR g1, sI 1, sI 1, sI 2, .val (.long (y1 &&& v1)), .second] [])) B0 := fun t k => P1864 t (by
                    exact st1865 _ k)
                  have Z1867 : n0 ≤ h1865.size := Nat.le_trans Z1854 K1865.1
                  have K1868 : Keep h0 h1865 [a1, P, W] := K1855.trans K1865 ((allS (Or.inl (List.mem_of_getElem? (i := 0) rfl)) all0))
                  obtain ⟨fs1869, hr1869, hrun1869, hended1869, hW1869, hsame1869⟩ := X1865.leave (v := none) (fun _ => rfl)
                  refine ⟨_, _, pre0 _ (P1866 _ ?_), hrun1869, hended1869, _, _, rfl, ?_, ⟨⟨_, rfl⟩, hW1869, hsame1869.mono (Nat.le_of_ble_eq_true rfl) (Nat.le_of_ble_eq_true rfl)⟩⟩
                  · show Sg p e below (T1865.setTop (mkF m 148 #[sR a1, sR fa, sI 1, sR f1, sR g1, sI 1, sI 1, sI 2, .val (.long (y1 &&& v1)), .second] [])) _
                    exact X1865.returnOut hx Bd.returns (hb hby dp22_3_148) hr1869
                  · show Q_ret Z a1 P W kP kW M [x0, x1] ur [y0, y1] [q0, q1] [v0, v1] h0 n0 _ T1865.heap _
                    rw [e1865]
                    exact ⟨rfl, Nq1865, K1868, [x1], [x1] ++ ur, [(y1 &&& v1)], [y1] ++ vr, (1 : Int32), by rw [own_rp, if_pos r0, own_rp, if_neg r1]; rfl, by rw [own_rw, if_pos r0, own_rw, if_neg r1, lk1]; rfl, rfl, by simp, rfl, by simp [hv], u1865_0, u1865_1, u1865_2, u1865_3, u1865_4⟩
              · skip
                have tq1812 : ¬ q1.toInt = x1.toInt := fun y => q1812 (Int32.toInt_inj.mp y)
                have f1870 := (f1764.keep K1773)
                have f1871 := (f1765.keep K1773)
                have f1872 := (f1766.keep K1773)
                have f1873 := (f1767.keep K1773 nin0)
                have f1874 := (f1768.keep K1773 nin0)
                have f1875 := (f1769.keep K1773 nin0)
                have f1876 := (f1770.keep K1773 nin0)
                have f1877 := (f1771.keep K1773 nin0)
                have f1878 := (f1772.keep K1773 nin0)
                obtain ⟨T1879, h1879, L1879, X1879, e1879, Nq1879, K1879, st1879⟩ := pc_rtn a1 fa f1 g1 P W kf kg kP kW (1 : Int32) (2 : Int32) M (0 : Int32) (1 : Int32) (1 : Int32) q1 x1 y1 v1 [(.int q0), (.int q1)] [(.long v0), (.long v1)] (([x0, x1] ++ ur).map Value.int) (([y0, y1] ++ vr).map Value.long) (.val (.long (y0 &&& v0))) .second X1773 hx hZ hw hby hml hown e1773 Nq1773 Z1775 (Nat.le_of_ble_eq_true rfl) (Nat.le_of_ble_eq_true rfl) (by decide) (by decide) g_P g_W f1870 f1871 f1872 f1873 f1874 f1875 f1876 f1877 f1878 (by decide) ⟨by decide, by decide⟩ rfl rfl (own_inb hM (k := 1) (by simp) hm) rfl rfl (Or.inr ⟨_, rfl, rfl⟩) q1777 q1812
                have P1880 : Rg p e below (T1879.setTop (mkF m 24 #[sR a1, sR fa, sI 1, sR f1, sR g1, sI 0, sI 1, sI 2, .val (.long (y0 &&& v0)), .second] [])) B0 := fun t k => P1774 t (by
                  exact st1879 _ k)
                have Z1881 : n0 ≤ h1879.size := Nat.le_trans Z1775 K1879.1
                have K1882 : Keep h0 h1879 [a1, P, W] := K1776.trans K1879 (all0)
                have f1883 := (((f1758.keep K1760 nin0).keep K1773 nin0).keep K1879 nin0)
                obtain ⟨T1884, X1884, e1884, st1884⟩ := getF X1879 hx hZ hown (host := "") (Or.inl (own_hw hw 48 rfl)) Via.refl e1879 f1883 (g := (mkF m 27 #[sR a1, sR fa, sI 1, sR f1, sR g1, sI 0, sI 1, sI 2, .val (.long (y0 &&& v0)), .second] [(.ref a1), (.int (2 : Int32))])) rfl rfl (hb hby dp22_3_27)
                have P1885 : Rg p e below (T1884.setTop (mkF m 30 #[sR a1, sR fa, sI 1, sR f1, sR g1, sI 0, sI 1, sI 2, .val (.long (y0 &&& v0)), .second] [(.int (2 : Int32)), (.int (2 : Int32))])) B0 := fun t k => P1880 t (by
                  refine XS.iload X1879.here hx rfl (hb hby dp22_3_24) rfl ?_
                  refine XS.aloadN X1879.here hx rfl (hb hby dp22_3_26) rfl rfl ?_
                  show Sg p e below (T1879.setTop (mkF m 27 #[sR a1, sR fa, sI 1, sR f1, sR g1, sI 0, sI 1, sI 2, .val (.long (y0 &&& v0)), .second] [(.ref a1), (.int (2 : Int32))])) _
                  exact st1884 _ k)
                have lk0 : own_look [q0, q1] [v0, v1] x0 = v0 := by simp only [own_look]; rw [if_pos q1743]
                have r0 : y0 &&& own_look [q0, q1] [v0, v1] x0 = 0 := by rw [lk0]; exact q1744
                have lk1 : own_look [q0, q1] [v0, v1] x1 = 0 := by simp only [own_look]; rw [if_neg (fun e => by have e' := congrArg Int32.toInt e; omega), if_neg (fun e => by have e' := congrArg Int32.toInt e; omega)]
                have r1 : y1 &&& own_look [q0, q1] [v0, v1] x1 = 0 := by rw [lk1]; exact own_and0 _
                have f1886 := (f1870.keep K1879)
                have f1887 := (f1871.keep K1879)
                have f1888 := (f1872.keep K1879)
                have f1889 := (f1873.keep K1879 nin0)
                have f1890 := (f1874.keep K1879 nin0)
                have f1891 := (f1877.keep K1879 nin0)
                have f1892 := (f1878.keep K1879 nin0)
                have P1893 : Rg p e below (T1884.setTop (mkF m 142 #[sR a1, sR fa, sI 1, sR f1, sR g1, sI 0, sI 1, sI 2, .val (.long (y0 &&& v0)), .second] [])) B0 := fun t k => P1885 t (by
                  refine XS.icmpYes X1884.here hx rfl (pc0 := 30) (pc' := 142) rfl (hb hby dp22_3_30) rfl (flt (show ¬ ((2 : Int32) < (2 : Int32)) from (by decide))).2.1 (by decide) (by decide) ?_
                  show Sg p e below (T1884.setTop (mkF m 142 #[sR a1, sR fa, sI 1, sR f1, sR g1, sI 0, sI 1, sI 2, .val (.long (y0 &&& v0)), .second] [])) _
                  exact k)
                obtain ⟨T1894, h1894, L1894, X1894, e1894, Nq1894, K1894, u1894_0, u1894_1, u1894_2, u1894_3, u1894_4, st1894⟩ := pc_rtx a1 fa f1 g1 P W kP kW (1 : Int32) M (2 : Int32) (0 : Int32) (1 : Int32) (2 : Int32) (([x0, x1] ++ ur).map Value.int) (([y0, y1] ++ vr).map Value.long) (.val (.long (y0 &&& v0))) .second X1884 hx hZ hw hby hml hown e1884 Nq1879 Z1881 (Nat.le_of_ble_eq_true rfl) (Nat.le_of_ble_eq_true rfl) (by decide) (by decide) g_a1 f1886 f1887 f1888 f1889 f1890 f1883 f1891 f1892
                have P1895 : Rg p e below (T1894.setTop (mkF m 148 #[sR a1, sR fa, sI 1, sR f1, sR g1, sI 0, sI 1, sI 2, .val (.long (y0 &&& v0)), .second] [])) B0 := fun t k => P1893 t (by
                  exact st1894 _ k)
                have Z1896 : n0 ≤ h1894.size := Nat.le_trans Z1881 K1894.1
                have K1897 : Keep h0 h1894 [a1, P, W] := K1882.trans K1894 ((allS (Or.inl (List.mem_of_getElem? (i := 0) rfl)) all0))
                obtain ⟨fs1898, hr1898, hrun1898, hended1898, hW1898, hsame1898⟩ := X1894.leave (v := none) (fun _ => rfl)
                refine ⟨_, _, pre0 _ (P1895 _ ?_), hrun1898, hended1898, _, _, rfl, ?_, ⟨⟨_, rfl⟩, hW1898, hsame1898.mono (Nat.le_of_ble_eq_true rfl) (Nat.le_of_ble_eq_true rfl)⟩⟩
                · show Sg p e below (T1894.setTop (mkF m 148 #[sR a1, sR fa, sI 1, sR f1, sR g1, sI 0, sI 1, sI 2, .val (.long (y0 &&& v0)), .second] [])) _
                  exact X1894.returnOut hx Bd.returns (hb hby dp22_3_148) hr1898
                · show Q_ret Z a1 P W kP kW M [x0, x1] ur [y0, y1] [q0, q1] [v0, v1] h0 n0 _ T1894.heap _
                  rw [e1894]
                  exact ⟨rfl, Nq1894, K1897, [], [x0, x1] ++ ur, [], [y0, y1] ++ vr, (0 : Int32), by rw [own_rp, if_pos r0, own_rp, if_pos r1]; rfl, by rw [own_rw, if_pos r0, own_rw, if_pos r1]; rfl, rfl, by simp, rfl, by simp [hv], u1894_0, u1894_1, u1894_2, u1894_3, u1894_4⟩
          · skip
            have f1899 := (E1.keep K1439)
            have f1900 := (EP.keep K1439)
            have f1901 := (EW1.keep K1439)
            have f1902 := (Fp.keep K1439 nin0)
            have f1903 := (Fw.keep K1439 nin0)
            have f1904 := (Af.keep K1439 nin0)
            have f1905 := (Ag.keep K1439 nin0)
            have f1906 := (AP.keep K1439 nin0)
            have f1907 := (AW.keep K1439 nin0)
            obtain ⟨T1908, h1908, L1908, X1908, e1908, Nq1908, K1908, u1908_0, u1908_1, st1908⟩ := pc_rtk a1 fa f1 g1 P W kf kg kP kW (1 : Int32) (2 : Int32) M (0 : Int32) (0 : Int32) (0 : Int32) q0 x0 y0 v0 [(.int q0), (.int q1)] [(.long v0), (.long v1)] (([x0, x1] ++ ur).map Value.int) (([y0, y1] ++ vr).map Value.long) sU sU 0 X1439 hx hZ hw hby hml hown e1439 Nq1439 Z1441 (Nat.le_of_ble_eq_true rfl) (Nat.le_of_ble_eq_true rfl) (by decide) (by decide) g_P g_W f1899 f1900 f1901 f1902 f1903 f1904 f1905 f1906 f1907 (by decide) ⟨by decide, by decide⟩ rfl rfl (own_inb hM (k := 0) (by simp) hm) rfl rfl (Or.inl ⟨rfl, rfl⟩) q1443 q1743 q1744 (own_inb hM (k := 0) (by simp) hm) rfl (by simp) (by simp)
            have P1909 : Rg p e below (T1908.setTop (mkF m 24 #[sR a1, sR fa, sI 1, sR f1, sR g1, sI 1, sI 0, sI 1, .val (.long (y0 &&& v0)), .second] [])) B0 := fun t k => P1440 t (by
              exact st1908 _ k)
            have Z1910 : n0 ≤ h1908.size := Nat.le_trans Z1441 K1908.1
            have K1911 : Keep h0 h1908 [a1, P, W] := K1442.trans K1908 ((allS (Or.inl (List.mem_of_getElem? (i := 1) rfl)) (allS (Or.inl (List.mem_of_getElem? (i := 2) rfl)) all0)))
            have AP1908 : Arv Z h1908 P kP .int M (([x0, x1] ++ ur).map Value.int) (.int (0 : Int32)) := u1908_0
            have AW1908 : Arv Z h1908 W kW .long M (([(y0 &&& v0), y1] ++ vr).map Value.long) (.long (0 : Int64)) := u1908_1
            have f1912 := ((Fc.keep K1439 nin0).keep K1908 (ninS (Exa.ne E1 EP (by decide)) (ninS (Exa.ne E1 EW1 (by decide)) nin0)))
            have f1913 := (f1904.keep K1908 (ninS nfP (ninS (Exa.ne EEf EW1 (by decide)) nin0)))
            obtain ⟨T1914, h1914, L1914, X1914, e1914, Nq1914, K1914, st1914⟩ := pc_rth a1 fa f1 g1 kf (1 : Int32) (2 : Int32) (2 : Int32) (1 : Int32) (0 : Int32) (1 : Int32) [(.int q0), (.int q1)] (.val (.long (y0 &&& v0))) .second X1908 hx hZ hw hby hml hown e1908 Nq1908 Z1910 (Nat.le_of_ble_eq_true rfl) (Nat.le_of_ble_eq_true rfl) (by decide) (by decide) f1912 f1913 (by decide) (by decide)
            have P1915 : Rg p e below (T1914.setTop (mkF m 40 #[sR a1, sR fa, sI 1, sR f1, sR g1, sI 1, sI 0, sI 1, .val (.long (y0 &&& v0)), .second] [])) B0 := fun t k => P1909 t (by
              exact st1914 _ k)
            have Z1916 : n0 ≤ h1914.size := Nat.le_trans Z1910 K1914.1
            have K1917 : Keep h0 h1914 [a1, P, W] := K1911.trans K1914 (all0)
            have lq01 : q0 < x1 := by rw [hit0]; exact own_p2 hs
            have f1918 := ((f1899.keep K1908).keep K1914)
            have f1919 := ((f1900.keep K1908).keep K1914)
            have f1920 := ((f1901.keep K1908).keep K1914)
            have f1921 := ((f1902.keep K1908 (ninS (Exa.ne E1 EP (by decide)) (ninS (Exa.ne E1 EW1 (by decide)) nin0))).keep K1914 nin0)
            have f1922 := ((f1903.keep K1908 (ninS (Exa.ne E1 EP (by decide)) (ninS (Exa.ne E1 EW1 (by decide)) nin0))).keep K1914 nin0)
            have f1923 := (f1913.keep K1914 nin0)
            have f1924 := ((f1905.keep K1908 (ninS (Exa.ne EEg EP (by decide)) (ninS ngW nin0))).keep K1914 nin0)
            have f1925 := (AP1908.keep K1914 nin0)
            have f1926 := (AW1908.keep K1914 nin0)
            obtain ⟨T1927, h1927, L1927, X1927, e1927, Nq1927, K1927, st1927⟩ := pc_rtv a1 fa f1 g1 P W kf kg kP kW (1 : Int32) (2 : Int32) M (1 : Int32) (0 : Int32) (1 : Int32) q0 x1 y1 v0 [(.int q0), (.int q1)] [(.long v0), (.long v1)] (([x0, x1] ++ ur).map Value.int) (([(y0 &&& v0), y1] ++ vr).map Value.long) (.val (.long (y0 &&& v0))) .second X1914 hx hZ hw hby hml hown e1914 Nq1914 Z1916 (Nat.le_of_ble_eq_true rfl) (Nat.le_of_ble_eq_true rfl) (by decide) (by decide) g_P g_W f1918 f1919 f1920 f1921 f1922 f1923 f1924 f1925 f1926 (by decide) ⟨by decide, by decide⟩ rfl rfl (own_inb hM (k := 1) (by simp) hm) rfl rfl (Or.inr ⟨_, rfl, rfl⟩) lq01
            have P1928 : Rg p e below (T1927.setTop (mkF m 40 #[sR a1, sR fa, sI 1, sR f1, sR g1, sI 1, sI 1, sI 1, .val (.long (y0 &&& v0)), .second] [])) B0 := fun t k => P1915 t (by
              exact st1927 _ k)
            have Z1929 : n0 ≤ h1927.size := Nat.le_trans Z1916 K1927.1
            have K1930 : Keep h0 h1927 [a1, P, W] := K1917.trans K1927 (all0)
            by_cases q1931 : q1 < x1
            · skip
              have tq1931 := Int32.lt_iff_toInt_lt.mp q1931
              have f1932 := (f1918.keep K1927)
              have f1933 := (f1919.keep K1927)
              have f1934 := (f1920.keep K1927)
              have f1935 := (f1921.keep K1927 nin0)
              have f1936 := (f1922.keep K1927 nin0)
              have f1937 := (f1923.keep K1927 nin0)
              have f1938 := (f1924.keep K1927 nin0)
              have f1939 := (f1925.keep K1927 nin0)
              have f1940 := (f1926.keep K1927 nin0)
              obtain ⟨T1941, h1941, L1941, X1941, e1941, Nq1941, K1941, st1941⟩ := pc_rtv a1 fa f1 g1 P W kf kg kP kW (1 : Int32) (2 : Int32) M (1 : Int32) (1 : Int32) (1 : Int32) q1 x1 y1 v1 [(.int q0), (.int q1)] [(.long v0), (.long v1)] (([x0, x1] ++ ur).map Value.int) (([(y0 &&& v0), y1] ++ vr).map Value.long) (.val (.long (y0 &&& v0))) .second X1927 hx hZ hw hby hml hown e1927 Nq1927 Z1929 (Nat.le_of_ble_eq_true rfl) (Nat.le_of_ble_eq_true rfl) (by decide) (by decide) g_P g_W f1932 f1933 f1934 f1935 f1936 f1937 f1938 f1939 f1940 (by decide) ⟨by decide, by decide⟩ rfl rfl (own_inb hM (k := 1) (by simp) hm) rfl rfl (Or.inr ⟨_, rfl, rfl⟩) q1931
              have P1942 : Rg p e below (T1941.setTop (mkF m 40 #[sR a1, sR fa, sI 1, sR f1, sR g1, sI 1, sI 2, sI 1, .val (.long (y0 &&& v0)), .second] [])) B0 := fun t k => P1928 t (by
                exact st1941 _ k)
              have Z1943 : n0 ≤ h1941.size := Nat.le_trans Z1929 K1941.1
              have K1944 : Keep h0 h1941 [a1, P, W] := K1930.trans K1941 (all0)
              have f1945 := (f1937.keep K1941 nin0)
              obtain ⟨T1946, h1946, L1946, X1946, e1946, Nq1946, K1946, st1946⟩ := pc_rtd a1 fa f1 g1 kf (1 : Int32) (2 : Int32) (1 : Int32) (2 : Int32) (1 : Int32) [(.int q0), (.int q1)] (.val (.long (y0 &&& v0))) .second X1941 hx hZ hw hby hml hown e1941 Nq1941 Z1943 (Nat.le_of_ble_eq_true rfl) (Nat.le_of_ble_eq_true rfl) (by decide) (by decide) f1945 (by decide)
              have P1947 : Rg p e below (T1946.setTop (mkF m 24 #[sR a1, sR fa, sI 1, sR f1, sR g1, sI 1, sI 2, sI 2, .val (.long (y0 &&& v0)), .second] [])) B0 := fun t k => P1942 t (by
                exact st1946 _ k)
              have Z1948 : n0 ≤ h1946.size := Nat.le_trans Z1943 K1946.1
              have K1949 : Keep h0 h1946 [a1, P, W] := K1944.trans K1946 (all0)
              have f1950 := ((((f1912.keep K1914 nin0).keep K1927 nin0).keep K1941 nin0).keep K1946 nin0)
              obtain ⟨T1951, X1951, e1951, st1951⟩ := getF X1946 hx hZ hown (host := "") (Or.inl (own_hw hw 48 rfl)) Via.refl e1946 f1950 (g := (mkF m 27 #[sR a1, sR fa, sI 1, sR f1, sR g1, sI 1, sI 2, sI 2, .val (.long (y0 &&& v0)), .second] [(.ref a1), (.int (2 : Int32))])) rfl rfl (hb hby dp22_3_27)
              have P1952 : Rg p e below (T1951.setTop (mkF m 30 #[sR a1, sR fa, sI 1, sR f1, sR g1, sI 1, sI 2, sI 2, .val (.long (y0 &&& v0)), .second] [(.int (2 : Int32)), (.int (2 : Int32))])) B0 := fun t k => P1947 t (by
                refine XS.iload X1946.here hx rfl (hb hby dp22_3_24) rfl ?_
                refine XS.aloadN X1946.here hx rfl (hb hby dp22_3_26) rfl rfl ?_
                show Sg p e below (T1946.setTop (mkF m 27 #[sR a1, sR fa, sI 1, sR f1, sR g1, sI 1, sI 2, sI 2, .val (.long (y0 &&& v0)), .second] [(.ref a1), (.int (2 : Int32))])) _
                exact st1951 _ k)
              have lk0 : own_look [q0, q1] [v0, v1] x0 = v0 := by simp only [own_look]; rw [if_pos q1743]
              have r0 : ¬ y0 &&& own_look [q0, q1] [v0, v1] x0 = 0 := by rw [lk0]; exact q1744
              have lk1 : own_look [q0, q1] [v0, v1] x1 = 0 := by simp only [own_look]; rw [if_neg (fun e => by have e' := congrArg Int32.toInt e; omega), if_neg (fun e => by have e' := congrArg Int32.toInt e; omega)]
              have r1 : y1 &&& own_look [q0, q1] [v0, v1] x1 = 0 := by rw [lk1]; exact own_and0 _
              have f1953 := ((f1932.keep K1941).keep K1946)
              have f1954 := ((f1933.keep K1941).keep K1946)
              have f1955 := ((f1934.keep K1941).keep K1946)
              have f1956 := ((f1935.keep K1941 nin0).keep K1946 nin0)
              have f1957 := ((f1936.keep K1941 nin0).keep K1946 nin0)
              have f1958 := ((f1939.keep K1941 nin0).keep K1946 nin0)
              have f1959 := ((f1940.keep K1941 nin0).keep K1946 nin0)
              have P1960 : Rg p e below (T1951.setTop (mkF m 142 #[sR a1, sR fa, sI 1, sR f1, sR g1, sI 1, sI 2, sI 2, .val (.long (y0 &&& v0)), .second] [])) B0 := fun t k => P1952 t (by
                refine XS.icmpYes X1951.here hx rfl (pc0 := 30) (pc' := 142) rfl (hb hby dp22_3_30) rfl (flt (show ¬ ((2 : Int32) < (2 : Int32)) from (by decide))).2.1 (by decide) (by decide) ?_
                show Sg p e below (T1951.setTop (mkF m 142 #[sR a1, sR fa, sI 1, sR f1, sR g1, sI 1, sI 2, sI 2, .val (.long (y0 &&& v0)), .second] [])) _
                exact k)
              obtain ⟨T1961, h1961, L1961, X1961, e1961, Nq1961, K1961, u1961_0, u1961_1, u1961_2, u1961_3, u1961_4, st1961⟩ := pc_rtx a1 fa f1 g1 P W kP kW (1 : Int32) M (2 : Int32) (1 : Int32) (2 : Int32) (2 : Int32) (([x0, x1] ++ ur).map Value.int) (([(y0 &&& v0), y1] ++ vr).map Value.long) (.val (.long (y0 &&& v0))) .second X1951 hx hZ hw hby hml hown e1951 Nq1946 Z1948 (Nat.le_of_ble_eq_true rfl) (Nat.le_of_ble_eq_true rfl) (by decide) (by decide) g_a1 f1953 f1954 f1955 f1956 f1957 f1950 f1958 f1959
              have P1962 : Rg p e below (T1961.setTop (mkF m 148 #[sR a1, sR fa, sI 1, sR f1, sR g1, sI 1, sI 2, sI 2, .val (.long (y0 &&& v0)), .second] [])) B0 := fun t k => P1960 t (by
                exact st1961 _ k)
              have Z1963 : n0 ≤ h1961.size := Nat.le_trans Z1948 K1961.1
              have K1964 : Keep h0 h1961 [a1, P, W] := K1949.trans K1961 ((allS (Or.inl (List.mem_of_getElem? (i := 0) rfl)) all0))
              obtain ⟨fs1965, hr1965, hrun1965, hended1965, hW1965, hsame1965⟩ := X1961.leave (v := none) (fun _ => rfl)
              refine ⟨_, _, pre0 _ (P1962 _ ?_), hrun1965, hended1965, _, _, rfl, ?_, ⟨⟨_, rfl⟩, hW1965, hsame1965.mono (Nat.le_of_ble_eq_true rfl) (Nat.le_of_ble_eq_true rfl)⟩⟩
              · show Sg p e below (T1961.setTop (mkF m 148 #[sR a1, sR fa, sI 1, sR f1, sR g1, sI 1, sI 2, sI 2, .val (.long (y0 &&& v0)), .second] [])) _
                exact X1961.returnOut hx Bd.returns (hb hby dp22_3_148) hr1965
              · show Q_ret Z a1 P W kP kW M [x0, x1] ur [y0, y1] [q0, q1] [v0, v1] h0 n0 _ T1961.heap _
                rw [e1961]
                exact ⟨rfl, Nq1961, K1964, [x0], [x1] ++ ur, [(y0 &&& v0)], [y1] ++ vr, (1 : Int32), by rw [own_rp, if_neg r0, own_rp, if_pos r1]; rfl, by rw [own_rw, if_neg r0, lk0, own_rw, if_pos r1]; rfl, rfl, by simp, rfl, by simp [hv], u1961_0, u1961_1, u1961_2, u1961_3, u1961_4⟩
            · skip
              have tq1931 : ¬ q1.toInt < x1.toInt := fun y => q1931 (Int32.lt_iff_toInt_lt.mpr y)
              by_cases q1966 : q1 = x1
              · skip
                have hit1 := q1966
                have thit1 := congrArg Int32.toInt q1966
                by_cases q1967 : y1 &&& v1 = (0 : Int64)
                · skip
                  have f1968 := (f1918.keep K1927)
                  have f1969 := (f1919.keep K1927)
                  have f1970 := (f1920.keep K1927)
                  have f1971 := (f1921.keep K1927 nin0)
                  have f1972 := (f1922.keep K1927 nin0)
                  have f1973 := (f1923.keep K1927 nin0)
                  have f1974 := (f1924.keep K1927 nin0)
                  have f1975 := (f1925.keep K1927 nin0)
                  have f1976 := (f1926.keep K1927 nin0)
                  obtain ⟨T1977, h1977, L1977, X1977, e1977, Nq1977, K1977, st1977⟩ := pc_rtz a1 fa f1 g1 P W kf kg kP kW (1 : Int32) (2 : Int32) M (1 : Int32) (1 : Int32) (1 : Int32) q1 x1 y1 v1 [(.int q0), (.int q1)] [(.long v0), (.long v1)] (([x0, x1] ++ ur).map Value.int) (([(y0 &&& v0), y1] ++ vr).map Value.long) (.val (.long (y0 &&& v0))) .second X1927 hx hZ hw hby hml hown e1927 Nq1927 Z1929 (Nat.le_of_ble_eq_true rfl) (Nat.le_of_ble_eq_true rfl) (by decide) (by decide) g_P g_W f1968 f1969 f1970 f1971 f1972 f1973 f1974 f1975 f1976 (by decide) ⟨by decide, by decide⟩ rfl rfl (own_inb hM (k := 1) (by simp) hm) rfl rfl (Or.inr ⟨_, rfl, rfl⟩) q1931 q1966 q1967
                  have P1978 : Rg p e below (T1977.setTop (mkF m 24 #[sR a1, sR fa, sI 1, sR f1, sR g1, sI 1, sI 1, sI 2, .val (.long (y1 &&& v1)), .second] [])) B0 := fun t k => P1928 t (by
                    exact st1977 _ k)
                  have Z1979 : n0 ≤ h1977.size := Nat.le_trans Z1929 K1977.1
                  have K1980 : Keep h0 h1977 [a1, P, W] := K1930.trans K1977 (all0)
                  have f1981 := (((f1912.keep K1914 nin0).keep K1927 nin0).keep K1977 nin0)
                  obtain ⟨T1982, X1982, e1982, st1982⟩ := getF X1977 hx hZ hown (host := "") (Or.inl (own_hw hw 48 rfl)) Via.refl e1977 f1981 (g := (mkF m 27 #[sR a1, sR fa, sI 1, sR f1, sR g1, sI 1, sI 1, sI 2, .val (.long (y1 &&& v1)), .second] [(.ref a1), (.int (2 : Int32))])) rfl rfl (hb hby dp22_3_27)
                  have P1983 : Rg p e below (T1982.setTop (mkF m 30 #[sR a1, sR fa, sI 1, sR f1, sR g1, sI 1, sI 1, sI 2, .val (.long (y1 &&& v1)), .second] [(.int (2 : Int32)), (.int (2 : Int32))])) B0 := fun t k => P1978 t (by
                    refine XS.iload X1977.here hx rfl (hb hby dp22_3_24) rfl ?_
                    refine XS.aloadN X1977.here hx rfl (hb hby dp22_3_26) rfl rfl ?_
                    show Sg p e below (T1977.setTop (mkF m 27 #[sR a1, sR fa, sI 1, sR f1, sR g1, sI 1, sI 1, sI 2, .val (.long (y1 &&& v1)), .second] [(.ref a1), (.int (2 : Int32))])) _
                    exact st1982 _ k)
                  have lk0 : own_look [q0, q1] [v0, v1] x0 = v0 := by simp only [own_look]; rw [if_pos q1743]
                  have r0 : ¬ y0 &&& own_look [q0, q1] [v0, v1] x0 = 0 := by rw [lk0]; exact q1744
                  have lk1 : own_look [q0, q1] [v0, v1] x1 = v1 := by simp only [own_look]; rw [if_neg (fun e => by have e' := congrArg Int32.toInt e; omega), if_pos q1966]
                  have r1 : y1 &&& own_look [q0, q1] [v0, v1] x1 = 0 := by rw [lk1]; exact q1967
                  have f1984 := (f1968.keep K1977)
                  have f1985 := (f1969.keep K1977)
                  have f1986 := (f1970.keep K1977)
                  have f1987 := (f1971.keep K1977 nin0)
                  have f1988 := (f1972.keep K1977 nin0)
                  have f1989 := (f1975.keep K1977 nin0)
                  have f1990 := (f1976.keep K1977 nin0)
                  have P1991 : Rg p e below (T1982.setTop (mkF m 142 #[sR a1, sR fa, sI 1, sR f1, sR g1, sI 1, sI 1, sI 2, .val (.long (y1 &&& v1)), .second] [])) B0 := fun t k => P1983 t (by
                    refine XS.icmpYes X1982.here hx rfl (pc0 := 30) (pc' := 142) rfl (hb hby dp22_3_30) rfl (flt (show ¬ ((2 : Int32) < (2 : Int32)) from (by decide))).2.1 (by decide) (by decide) ?_
                    show Sg p e below (T1982.setTop (mkF m 142 #[sR a1, sR fa, sI 1, sR f1, sR g1, sI 1, sI 1, sI 2, .val (.long (y1 &&& v1)), .second] [])) _
                    exact k)
                  obtain ⟨T1992, h1992, L1992, X1992, e1992, Nq1992, K1992, u1992_0, u1992_1, u1992_2, u1992_3, u1992_4, st1992⟩ := pc_rtx a1 fa f1 g1 P W kP kW (1 : Int32) M (2 : Int32) (1 : Int32) (1 : Int32) (2 : Int32) (([x0, x1] ++ ur).map Value.int) (([(y0 &&& v0), y1] ++ vr).map Value.long) (.val (.long (y1 &&& v1))) .second X1982 hx hZ hw hby hml hown e1982 Nq1977 Z1979 (Nat.le_of_ble_eq_true rfl) (Nat.le_of_ble_eq_true rfl) (by decide) (by decide) g_a1 f1984 f1985 f1986 f1987 f1988 f1981 f1989 f1990
                  have P1993 : Rg p e below (T1992.setTop (mkF m 148 #[sR a1, sR fa, sI 1, sR f1, sR g1, sI 1, sI 1, sI 2, .val (.long (y1 &&& v1)), .second] [])) B0 := fun t k => P1991 t (by
                    exact st1992 _ k)
                  have Z1994 : n0 ≤ h1992.size := Nat.le_trans Z1979 K1992.1
                  have K1995 : Keep h0 h1992 [a1, P, W] := K1980.trans K1992 ((allS (Or.inl (List.mem_of_getElem? (i := 0) rfl)) all0))
                  obtain ⟨fs1996, hr1996, hrun1996, hended1996, hW1996, hsame1996⟩ := X1992.leave (v := none) (fun _ => rfl)
                  refine ⟨_, _, pre0 _ (P1993 _ ?_), hrun1996, hended1996, _, _, rfl, ?_, ⟨⟨_, rfl⟩, hW1996, hsame1996.mono (Nat.le_of_ble_eq_true rfl) (Nat.le_of_ble_eq_true rfl)⟩⟩
                  · show Sg p e below (T1992.setTop (mkF m 148 #[sR a1, sR fa, sI 1, sR f1, sR g1, sI 1, sI 1, sI 2, .val (.long (y1 &&& v1)), .second] [])) _
                    exact X1992.returnOut hx Bd.returns (hb hby dp22_3_148) hr1996
                  · show Q_ret Z a1 P W kP kW M [x0, x1] ur [y0, y1] [q0, q1] [v0, v1] h0 n0 _ T1992.heap _
                    rw [e1992]
                    exact ⟨rfl, Nq1992, K1995, [x0], [x1] ++ ur, [(y0 &&& v0)], [y1] ++ vr, (1 : Int32), by rw [own_rp, if_neg r0, own_rp, if_pos r1]; rfl, by rw [own_rw, if_neg r0, lk0, own_rw, if_pos r1]; rfl, rfl, by simp, rfl, by simp [hv], u1992_0, u1992_1, u1992_2, u1992_3, u1992_4⟩
                · skip
                  have f1997 := (f1918.keep K1927)
                  have f1998 := (f1919.keep K1927)
                  have f1999 := (f1920.keep K1927)
                  have f2000 := (f1921.keep K1927 nin0)
                  have f2001 := (f1922.keep K1927 nin0)
                  have f2002 := (f1923.keep K1927 nin0)
                  have f2003 := (f1924.keep K1927 nin0)
                  have f2004 := (f1925.keep K1927 nin0)
                  have f2005 := (f1926.keep K1927 nin0)
                  obtain ⟨T2006, h2006, L2006, X2006, e2006, Nq2006, K2006, u2006_0, u2006_1, st2006⟩ := pc_rtk a1 fa f1 g1 P W kf kg kP kW (1 : Int32) (2 : Int32) M (1 : Int32) (1 : Int32) (1 : Int32) q1 x1 y1 v1 [(.int q0), (.int q1)] [(.long v0), (.long v1)] (([x0, x1] ++ ur).map Value.int) (([(y0 &&& v0), y1] ++ vr).map Value.long) (.val (.long (y0 &&& v0))) .second 1 X1927 hx hZ hw hby hml hown e1927 Nq1927 Z1929 (Nat.le_of_ble_eq_true rfl) (Nat.le_of_ble_eq_true rfl) (by decide) (by decide) g_P g_W f1997 f1998 f1999 f2000 f2001 f2002 f2003 f2004 f2005 (by decide) ⟨by decide, by decide⟩ rfl rfl (own_inb hM (k := 1) (by simp) hm) rfl rfl (Or.inr ⟨_, rfl, rfl⟩) q1931 q1966 q1967 (own_inb hM (k := 1) (by simp) hm) rfl (by simp) (by simp)
                  have P2007 : Rg p e below (T2006.setTop (mkF m 24 #[sR a1, sR fa, sI 1, sR f1, sR g1, sI 2, sI 1, sI 2, .val (.long (y1 &&& v1)), .second] [])) B0 := fun t k => P1928 t (by
                    exact st2006 _ k)
                  have Z2008 : n0 ≤ h2006.size := Nat.le_trans Z1929 K2006.1
                  have K2009 : Keep h0 h2006 [a1, P, W] := K1930.trans K2006 ((allS (Or.inl (List.mem_of_getElem? (i := 1) rfl)) (allS (Or.inl (List.mem_of_getElem? (i := 2) rfl)) all0)))
                  have AP2006 : Arv Z h2006 P kP .int M (([x0, x1] ++ ur).map Value.int) (.int (0 : Int32)) := u2006_0
                  have AW2006 : Arv Z h2006 W kW .long M (([(y0 &&& v0), (y1 &&& v1)] ++ vr).map Value.long) (.long (0 : Int64)) := u2006_1
                  have f2010 := (((f1912.keep K1914 nin0).keep K1927 nin0).keep K2006 (ninS (Exa.ne E1 EP (by decide)) (ninS (Exa.ne E1 EW1 (by decide)) nin0)))
                  obtain ⟨T2011, X2011, e2011, st2011⟩ := getF X2006 hx hZ hown (host := "") (Or.inl (own_hw hw 48 rfl)) Via.refl e2006 f2010 (g := (mkF m 27 #[sR a1, sR fa, sI 1, sR f1, sR g1, sI 2, sI 1, sI 2, .val (.long (y1 &&& v1)), .second] [(.ref a1), (.int (2 : Int32))])) rfl rfl (hb hby dp22_3_27)
                  have P2012 : Rg p e below (T2011.setTop (mkF m 30 #[sR a1, sR fa, sI 1, sR f1, sR g1, sI 2, sI 1, sI 2, .val (.long (y1 &&& v1)), .second] [(.int (2 : Int32)), (.int (2 : Int32))])) B0 := fun t k => P2007 t (by
                    refine XS.iload X2006.here hx rfl (hb hby dp22_3_24) rfl ?_
                    refine XS.aloadN X2006.here hx rfl (hb hby dp22_3_26) rfl rfl ?_
                    show Sg p e below (T2006.setTop (mkF m 27 #[sR a1, sR fa, sI 1, sR f1, sR g1, sI 2, sI 1, sI 2, .val (.long (y1 &&& v1)), .second] [(.ref a1), (.int (2 : Int32))])) _
                    exact st2011 _ k)
                  have lk0 : own_look [q0, q1] [v0, v1] x0 = v0 := by simp only [own_look]; rw [if_pos q1743]
                  have r0 : ¬ y0 &&& own_look [q0, q1] [v0, v1] x0 = 0 := by rw [lk0]; exact q1744
                  have lk1 : own_look [q0, q1] [v0, v1] x1 = v1 := by simp only [own_look]; rw [if_neg (fun e => by have e' := congrArg Int32.toInt e; omega), if_pos q1966]
                  have r1 : ¬ y1 &&& own_look [q0, q1] [v0, v1] x1 = 0 := by rw [lk1]; exact q1967
                  have f2013 := (f1997.keep K2006)
                  have f2014 := (f1998.keep K2006)
                  have f2015 := (f1999.keep K2006)
                  have f2016 := (f2000.keep K2006 (ninS (Exa.ne E1 EP (by decide)) (ninS (Exa.ne E1 EW1 (by decide)) nin0)))
                  have f2017 := (f2001.keep K2006 (ninS (Exa.ne E1 EP (by decide)) (ninS (Exa.ne E1 EW1 (by decide)) nin0)))
                  have P2018 : Rg p e below (T2011.setTop (mkF m 142 #[sR a1, sR fa, sI 1, sR f1, sR g1, sI 2, sI 1, sI 2, .val (.long (y1 &&& v1)), .second] [])) B0 := fun t k => P2012 t (by
                    refine XS.icmpYes X2011.here hx rfl (pc0 := 30) (pc' := 142) rfl (hb hby dp22_3_30) rfl (flt (show ¬ ((2 : Int32) < (2 : Int32)) from (by decide))).2.1 (by decide) (by decide) ?_
                    show Sg p e below (T2011.setTop (mkF m 142 #[sR a1, sR fa, sI 1, sR f1, sR g1, sI 2, sI 1, sI 2, .val (.long (y1 &&& v1)), .second] [])) _
                    exact k)
                  obtain ⟨T2019, h2019, L2019, X2019, e2019, Nq2019, K2019, u2019_0, u2019_1, u2019_2, u2019_3, u2019_4, st2019⟩ := pc_rtx a1 fa f1 g1 P W kP kW (1 : Int32) M (2 : Int32) (2 : Int32) (1 : Int32) (2 : Int32) (([x0, x1] ++ ur).map Value.int) (([(y0 &&& v0), (y1 &&& v1)] ++ vr).map Value.long) (.val (.long (y1 &&& v1))) .second X2011 hx hZ hw hby hml hown e2011 Nq2006 Z2008 (Nat.le_of_ble_eq_true rfl) (Nat.le_of_ble_eq_true rfl) (by decide) (by decide) g_a1 f2013 f2014 f2015 f2016 f2017 f2010 AP2006 AW2006
                  have P2020 : Rg p e below (T2019.setTop (mkF m 148 #[sR a1, sR fa, sI 1, sR f1, sR g1, sI 2, sI 1, sI 2, .val (.long (y1 &&& v1)), .second] [])) B0 := fun t k => P2018 t (by
                    exact st2019 _ k)
                  have Z2021 : n0 ≤ h2019.size := Nat.le_trans Z2008 K2019.1
                  have K2022 : Keep h0 h2019 [a1, P, W] := K2009.trans K2019 ((allS (Or.inl (List.mem_of_getElem? (i := 0) rfl)) all0))
                  obtain ⟨fs2023, hr2023, hrun2023, hended2023, hW2023, hsame2023⟩ := X2019.leave (v := none) (fun _ => rfl)
                  refine ⟨_, _, pre0 _ (P2020 _ ?_), hrun2023, hended2023, _, _, rfl, ?_, ⟨⟨_, rfl⟩, hW2023, hsame2023.mono (Nat.le_of_ble_eq_true rfl) (Nat.le_of_ble_eq_true rfl)⟩⟩
                  · show Sg p e below (T2019.setTop (mkF m 148 #[sR a1, sR fa, sI 1, sR f1, sR g1, sI 2, sI 1, sI 2, .val (.long (y1 &&& v1)), .second] [])) _
                    exact X2019.returnOut hx Bd.returns (hb hby dp22_3_148) hr2023
                  · show Q_ret Z a1 P W kP kW M [x0, x1] ur [y0, y1] [q0, q1] [v0, v1] h0 n0 _ T2019.heap _
                    rw [e2019]
                    exact ⟨rfl, Nq2019, K2022, [x0, x1], [] ++ ur, [(y0 &&& v0), (y1 &&& v1)], [] ++ vr, (2 : Int32), by rw [own_rp, if_neg r0, own_rp, if_neg r1]; rfl, by rw [own_rw, if_neg r0, lk0, own_rw, if_neg r1, lk1]; rfl, rfl, by simp, rfl, by simp [hv], u2019_0, u2019_1, u2019_2, u2019_3, u2019_4⟩
              · skip
                have tq1966 : ¬ q1.toInt = x1.toInt := fun y => q1966 (Int32.toInt_inj.mp y)
                have f2024 := (f1918.keep K1927)
                have f2025 := (f1919.keep K1927)
                have f2026 := (f1920.keep K1927)
                have f2027 := (f1921.keep K1927 nin0)
                have f2028 := (f1922.keep K1927 nin0)
                have f2029 := (f1923.keep K1927 nin0)
                have f2030 := (f1924.keep K1927 nin0)
                have f2031 := (f1925.keep K1927 nin0)
                have f2032 := (f1926.keep K1927 nin0)
                obtain ⟨T2033, h2033, L2033, X2033, e2033, Nq2033, K2033, st2033⟩ := pc_rtn a1 fa f1 g1 P W kf kg kP kW (1 : Int32) (2 : Int32) M (1 : Int32) (1 : Int32) (1 : Int32) q1 x1 y1 v1 [(.int q0), (.int q1)] [(.long v0), (.long v1)] (([x0, x1] ++ ur).map Value.int) (([(y0 &&& v0), y1] ++ vr).map Value.long) (.val (.long (y0 &&& v0))) .second X1927 hx hZ hw hby hml hown e1927 Nq1927 Z1929 (Nat.le_of_ble_eq_true rfl) (Nat.le_of_ble_eq_true rfl) (by decide) (by decide) g_P g_W f2024 f2025 f2026 f2027 f2028 f2029 f2030 f2031 f2032 (by decide) ⟨by decide, by decide⟩ rfl rfl (own_inb hM (k := 1) (by simp) hm) rfl rfl (Or.inr ⟨_, rfl, rfl⟩) q1931 q1966
                have P2034 : Rg p e below (T2033.setTop (mkF m 24 #[sR a1, sR fa, sI 1, sR f1, sR g1, sI 1, sI 1, sI 2, .val (.long (y0 &&& v0)), .second] [])) B0 := fun t k => P1928 t (by
                  exact st2033 _ k)
                have Z2035 : n0 ≤ h2033.size := Nat.le_trans Z1929 K2033.1
                have K2036 : Keep h0 h2033 [a1, P, W] := K1930.trans K2033 (all0)
                have f2037 := (((f1912.keep K1914 nin0).keep K1927 nin0).keep K2033 nin0)
                obtain ⟨T2038, X2038, e2038, st2038⟩ := getF X2033 hx hZ hown (host := "") (Or.inl (own_hw hw 48 rfl)) Via.refl e2033 f2037 (g := (mkF m 27 #[sR a1, sR fa, sI 1, sR f1, sR g1, sI 1, sI 1, sI 2, .val (.long (y0 &&& v0)), .second] [(.ref a1), (.int (2 : Int32))])) rfl rfl (hb hby dp22_3_27)
                have P2039 : Rg p e below (T2038.setTop (mkF m 30 #[sR a1, sR fa, sI 1, sR f1, sR g1, sI 1, sI 1, sI 2, .val (.long (y0 &&& v0)), .second] [(.int (2 : Int32)), (.int (2 : Int32))])) B0 := fun t k => P2034 t (by
                  refine XS.iload X2033.here hx rfl (hb hby dp22_3_24) rfl ?_
                  refine XS.aloadN X2033.here hx rfl (hb hby dp22_3_26) rfl rfl ?_
                  show Sg p e below (T2033.setTop (mkF m 27 #[sR a1, sR fa, sI 1, sR f1, sR g1, sI 1, sI 1, sI 2, .val (.long (y0 &&& v0)), .second] [(.ref a1), (.int (2 : Int32))])) _
                  exact st2038 _ k)
                have lk0 : own_look [q0, q1] [v0, v1] x0 = v0 := by simp only [own_look]; rw [if_pos q1743]
                have r0 : ¬ y0 &&& own_look [q0, q1] [v0, v1] x0 = 0 := by rw [lk0]; exact q1744
                have lk1 : own_look [q0, q1] [v0, v1] x1 = 0 := by simp only [own_look]; rw [if_neg (fun e => by have e' := congrArg Int32.toInt e; omega), if_neg (fun e => by have e' := congrArg Int32.toInt e; omega)]
                have r1 : y1 &&& own_look [q0, q1] [v0, v1] x1 = 0 := by rw [lk1]; exact own_and0 _
                have f2040 := (f2024.keep K2033)
                have f2041 := (f2025.keep K2033)
                have f2042 := (f2026.keep K2033)
                have f2043 := (f2027.keep K2033 nin0)
                have f2044 := (f2028.keep K2033 nin0)
                have f2045 := (f2031.keep K2033 nin0)
                have f2046 := (f2032.keep K2033 nin0)
                have P2047 : Rg p e below (T2038.setTop (mkF m 142 #[sR a1, sR fa, sI 1, sR f1, sR g1, sI 1, sI 1, sI 2, .val (.long (y0 &&& v0)), .second] [])) B0 := fun t k => P2039 t (by
                  refine XS.icmpYes X2038.here hx rfl (pc0 := 30) (pc' := 142) rfl (hb hby dp22_3_30) rfl (flt (show ¬ ((2 : Int32) < (2 : Int32)) from (by decide))).2.1 (by decide) (by decide) ?_
                  show Sg p e below (T2038.setTop (mkF m 142 #[sR a1, sR fa, sI 1, sR f1, sR g1, sI 1, sI 1, sI 2, .val (.long (y0 &&& v0)), .second] [])) _
                  exact k)
                obtain ⟨T2048, h2048, L2048, X2048, e2048, Nq2048, K2048, u2048_0, u2048_1, u2048_2, u2048_3, u2048_4, st2048⟩ := pc_rtx a1 fa f1 g1 P W kP kW (1 : Int32) M (2 : Int32) (1 : Int32) (1 : Int32) (2 : Int32) (([x0, x1] ++ ur).map Value.int) (([(y0 &&& v0), y1] ++ vr).map Value.long) (.val (.long (y0 &&& v0))) .second X2038 hx hZ hw hby hml hown e2038 Nq2033 Z2035 (Nat.le_of_ble_eq_true rfl) (Nat.le_of_ble_eq_true rfl) (by decide) (by decide) g_a1 f2040 f2041 f2042 f2043 f2044 f2037 f2045 f2046
                have P2049 : Rg p e below (T2048.setTop (mkF m 148 #[sR a1, sR fa, sI 1, sR f1, sR g1, sI 1, sI 1, sI 2, .val (.long (y0 &&& v0)), .second] [])) B0 := fun t k => P2047 t (by
                  exact st2048 _ k)
                have Z2050 : n0 ≤ h2048.size := Nat.le_trans Z2035 K2048.1
                have K2051 : Keep h0 h2048 [a1, P, W] := K2036.trans K2048 ((allS (Or.inl (List.mem_of_getElem? (i := 0) rfl)) all0))
                obtain ⟨fs2052, hr2052, hrun2052, hended2052, hW2052, hsame2052⟩ := X2048.leave (v := none) (fun _ => rfl)
                refine ⟨_, _, pre0 _ (P2049 _ ?_), hrun2052, hended2052, _, _, rfl, ?_, ⟨⟨_, rfl⟩, hW2052, hsame2052.mono (Nat.le_of_ble_eq_true rfl) (Nat.le_of_ble_eq_true rfl)⟩⟩
                · show Sg p e below (T2048.setTop (mkF m 148 #[sR a1, sR fa, sI 1, sR f1, sR g1, sI 1, sI 1, sI 2, .val (.long (y0 &&& v0)), .second] [])) _
                  exact X2048.returnOut hx Bd.returns (hb hby dp22_3_148) hr2052
                · show Q_ret Z a1 P W kP kW M [x0, x1] ur [y0, y1] [q0, q1] [v0, v1] h0 n0 _ T2048.heap _
                  rw [e2048]
                  exact ⟨rfl, Nq2048, K2051, [x0], [x1] ++ ur, [(y0 &&& v0)], [y1] ++ vr, (1 : Int32), by rw [own_rp, if_neg r0, own_rp, if_pos r1]; rfl, by rw [own_rw, if_neg r0, lk0, own_rw, if_pos r1]; rfl, rfl, by simp, rfl, by simp [hv], u2048_0, u2048_1, u2048_2, u2048_3, u2048_4⟩
        · skip
          have tq1743 : ¬ q0.toInt = x0.toInt := fun y => q1743 (Int32.toInt_inj.mp y)
          have f2053 := (E1.keep K1439)
          have f2054 := (EP.keep K1439)
          have f2055 := (EW1.keep K1439)
          have f2056 := (Fp.keep K1439 nin0)
          have f2057 := (Fw.keep K1439 nin0)
          have f2058 := (Af.keep K1439 nin0)
          have f2059 := (Ag.keep K1439 nin0)
          have f2060 := (AP.keep K1439 nin0)
          have f2061 := (AW.keep K1439 nin0)
          obtain ⟨T2062, h2062, L2062, X2062, e2062, Nq2062, K2062, st2062⟩ := pc_rtn a1 fa f1 g1 P W kf kg kP kW (1 : Int32) (2 : Int32) M (0 : Int32) (0 : Int32) (0 : Int32) q0 x0 y0 v0 [(.int q0), (.int q1)] [(.long v0), (.long v1)] (([x0, x1] ++ ur).map Value.int) (([y0, y1] ++ vr).map Value.long) sU sU X1439 hx hZ hw hby hml hown e1439 Nq1439 Z1441 (Nat.le_of_ble_eq_true rfl) (Nat.le_of_ble_eq_true rfl) (by decide) (by decide) g_P g_W f2053 f2054 f2055 f2056 f2057 f2058 f2059 f2060 f2061 (by decide) ⟨by decide, by decide⟩ rfl rfl (own_inb hM (k := 0) (by simp) hm) rfl rfl (Or.inl ⟨rfl, rfl⟩) q1443 q1743
          have P2063 : Rg p e below (T2062.setTop (mkF m 24 #[sR a1, sR fa, sI 1, sR f1, sR g1, sI 0, sI 0, sI 1, sU, sU] [])) B0 := fun t k => P1440 t (by
            exact st2062 _ k)
          have Z2064 : n0 ≤ h2062.size := Nat.le_trans Z1441 K2062.1
          have K2065 : Keep h0 h2062 [a1, P, W] := K1442.trans K2062 (all0)
          have f2066 := ((Fc.keep K1439 nin0).keep K2062 nin0)
          have f2067 := (f2058.keep K2062 nin0)
          obtain ⟨T2068, h2068, L2068, X2068, e2068, Nq2068, K2068, st2068⟩ := pc_rth a1 fa f1 g1 kf (1 : Int32) (2 : Int32) (2 : Int32) (0 : Int32) (0 : Int32) (1 : Int32) [(.int q0), (.int q1)] sU sU X2062 hx hZ hw hby hml hown e2062 Nq2062 Z2064 (Nat.le_of_ble_eq_true rfl) (Nat.le_of_ble_eq_true rfl) (by decide) (by decide) f2066 f2067 (by decide) (by decide)
          have P2069 : Rg p e below (T2068.setTop (mkF m 40 #[sR a1, sR fa, sI 1, sR f1, sR g1, sI 0, sI 0, sI 1, sU, sU] [])) B0 := fun t k => P2063 t (by
            exact st2068 _ k)
          have Z2070 : n0 ≤ h2068.size := Nat.le_trans Z2064 K2068.1
          have K2071 : Keep h0 h2068 [a1, P, W] := K2065.trans K2068 (all0)
          by_cases q2072 : q0 < x1
          · skip
            have tq2072 := Int32.lt_iff_toInt_lt.mp q2072
            have f2073 := ((f2053.keep K2062).keep K2068)
            have f2074 := ((f2054.keep K2062).keep K2068)
            have f2075 := ((f2055.keep K2062).keep K2068)
            have f2076 := ((f2056.keep K2062 nin0).keep K2068 nin0)
            have f2077 := ((f2057.keep K2062 nin0).keep K2068 nin0)
            have f2078 := (f2067.keep K2068 nin0)
            have f2079 := ((f2059.keep K2062 nin0).keep K2068 nin0)
            have f2080 := ((f2060.keep K2062 nin0).keep K2068 nin0)
            have f2081 := ((f2061.keep K2062 nin0).keep K2068 nin0)
            obtain ⟨T2082, h2082, L2082, X2082, e2082, Nq2082, K2082, st2082⟩ := pc_rtv a1 fa f1 g1 P W kf kg kP kW (1 : Int32) (2 : Int32) M (0 : Int32) (0 : Int32) (1 : Int32) q0 x1 y1 v0 [(.int q0), (.int q1)] [(.long v0), (.long v1)] (([x0, x1] ++ ur).map Value.int) (([y0, y1] ++ vr).map Value.long) sU sU X2068 hx hZ hw hby hml hown e2068 Nq2068 Z2070 (Nat.le_of_ble_eq_true rfl) (Nat.le_of_ble_eq_true rfl) (by decide) (by decide) g_P g_W f2073 f2074 f2075 f2076 f2077 f2078 f2079 f2080 f2081 (by decide) ⟨by decide, by decide⟩ rfl rfl (own_inb hM (k := 1) (by simp) hm) rfl rfl (Or.inl ⟨rfl, rfl⟩) q2072
            have P2083 : Rg p e below (T2082.setTop (mkF m 40 #[sR a1, sR fa, sI 1, sR f1, sR g1, sI 0, sI 1, sI 1, sU, sU] [])) B0 := fun t k => P2069 t (by
              exact st2082 _ k)
            have Z2084 : n0 ≤ h2082.size := Nat.le_trans Z2070 K2082.1
            have K2085 : Keep h0 h2082 [a1, P, W] := K2071.trans K2082 (all0)
            by_cases q2086 : q1 < x1
            · skip
              have tq2086 := Int32.lt_iff_toInt_lt.mp q2086
              have f2087 := (f2073.keep K2082)
              have f2088 := (f2074.keep K2082)
              have f2089 := (f2075.keep K2082)
              have f2090 := (f2076.keep K2082 nin0)
              have f2091 := (f2077.keep K2082 nin0)
              have f2092 := (f2078.keep K2082 nin0)
              have f2093 := (f2079.keep K2082 nin0)
              have f2094 := (f2080.keep K2082 nin0)
              have f2095 := (f2081.keep K2082 nin0)
              obtain ⟨T2096, h2096, L2096, X2096, e2096, Nq2096, K2096, st2096⟩ := pc_rtv a1 fa f1 g1 P W kf kg kP kW (1 : Int32) (2 : Int32) M (0 : Int32) (1 : Int32) (1 : Int32) q1 x1 y1 v1 [(.int q0), (.int q1)] [(.long v0), (.long v1)] (([x0, x1] ++ ur).map Value.int) (([y0, y1] ++ vr).map Value.long) sU sU X2082 hx hZ hw hby hml hown e2082 Nq2082 Z2084 (Nat.le_of_ble_eq_true rfl) (Nat.le_of_ble_eq_true rfl) (by decide) (by decide) g_P g_W f2087 f2088 f2089 f2090 f2091 f2092 f2093 f2094 f2095 (by decide) ⟨by decide, by decide⟩ rfl rfl (own_inb hM (k := 1) (by simp) hm) rfl rfl (Or.inl ⟨rfl, rfl⟩) q2086
              have P2097 : Rg p e below (T2096.setTop (mkF m 40 #[sR a1, sR fa, sI 1, sR f1, sR g1, sI 0, sI 2, sI 1, sU, sU] [])) B0 := fun t k => P2083 t (by
                exact st2096 _ k)
              have Z2098 : n0 ≤ h2096.size := Nat.le_trans Z2084 K2096.1
              have K2099 : Keep h0 h2096 [a1, P, W] := K2085.trans K2096 (all0)
              have f2100 := (f2092.keep K2096 nin0)
              obtain ⟨T2101, h2101, L2101, X2101, e2101, Nq2101, K2101, st2101⟩ := pc_rtd a1 fa f1 g1 kf (1 : Int32) (2 : Int32) (0 : Int32) (2 : Int32) (1 : Int32) [(.int q0), (.int q1)] sU sU X2096 hx hZ hw hby hml hown e2096 Nq2096 Z2098 (Nat.le_of_ble_eq_true rfl) (Nat.le_of_ble_eq_true rfl) (by decide) (by decide) f2100 (by decide)
              have P2102 : Rg p e below (T2101.setTop (mkF m 24 #[sR a1, sR fa, sI 1, sR f1, sR g1, sI 0, sI 2, sI 2, sU, sU] [])) B0 := fun t k => P2097 t (by
                exact st2101 _ k)
              have Z2103 : n0 ≤ h2101.size := Nat.le_trans Z2098 K2101.1
              have K2104 : Keep h0 h2101 [a1, P, W] := K2099.trans K2101 (all0)
              have f2105 := ((((f2066.keep K2068 nin0).keep K2082 nin0).keep K2096 nin0).keep K2101 nin0)
              obtain ⟨T2106, X2106, e2106, st2106⟩ := getF X2101 hx hZ hown (host := "") (Or.inl (own_hw hw 48 rfl)) Via.refl e2101 f2105 (g := (mkF m 27 #[sR a1, sR fa, sI 1, sR f1, sR g1, sI 0, sI 2, sI 2, sU, sU] [(.ref a1), (.int (2 : Int32))])) rfl rfl (hb hby dp22_3_27)
              have P2107 : Rg p e below (T2106.setTop (mkF m 30 #[sR a1, sR fa, sI 1, sR f1, sR g1, sI 0, sI 2, sI 2, sU, sU] [(.int (2 : Int32)), (.int (2 : Int32))])) B0 := fun t k => P2102 t (by
                refine XS.iload X2101.here hx rfl (hb hby dp22_3_24) rfl ?_
                refine XS.aloadN X2101.here hx rfl (hb hby dp22_3_26) rfl rfl ?_
                show Sg p e below (T2101.setTop (mkF m 27 #[sR a1, sR fa, sI 1, sR f1, sR g1, sI 0, sI 2, sI 2, sU, sU] [(.ref a1), (.int (2 : Int32))])) _
                exact st2106 _ k)
              have lk0 : own_look [q0, q1] [v0, v1] x0 = 0 := by simp only [own_look]; rw [if_neg (fun e => by have e' := congrArg Int32.toInt e; omega), if_neg (fun e => by have e' := congrArg Int32.toInt e; omega)]
              have r0 : y0 &&& own_look [q0, q1] [v0, v1] x0 = 0 := by rw [lk0]; exact own_and0 _
              have lk1 : own_look [q0, q1] [v0, v1] x1 = 0 := by simp only [own_look]; rw [if_neg (fun e => by have e' := congrArg Int32.toInt e; omega), if_neg (fun e => by have e' := congrArg Int32.toInt e; omega)]
              have r1 : y1 &&& own_look [q0, q1] [v0, v1] x1 = 0 := by rw [lk1]; exact own_and0 _
              have f2108 := ((f2087.keep K2096).keep K2101)
              have f2109 := ((f2088.keep K2096).keep K2101)
              have f2110 := ((f2089.keep K2096).keep K2101)
              have f2111 := ((f2090.keep K2096 nin0).keep K2101 nin0)
              have f2112 := ((f2091.keep K2096 nin0).keep K2101 nin0)
              have f2113 := ((f2094.keep K2096 nin0).keep K2101 nin0)
              have f2114 := ((f2095.keep K2096 nin0).keep K2101 nin0)
              have P2115 : Rg p e below (T2106.setTop (mkF m 142 #[sR a1, sR fa, sI 1, sR f1, sR g1, sI 0, sI 2, sI 2, sU, sU] [])) B0 := fun t k => P2107 t (by
                refine XS.icmpYes X2106.here hx rfl (pc0 := 30) (pc' := 142) rfl (hb hby dp22_3_30) rfl (flt (show ¬ ((2 : Int32) < (2 : Int32)) from (by decide))).2.1 (by decide) (by decide) ?_
                show Sg p e below (T2106.setTop (mkF m 142 #[sR a1, sR fa, sI 1, sR f1, sR g1, sI 0, sI 2, sI 2, sU, sU] [])) _
                exact k)
              obtain ⟨T2116, h2116, L2116, X2116, e2116, Nq2116, K2116, u2116_0, u2116_1, u2116_2, u2116_3, u2116_4, st2116⟩ := pc_rtx a1 fa f1 g1 P W kP kW (1 : Int32) M (2 : Int32) (0 : Int32) (2 : Int32) (2 : Int32) (([x0, x1] ++ ur).map Value.int) (([y0, y1] ++ vr).map Value.long) sU sU X2106 hx hZ hw hby hml hown e2106 Nq2101 Z2103 (Nat.le_of_ble_eq_true rfl) (Nat.le_of_ble_eq_true rfl) (by decide) (by decide) g_a1 f2108 f2109 f2110 f2111 f2112 f2105 f2113 f2114
              have P2117 : Rg p e below (T2116.setTop (mkF m 148 #[sR a1, sR fa, sI 1, sR f1, sR g1, sI 0, sI 2, sI 2, sU, sU] [])) B0 := fun t k => P2115 t (by
                exact st2116 _ k)
              have Z2118 : n0 ≤ h2116.size := Nat.le_trans Z2103 K2116.1
              have K2119 : Keep h0 h2116 [a1, P, W] := K2104.trans K2116 ((allS (Or.inl (List.mem_of_getElem? (i := 0) rfl)) all0))
              obtain ⟨fs2120, hr2120, hrun2120, hended2120, hW2120, hsame2120⟩ := X2116.leave (v := none) (fun _ => rfl)
              refine ⟨_, _, pre0 _ (P2117 _ ?_), hrun2120, hended2120, _, _, rfl, ?_, ⟨⟨_, rfl⟩, hW2120, hsame2120.mono (Nat.le_of_ble_eq_true rfl) (Nat.le_of_ble_eq_true rfl)⟩⟩
              · show Sg p e below (T2116.setTop (mkF m 148 #[sR a1, sR fa, sI 1, sR f1, sR g1, sI 0, sI 2, sI 2, sU, sU] [])) _
                exact X2116.returnOut hx Bd.returns (hb hby dp22_3_148) hr2120
              · show Q_ret Z a1 P W kP kW M [x0, x1] ur [y0, y1] [q0, q1] [v0, v1] h0 n0 _ T2116.heap _
                rw [e2116]
                exact ⟨rfl, Nq2116, K2119, [], [x0, x1] ++ ur, [], [y0, y1] ++ vr, (0 : Int32), by rw [own_rp, if_pos r0, own_rp, if_pos r1]; rfl, by rw [own_rw, if_pos r0, own_rw, if_pos r1]; rfl, rfl, by simp, rfl, by simp [hv], u2116_0, u2116_1, u2116_2, u2116_3, u2116_4⟩
            · skip
              have tq2086 : ¬ q1.toInt < x1.toInt := fun y => q2086 (Int32.lt_iff_toInt_lt.mpr y)
              by_cases q2121 : q1 = x1
              · skip
                have hit1 := q2121
                have thit1 := congrArg Int32.toInt q2121
                by_cases q2122 : y1 &&& v1 = (0 : Int64)
                · skip
                  have f2123 := (f2073.keep K2082)
                  have f2124 := (f2074.keep K2082)
                  have f2125 := (f2075.keep K2082)
                  have f2126 := (f2076.keep K2082 nin0)
                  have f2127 := (f2077.keep K2082 nin0)
                  have f2128 := (f2078.keep K2082 nin0)
                  have f2129 := (f2079.keep K2082 nin0)
                  have f2130 := (f2080.keep K2082 nin0)
                  have f2131 := (f2081.keep K2082 nin0)
                  obtain ⟨T2132, h2132, L2132, X2132, e2132, Nq2132, K2132, st2132⟩ := pc_rtz a1 fa f1 g1 P W kf kg kP kW (1 : Int32) (2 : Int32) M (0 : Int32) (1 : Int32) (1 : Int32) q1 x1 y1 v1 [(.int q0), (.int q1)] [(.long v0), (.long v1)] (([x0, x1] ++ ur).map Value.int) (([y0, y1] ++ vr).map Value.long) sU sU X2082 hx hZ hw hby hml hown e2082 Nq2082 Z2084 (Nat.le_of_ble_eq_true rfl) (Nat.le_of_ble_eq_true rfl) (by decide) (by decide) g_P g_W f2123 f2124 f2125 f2126 f2127 f2128 f2129 f2130 f2131 (by decide) ⟨by decide, by decide⟩ rfl rfl (own_inb hM (k := 1) (by simp) hm) rfl rfl (Or.inl ⟨rfl, rfl⟩) q2086 q2121 q2122
                  have P2133 : Rg p e below (T2132.setTop (mkF m 24 #[sR a1, sR fa, sI 1, sR f1, sR g1, sI 0, sI 1, sI 2, .val (.long (y1 &&& v1)), .second] [])) B0 := fun t k => P2083 t (by
                    exact st2132 _ k)
                  have Z2134 : n0 ≤ h2132.size := Nat.le_trans Z2084 K2132.1
                  have K2135 : Keep h0 h2132 [a1, P, W] := K2085.trans K2132 (all0)
                  have f2136 := (((f2066.keep K2068 nin0).keep K2082 nin0).keep K2132 nin0)
                  obtain ⟨T2137, X2137, e2137, st2137⟩ := getF X2132 hx hZ hown (host := "") (Or.inl (own_hw hw 48 rfl)) Via.refl e2132 f2136 (g := (mkF m 27 #[sR a1, sR fa, sI 1, sR f1, sR g1, sI 0, sI 1, sI 2, .val (.long (y1 &&& v1)), .second] [(.ref a1), (.int (2 : Int32))])) rfl rfl (hb hby dp22_3_27)
                  have P2138 : Rg p e below (T2137.setTop (mkF m 30 #[sR a1, sR fa, sI 1, sR f1, sR g1, sI 0, sI 1, sI 2, .val (.long (y1 &&& v1)), .second] [(.int (2 : Int32)), (.int (2 : Int32))])) B0 := fun t k => P2133 t (by
                    refine XS.iload X2132.here hx rfl (hb hby dp22_3_24) rfl ?_
                    refine XS.aloadN X2132.here hx rfl (hb hby dp22_3_26) rfl rfl ?_
                    show Sg p e below (T2132.setTop (mkF m 27 #[sR a1, sR fa, sI 1, sR f1, sR g1, sI 0, sI 1, sI 2, .val (.long (y1 &&& v1)), .second] [(.ref a1), (.int (2 : Int32))])) _
                    exact st2137 _ k)
                  have lk0 : own_look [q0, q1] [v0, v1] x0 = 0 := by simp only [own_look]; rw [if_neg (fun e => by have e' := congrArg Int32.toInt e; omega), if_neg (fun e => by have e' := congrArg Int32.toInt e; omega)]
                  have r0 : y0 &&& own_look [q0, q1] [v0, v1] x0 = 0 := by rw [lk0]; exact own_and0 _
                  have lk1 : own_look [q0, q1] [v0, v1] x1 = v1 := by simp only [own_look]; rw [if_neg (fun e => by have e' := congrArg Int32.toInt e; omega), if_pos q2121]
                  have r1 : y1 &&& own_look [q0, q1] [v0, v1] x1 = 0 := by rw [lk1]; exact q2122
                  have f2139 := (f2123.keep K2132)
                  have f2140 := (f2124.keep K2132)
                  have f2141 := (f2125.keep K2132)
                  have f2142 := (f2126.keep K2132 nin0)
                  have f2143 := (f2127.keep K2132 nin0)
                  have f2144 := (f2130.keep K2132 nin0)
                  have f2145 := (f2131.keep K2132 nin0)
                  have P2146 : Rg p e below (T2137.setTop (mkF m 142 #[sR a1, sR fa, sI 1, sR f1, sR g1, sI 0, sI 1, sI 2, .val (.long (y1 &&& v1)), .second] [])) B0 := fun t k => P2138 t (by
                    refine XS.icmpYes X2137.here hx rfl (pc0 := 30) (pc' := 142) rfl (hb hby dp22_3_30) rfl (flt (show ¬ ((2 : Int32) < (2 : Int32)) from (by decide))).2.1 (by decide) (by decide) ?_
                    show Sg p e below (T2137.setTop (mkF m 142 #[sR a1, sR fa, sI 1, sR f1, sR g1, sI 0, sI 1, sI 2, .val (.long (y1 &&& v1)), .second] [])) _
                    exact k)
                  obtain ⟨T2147, h2147, L2147, X2147, e2147, Nq2147, K2147, u2147_0, u2147_1, u2147_2, u2147_3, u2147_4, st2147⟩ := pc_rtx a1 fa f1 g1 P W kP kW (1 : Int32) M (2 : Int32) (0 : Int32) (1 : Int32) (2 : Int32) (([x0, x1] ++ ur).map Value.int) (([y0, y1] ++ vr).map Value.long) (.val (.long (y1 &&& v1))) .second X2137 hx hZ hw hby hml hown e2137 Nq2132 Z2134 (Nat.le_of_ble_eq_true rfl) (Nat.le_of_ble_eq_true rfl) (by decide) (by decide) g_a1 f2139 f2140 f2141 f2142 f2143 f2136 f2144 f2145
                  have P2148 : Rg p e below (T2147.setTop (mkF m 148 #[sR a1, sR fa, sI 1, sR f1, sR g1, sI 0, sI 1, sI 2, .val (.long (y1 &&& v1)), .second] [])) B0 := fun t k => P2146 t (by
                    exact st2147 _ k)
                  have Z2149 : n0 ≤ h2147.size := Nat.le_trans Z2134 K2147.1
                  have K2150 : Keep h0 h2147 [a1, P, W] := K2135.trans K2147 ((allS (Or.inl (List.mem_of_getElem? (i := 0) rfl)) all0))
                  obtain ⟨fs2151, hr2151, hrun2151, hended2151, hW2151, hsame2151⟩ := X2147.leave (v := none) (fun _ => rfl)
                  refine ⟨_, _, pre0 _ (P2148 _ ?_), hrun2151, hended2151, _, _, rfl, ?_, ⟨⟨_, rfl⟩, hW2151, hsame2151.mono (Nat.le_of_ble_eq_true rfl) (Nat.le_of_ble_eq_true rfl)⟩⟩
                  · show Sg p e below (T2147.setTop (mkF m 148 #[sR a1, sR fa, sI 1, sR f1, sR g1, sI 0, sI 1, sI 2, .val (.long (y1 &&& v1)), .second] [])) _
                    exact X2147.returnOut hx Bd.returns (hb hby dp22_3_148) hr2151
                  · show Q_ret Z a1 P W kP kW M [x0, x1] ur [y0, y1] [q0, q1] [v0, v1] h0 n0 _ T2147.heap _
                    rw [e2147]
                    exact ⟨rfl, Nq2147, K2150, [], [x0, x1] ++ ur, [], [y0, y1] ++ vr, (0 : Int32), by rw [own_rp, if_pos r0, own_rp, if_pos r1]; rfl, by rw [own_rw, if_pos r0, own_rw, if_pos r1]; rfl, rfl, by simp, rfl, by simp [hv], u2147_0, u2147_1, u2147_2, u2147_3, u2147_4⟩
                · skip
                  have f2152 := (f2073.keep K2082)
                  have f2153 := (f2074.keep K2082)
                  have f2154 := (f2075.keep K2082)
                  have f2155 := (f2076.keep K2082 nin0)
                  have f2156 := (f2077.keep K2082 nin0)
                  have f2157 := (f2078.keep K2082 nin0)
                  have f2158 := (f2079.keep K2082 nin0)
                  have f2159 := (f2080.keep K2082 nin0)
                  have f2160 := (f2081.keep K2082 nin0)
                  obtain ⟨T2161, h2161, L2161, X2161, e2161, Nq2161, K2161, u2161_0, u2161_1, st2161⟩ := pc_rtk a1 fa f1 g1 P W kf kg kP kW (1 : Int32) (2 : Int32) M (0 : Int32) (1 : Int32) (1 : Int32) q1 x1 y1 v1 [(.int q0), (.int q1)] [(.long v0), (.long v1)] (([x0, x1] ++ ur).map Value.int) (([y0, y1] ++ vr).map Value.long) sU sU 0 X2082 hx hZ hw hby hml hown e2082 Nq2082 Z2084 (Nat.le_of_ble_eq_true rfl) (Nat.le_of_ble_eq_true rfl) (by decide) (by decide) g_P g_W f2152 f2153 f2154 f2155 f2156 f2157 f2158 f2159 f2160 (by decide) ⟨by decide, by decide⟩ rfl rfl (own_inb hM (k := 1) (by simp) hm) rfl rfl (Or.inl ⟨rfl, rfl⟩) q2086 q2121 q2122 (own_inb hM (k := 0) (by simp) hm) rfl (by simp) (by simp)
                  have P2162 : Rg p e below (T2161.setTop (mkF m 24 #[sR a1, sR fa, sI 1, sR f1, sR g1, sI 1, sI 1, sI 2, .val (.long (y1 &&& v1)), .second] [])) B0 := fun t k => P2083 t (by
                    exact st2161 _ k)
                  have Z2163 : n0 ≤ h2161.size := Nat.le_trans Z2084 K2161.1
                  have K2164 : Keep h0 h2161 [a1, P, W] := K2085.trans K2161 ((allS (Or.inl (List.mem_of_getElem? (i := 1) rfl)) (allS (Or.inl (List.mem_of_getElem? (i := 2) rfl)) all0)))
                  have AP2161 : Arv Z h2161 P kP .int M (([x1, x1] ++ ur).map Value.int) (.int (0 : Int32)) := u2161_0
                  have AW2161 : Arv Z h2161 W kW .long M (([(y1 &&& v1), y1] ++ vr).map Value.long) (.long (0 : Int64)) := u2161_1
                  have f2165 := (((f2066.keep K2068 nin0).keep K2082 nin0).keep K2161 (ninS (Exa.ne E1 EP (by decide)) (ninS (Exa.ne E1 EW1 (by decide)) nin0)))
                  obtain ⟨T2166, X2166, e2166, st2166⟩ := getF X2161 hx hZ hown (host := "") (Or.inl (own_hw hw 48 rfl)) Via.refl e2161 f2165 (g := (mkF m 27 #[sR a1, sR fa, sI 1, sR f1, sR g1, sI 1, sI 1, sI 2, .val (.long (y1 &&& v1)), .second] [(.ref a1), (.int (2 : Int32))])) rfl rfl (hb hby dp22_3_27)
                  have P2167 : Rg p e below (T2166.setTop (mkF m 30 #[sR a1, sR fa, sI 1, sR f1, sR g1, sI 1, sI 1, sI 2, .val (.long (y1 &&& v1)), .second] [(.int (2 : Int32)), (.int (2 : Int32))])) B0 := fun t k => P2162 t (by
                    refine XS.iload X2161.here hx rfl (hb hby dp22_3_24) rfl ?_
                    refine XS.aloadN X2161.here hx rfl (hb hby dp22_3_26) rfl rfl ?_
                    show Sg p e below (T2161.setTop (mkF m 27 #[sR a1, sR fa, sI 1, sR f1, sR g1, sI 1, sI 1, sI 2, .val (.long (y1 &&& v1)), .second] [(.ref a1), (.int (2 : Int32))])) _
                    exact st2166 _ k)
                  have lk0 : own_look [q0, q1] [v0, v1] x0 = 0 := by simp only [own_look]; rw [if_neg (fun e => by have e' := congrArg Int32.toInt e; omega), if_neg (fun e => by have e' := congrArg Int32.toInt e; omega)]
                  have r0 : y0 &&& own_look [q0, q1] [v0, v1] x0 = 0 := by rw [lk0]; exact own_and0 _
                  have lk1 : own_look [q0, q1] [v0, v1] x1 = v1 := by simp only [own_look]; rw [if_neg (fun e => by have e' := congrArg Int32.toInt e; omega), if_pos q2121]
                  have r1 : ¬ y1 &&& own_look [q0, q1] [v0, v1] x1 = 0 := by rw [lk1]; exact q2122
                  have f2168 := (f2152.keep K2161)
                  have f2169 := (f2153.keep K2161)
                  have f2170 := (f2154.keep K2161)
                  have f2171 := (f2155.keep K2161 (ninS (Exa.ne E1 EP (by decide)) (ninS (Exa.ne E1 EW1 (by decide)) nin0)))
                  have f2172 := (f2156.keep K2161 (ninS (Exa.ne E1 EP (by decide)) (ninS (Exa.ne E1 EW1 (by decide)) nin0)))
                  have P2173 : Rg p e below (T2166.setTop (mkF m 142 #[sR a1, sR fa, sI 1, sR f1, sR g1, sI 1, sI 1, sI 2, .val (.long (y1 &&& v1)), .second] [])) B0 := fun t k => P2167 t (by
                    refine XS.icmpYes X2166.here hx rfl (pc0 := 30) (pc' := 142) rfl (hb hby dp22_3_30) rfl (flt (show ¬ ((2 : Int32) < (2 : Int32)) from (by decide))).2.1 (by decide) (by decide) ?_
                    show Sg p e below (T2166.setTop (mkF m 142 #[sR a1, sR fa, sI 1, sR f1, sR g1, sI 1, sI 1, sI 2, .val (.long (y1 &&& v1)), .second] [])) _
                    exact k)
                  obtain ⟨T2174, h2174, L2174, X2174, e2174, Nq2174, K2174, u2174_0, u2174_1, u2174_2, u2174_3, u2174_4, st2174⟩ := pc_rtx a1 fa f1 g1 P W kP kW (1 : Int32) M (2 : Int32) (1 : Int32) (1 : Int32) (2 : Int32) (([x1, x1] ++ ur).map Value.int) (([(y1 &&& v1), y1] ++ vr).map Value.long) (.val (.long (y1 &&& v1))) .second X2166 hx hZ hw hby hml hown e2166 Nq2161 Z2163 (Nat.le_of_ble_eq_true rfl) (Nat.le_of_ble_eq_true rfl) (by decide) (by decide) g_a1 f2168 f2169 f2170 f2171 f2172 f2165 AP2161 AW2161
                  have P2175 : Rg p e below (T2174.setTop (mkF m 148 #[sR a1, sR fa, sI 1, sR f1, sR g1, sI 1, sI 1, sI 2, .val (.long (y1 &&& v1)), .second] [])) B0 := fun t k => P2173 t (by
                    exact st2174 _ k)
                  have Z2176 : n0 ≤ h2174.size := Nat.le_trans Z2163 K2174.1
                  have K2177 : Keep h0 h2174 [a1, P, W] := K2164.trans K2174 ((allS (Or.inl (List.mem_of_getElem? (i := 0) rfl)) all0))
                  obtain ⟨fs2178, hr2178, hrun2178, hended2178, hW2178, hsame2178⟩ := X2174.leave (v := none) (fun _ => rfl)
                  refine ⟨_, _, pre0 _ (P2175 _ ?_), hrun2178, hended2178, _, _, rfl, ?_, ⟨⟨_, rfl⟩, hW2178, hsame2178.mono (Nat.le_of_ble_eq_true rfl) (Nat.le_of_ble_eq_true rfl)⟩⟩
                  · show Sg p e below (T2174.setTop (mkF m 148 #[sR a1, sR fa, sI 1, sR f1, sR g1, sI 1, sI 1, sI 2, .val (.long (y1 &&& v1)), .second] [])) _
                    exact X2174.returnOut hx Bd.returns (hb hby dp22_3_148) hr2178
                  · show Q_ret Z a1 P W kP kW M [x0, x1] ur [y0, y1] [q0, q1] [v0, v1] h0 n0 _ T2174.heap _
                    rw [e2174]
                    exact ⟨rfl, Nq2174, K2177, [x1], [x1] ++ ur, [(y1 &&& v1)], [y1] ++ vr, (1 : Int32), by rw [own_rp, if_pos r0, own_rp, if_neg r1]; rfl, by rw [own_rw, if_pos r0, own_rw, if_neg r1, lk1]; rfl, rfl, by simp, rfl, by simp [hv], u2174_0, u2174_1, u2174_2, u2174_3, u2174_4⟩
              · skip
                have tq2121 : ¬ q1.toInt = x1.toInt := fun y => q2121 (Int32.toInt_inj.mp y)
                have f2179 := (f2073.keep K2082)
                have f2180 := (f2074.keep K2082)
                have f2181 := (f2075.keep K2082)
                have f2182 := (f2076.keep K2082 nin0)
                have f2183 := (f2077.keep K2082 nin0)
                have f2184 := (f2078.keep K2082 nin0)
                have f2185 := (f2079.keep K2082 nin0)
                have f2186 := (f2080.keep K2082 nin0)
                have f2187 := (f2081.keep K2082 nin0)
                obtain ⟨T2188, h2188, L2188, X2188, e2188, Nq2188, K2188, st2188⟩ := pc_rtn a1 fa f1 g1 P W kf kg kP kW (1 : Int32) (2 : Int32) M (0 : Int32) (1 : Int32) (1 : Int32) q1 x1 y1 v1 [(.int q0), (.int q1)] [(.long v0), (.long v1)] (([x0, x1] ++ ur).map Value.int) (([y0, y1] ++ vr).map Value.long) sU sU X2082 hx hZ hw hby hml hown e2082 Nq2082 Z2084 (Nat.le_of_ble_eq_true rfl) (Nat.le_of_ble_eq_true rfl) (by decide) (by decide) g_P g_W f2179 f2180 f2181 f2182 f2183 f2184 f2185 f2186 f2187 (by decide) ⟨by decide, by decide⟩ rfl rfl (own_inb hM (k := 1) (by simp) hm) rfl rfl (Or.inl ⟨rfl, rfl⟩) q2086 q2121
                have P2189 : Rg p e below (T2188.setTop (mkF m 24 #[sR a1, sR fa, sI 1, sR f1, sR g1, sI 0, sI 1, sI 2, sU, sU] [])) B0 := fun t k => P2083 t (by
                  exact st2188 _ k)
                have Z2190 : n0 ≤ h2188.size := Nat.le_trans Z2084 K2188.1
                have K2191 : Keep h0 h2188 [a1, P, W] := K2085.trans K2188 (all0)
                have f2192 := (((f2066.keep K2068 nin0).keep K2082 nin0).keep K2188 nin0)
                obtain ⟨T2193, X2193, e2193, st2193⟩ := getF X2188 hx hZ hown (host := "") (Or.inl (own_hw hw 48 rfl)) Via.refl e2188 f2192 (g := (mkF m 27 #[sR a1, sR fa, sI 1, sR f1, sR g1, sI 0, sI 1, sI 2, sU, sU] [(.ref a1), (.int (2 : Int32))])) rfl rfl (hb hby dp22_3_27)
                have P2194 : Rg p e below (T2193.setTop (mkF m 30 #[sR a1, sR fa, sI 1, sR f1, sR g1, sI 0, sI 1, sI 2, sU, sU] [(.int (2 : Int32)), (.int (2 : Int32))])) B0 := fun t k => P2189 t (by
                  refine XS.iload X2188.here hx rfl (hb hby dp22_3_24) rfl ?_
                  refine XS.aloadN X2188.here hx rfl (hb hby dp22_3_26) rfl rfl ?_
                  show Sg p e below (T2188.setTop (mkF m 27 #[sR a1, sR fa, sI 1, sR f1, sR g1, sI 0, sI 1, sI 2, sU, sU] [(.ref a1), (.int (2 : Int32))])) _
                  exact st2193 _ k)
                have lk0 : own_look [q0, q1] [v0, v1] x0 = 0 := by simp only [own_look]; rw [if_neg (fun e => by have e' := congrArg Int32.toInt e; omega), if_neg (fun e => by have e' := congrArg Int32.toInt e; omega)]
                have r0 : y0 &&& own_look [q0, q1] [v0, v1] x0 = 0 := by rw [lk0]; exact own_and0 _
                have lk1 : own_look [q0, q1] [v0, v1] x1 = 0 := by simp only [own_look]; rw [if_neg (fun e => by have e' := congrArg Int32.toInt e; omega), if_neg (fun e => by have e' := congrArg Int32.toInt e; omega)]
                have r1 : y1 &&& own_look [q0, q1] [v0, v1] x1 = 0 := by rw [lk1]; exact own_and0 _
                have f2195 := (f2179.keep K2188)
                have f2196 := (f2180.keep K2188)
                have f2197 := (f2181.keep K2188)
                have f2198 := (f2182.keep K2188 nin0)
                have f2199 := (f2183.keep K2188 nin0)
                have f2200 := (f2186.keep K2188 nin0)
                have f2201 := (f2187.keep K2188 nin0)
                have P2202 : Rg p e below (T2193.setTop (mkF m 142 #[sR a1, sR fa, sI 1, sR f1, sR g1, sI 0, sI 1, sI 2, sU, sU] [])) B0 := fun t k => P2194 t (by
                  refine XS.icmpYes X2193.here hx rfl (pc0 := 30) (pc' := 142) rfl (hb hby dp22_3_30) rfl (flt (show ¬ ((2 : Int32) < (2 : Int32)) from (by decide))).2.1 (by decide) (by decide) ?_
                  show Sg p e below (T2193.setTop (mkF m 142 #[sR a1, sR fa, sI 1, sR f1, sR g1, sI 0, sI 1, sI 2, sU, sU] [])) _
                  exact k)
                obtain ⟨T2203, h2203, L2203, X2203, e2203, Nq2203, K2203, u2203_0, u2203_1, u2203_2, u2203_3, u2203_4, st2203⟩ := pc_rtx a1 fa f1 g1 P W kP kW (1 : Int32) M (2 : Int32) (0 : Int32) (1 : Int32) (2 : Int32) (([x0, x1] ++ ur).map Value.int) (([y0, y1] ++ vr).map Value.long) sU sU X2193 hx hZ hw hby hml hown e2193 Nq2188 Z2190 (Nat.le_of_ble_eq_true rfl) (Nat.le_of_ble_eq_true rfl) (by decide) (by decide) g_a1 f2195 f2196 f2197 f2198 f2199 f2192 f2200 f2201
                have P2204 : Rg p e below (T2203.setTop (mkF m 148 #[sR a1, sR fa, sI 1, sR f1, sR g1, sI 0, sI 1, sI 2, sU, sU] [])) B0 := fun t k => P2202 t (by
                  exact st2203 _ k)
                have Z2205 : n0 ≤ h2203.size := Nat.le_trans Z2190 K2203.1
                have K2206 : Keep h0 h2203 [a1, P, W] := K2191.trans K2203 ((allS (Or.inl (List.mem_of_getElem? (i := 0) rfl)) all0))
                obtain ⟨fs2207, hr2207, hrun2207, hended2207, hW2207, hsame2207⟩ := X2203.leave (v := none) (fun _ => rfl)
                refine ⟨_, _, pre0 _ (P2204 _ ?_), hrun2207, hended2207, _, _, rfl, ?_, ⟨⟨_, rfl⟩, hW2207, hsame2207.mono (Nat.le_of_ble_eq_true rfl) (Nat.le_of_ble_eq_true rfl)⟩⟩
                · show Sg p e below (T2203.setTop (mkF m 148 #[sR a1, sR fa, sI 1, sR f1, sR g1, sI 0, sI 1, sI 2, sU, sU] [])) _
                  exact X2203.returnOut hx Bd.returns (hb hby dp22_3_148) hr2207
                · show Q_ret Z a1 P W kP kW M [x0, x1] ur [y0, y1] [q0, q1] [v0, v1] h0 n0 _ T2203.heap _
                  rw [e2203]
                  exact ⟨rfl, Nq2203, K2206, [], [x0, x1] ++ ur, [], [y0, y1] ++ vr, (0 : Int32), by rw [own_rp, if_pos r0, own_rp, if_pos r1]; rfl, by rw [own_rw, if_pos r0, own_rw, if_pos r1]; rfl, rfl, by simp, rfl, by simp [hv], u2203_0, u2203_1, u2203_2, u2203_3, u2203_4⟩
          · skip
            have tq2072 : ¬ q0.toInt < x1.toInt := fun y => q2072 (Int32.lt_iff_toInt_lt.mpr y)
            by_cases q2208 : q0 = x1
            · skip
              have hit1 := q2208
              have thit1 := congrArg Int32.toInt q2208
              by_cases q2209 : y1 &&& v0 = (0 : Int64)
              · skip
                have f2210 := ((f2053.keep K2062).keep K2068)
                have f2211 := ((f2054.keep K2062).keep K2068)
                have f2212 := ((f2055.keep K2062).keep K2068)
                have f2213 := ((f2056.keep K2062 nin0).keep K2068 nin0)
                have f2214 := ((f2057.keep K2062 nin0).keep K2068 nin0)
                have f2215 := (f2067.keep K2068 nin0)
                have f2216 := ((f2059.keep K2062 nin0).keep K2068 nin0)
                have f2217 := ((f2060.keep K2062 nin0).keep K2068 nin0)
                have f2218 := ((f2061.keep K2062 nin0).keep K2068 nin0)
                obtain ⟨T2219, h2219, L2219, X2219, e2219, Nq2219, K2219, st2219⟩ := pc_rtz a1 fa f1 g1 P W kf kg kP kW (1 : Int32) (2 : Int32) M (0 : Int32) (0 : Int32) (1 : Int32) q0 x1 y1 v0 [(.int q0), (.int q1)] [(.long v0), (.long v1)] (([x0, x1] ++ ur).map Value.int) (([y0, y1] ++ vr).map Value.long) sU sU X2068 hx hZ hw hby hml hown e2068 Nq2068 Z2070 (Nat.le_of_ble_eq_true rfl) (Nat.le_of_ble_eq_true rfl) (by decide) (by decide) g_P g_W f2210 f2211 f2212 f2213 f2214 f2215 f2216 f2217 f2218 (by decide) ⟨by decide, by decide⟩ rfl rfl (own_inb hM (k := 1) (by simp) hm) rfl rfl (Or.inl ⟨rfl, rfl⟩) q2072 q2208 q2209
                have P2220 : Rg p e below (T2219.setTop (mkF m 24 #[sR a1, sR fa, sI 1, sR f1, sR g1, sI 0, sI 0, sI 2, .val (.long (y1 &&& v0)), .second] [])) B0 := fun t k => P2069 t (by
                  exact st2219 _ k)
                have Z2221 : n0 ≤ h2219.size := Nat.le_trans Z2070 K2219.1
                have K2222 : Keep h0 h2219 [a1, P, W] := K2071.trans K2219 (all0)
                have f2223 := ((f2066.keep K2068 nin0).keep K2219 nin0)
                obtain ⟨T2224, X2224, e2224, st2224⟩ := getF X2219 hx hZ hown (host := "") (Or.inl (own_hw hw 48 rfl)) Via.refl e2219 f2223 (g := (mkF m 27 #[sR a1, sR fa, sI 1, sR f1, sR g1, sI 0, sI 0, sI 2, .val (.long (y1 &&& v0)), .second] [(.ref a1), (.int (2 : Int32))])) rfl rfl (hb hby dp22_3_27)
                have P2225 : Rg p e below (T2224.setTop (mkF m 30 #[sR a1, sR fa, sI 1, sR f1, sR g1, sI 0, sI 0, sI 2, .val (.long (y1 &&& v0)), .second] [(.int (2 : Int32)), (.int (2 : Int32))])) B0 := fun t k => P2220 t (by
                  refine XS.iload X2219.here hx rfl (hb hby dp22_3_24) rfl ?_
                  refine XS.aloadN X2219.here hx rfl (hb hby dp22_3_26) rfl rfl ?_
                  show Sg p e below (T2219.setTop (mkF m 27 #[sR a1, sR fa, sI 1, sR f1, sR g1, sI 0, sI 0, sI 2, .val (.long (y1 &&& v0)), .second] [(.ref a1), (.int (2 : Int32))])) _
                  exact st2224 _ k)
                have lk0 : own_look [q0, q1] [v0, v1] x0 = 0 := by simp only [own_look]; rw [if_neg (fun e => by have e' := congrArg Int32.toInt e; omega), if_neg (fun e => by have e' := congrArg Int32.toInt e; omega)]
                have r0 : y0 &&& own_look [q0, q1] [v0, v1] x0 = 0 := by rw [lk0]; exact own_and0 _
                have lk1 : own_look [q0, q1] [v0, v1] x1 = v0 := by simp only [own_look]; rw [if_pos q2208]
                have r1 : y1 &&& own_look [q0, q1] [v0, v1] x1 = 0 := by rw [lk1]; exact q2209
                have f2226 := (f2210.keep K2219)
                have f2227 := (f2211.keep K2219)
                have f2228 := (f2212.keep K2219)
                have f2229 := (f2213.keep K2219 nin0)
                have f2230 := (f2214.keep K2219 nin0)
                have f2231 := (f2217.keep K2219 nin0)
                have f2232 := (f2218.keep K2219 nin0)
                have P2233 : Rg p e below (T2224.setTop (mkF m 142 #[sR a1, sR fa, sI 1, sR f1, sR g1, sI 0, sI 0, sI 2, .val (.long (y1 &&& v0)), .second] [])) B0 := fun t k => P2225 t (by
                  refine XS.icmpYes X2224.here hx rfl (pc0 := 30) (pc' := 142) rfl (hb hby dp22_3_30) rfl (flt (show ¬ ((2 : Int32) < (2 : Int32)) from (by decide))).2.1 (by decide) (by decide) ?_
                  show Sg p e below (T2224.setTop (mkF m 142 #[sR a1, sR fa, sI 1, sR f1, sR g1, sI 0, sI 0, sI 2, .val (.long (y1 &&& v0)), .second] [])) _
                  exact k)
                obtain ⟨T2234, h2234, L2234, X2234, e2234, Nq2234, K2234, u2234_0, u2234_1, u2234_2, u2234_3, u2234_4, st2234⟩ := pc_rtx a1 fa f1 g1 P W kP kW (1 : Int32) M (2 : Int32) (0 : Int32) (0 : Int32) (2 : Int32) (([x0, x1] ++ ur).map Value.int) (([y0, y1] ++ vr).map Value.long) (.val (.long (y1 &&& v0))) .second X2224 hx hZ hw hby hml hown e2224 Nq2219 Z2221 (Nat.le_of_ble_eq_true rfl) (Nat.le_of_ble_eq_true rfl) (by decide) (by decide) g_a1 f2226 f2227 f2228 f2229 f2230 f2223 f2231 f2232
                have P2235 : Rg p e below (T2234.setTop (mkF m 148 #[sR a1, sR fa, sI 1, sR f1, sR g1, sI 0, sI 0, sI 2, .val (.long (y1 &&& v0)), .second] [])) B0 := fun t k => P2233 t (by
                  exact st2234 _ k)
                have Z2236 : n0 ≤ h2234.size := Nat.le_trans Z2221 K2234.1
                have K2237 : Keep h0 h2234 [a1, P, W] := K2222.trans K2234 ((allS (Or.inl (List.mem_of_getElem? (i := 0) rfl)) all0))
                obtain ⟨fs2238, hr2238, hrun2238, hended2238, hW2238, hsame2238⟩ := X2234.leave (v := none) (fun _ => rfl)
                refine ⟨_, _, pre0 _ (P2235 _ ?_), hrun2238, hended2238, _, _, rfl, ?_, ⟨⟨_, rfl⟩, hW2238, hsame2238.mono (Nat.le_of_ble_eq_true rfl) (Nat.le_of_ble_eq_true rfl)⟩⟩
                · show Sg p e below (T2234.setTop (mkF m 148 #[sR a1, sR fa, sI 1, sR f1, sR g1, sI 0, sI 0, sI 2, .val (.long (y1 &&& v0)), .second] [])) _
                  exact X2234.returnOut hx Bd.returns (hb hby dp22_3_148) hr2238
                · show Q_ret Z a1 P W kP kW M [x0, x1] ur [y0, y1] [q0, q1] [v0, v1] h0 n0 _ T2234.heap _
                  rw [e2234]
                  exact ⟨rfl, Nq2234, K2237, [], [x0, x1] ++ ur, [], [y0, y1] ++ vr, (0 : Int32), by rw [own_rp, if_pos r0, own_rp, if_pos r1]; rfl, by rw [own_rw, if_pos r0, own_rw, if_pos r1]; rfl, rfl, by simp, rfl, by simp [hv], u2234_0, u2234_1, u2234_2, u2234_3, u2234_4⟩
              · skip
                have f2239 := ((f2053.keep K2062).keep K2068)
                have f2240 := ((f2054.keep K2062).keep K2068)
                have f2241 := ((f2055.keep K2062).keep K2068)
                have f2242 := ((f2056.keep K2062 nin0).keep K2068 nin0)
                have f2243 := ((f2057.keep K2062 nin0).keep K2068 nin0)
                have f2244 := (f2067.keep K2068 nin0)
                have f2245 := ((f2059.keep K2062 nin0).keep K2068 nin0)
                have f2246 := ((f2060.keep K2062 nin0).keep K2068 nin0)
                have f2247 := ((f2061.keep K2062 nin0).keep K2068 nin0)
                obtain ⟨T2248, h2248, L2248, X2248, e2248, Nq2248, K2248, u2248_0, u2248_1, st2248⟩ := pc_rtk a1 fa f1 g1 P W kf kg kP kW (1 : Int32) (2 : Int32) M (0 : Int32) (0 : Int32) (1 : Int32) q0 x1 y1 v0 [(.int q0), (.int q1)] [(.long v0), (.long v1)] (([x0, x1] ++ ur).map Value.int) (([y0, y1] ++ vr).map Value.long) sU sU 0 X2068 hx hZ hw hby hml hown e2068 Nq2068 Z2070 (Nat.le_of_ble_eq_true rfl) (Nat.le_of_ble_eq_true rfl) (by decide) (by decide) g_P g_W f2239 f2240 f2241 f2242 f2243 f2244 f2245 f2246 f2247 (by decide) ⟨by decide, by decide⟩ rfl rfl (own_inb hM (k := 1) (by simp) hm) rfl rfl (Or.inl ⟨rfl, rfl⟩) q2072 q2208 q2209 (own_inb hM (k := 0) (by simp) hm) rfl (by simp) (by simp)
                have P2249 : Rg p e below (T2248.setTop (mkF m 24 #[sR a1, sR fa, sI 1, sR f1, sR g1, sI 1, sI 0, sI 2, .val (.long (y1 &&& v0)), .second] [])) B0 := fun t k => P2069 t (by
                  exact st2248 _ k)
                have Z2250 : n0 ≤ h2248.size := Nat.le_trans Z2070 K2248.1
                have K2251 : Keep h0 h2248 [a1, P, W] := K2071.trans K2248 ((allS (Or.inl (List.mem_of_getElem? (i := 1) rfl)) (allS (Or.inl (List.mem_of_getElem? (i := 2) rfl)) all0)))
                have AP2248 : Arv Z h2248 P kP .int M (([x1, x1] ++ ur).map Value.int) (.int (0 : Int32)) := u2248_0
                have AW2248 : Arv Z h2248 W kW .long M (([(y1 &&& v0), y1] ++ vr).map Value.long) (.long (0 : Int64)) := u2248_1
                have f2252 := ((f2066.keep K2068 nin0).keep K2248 (ninS (Exa.ne E1 EP (by decide)) (ninS (Exa.ne E1 EW1 (by decide)) nin0)))
                obtain ⟨T2253, X2253, e2253, st2253⟩ := getF X2248 hx hZ hown (host := "") (Or.inl (own_hw hw 48 rfl)) Via.refl e2248 f2252 (g := (mkF m 27 #[sR a1, sR fa, sI 1, sR f1, sR g1, sI 1, sI 0, sI 2, .val (.long (y1 &&& v0)), .second] [(.ref a1), (.int (2 : Int32))])) rfl rfl (hb hby dp22_3_27)
                have P2254 : Rg p e below (T2253.setTop (mkF m 30 #[sR a1, sR fa, sI 1, sR f1, sR g1, sI 1, sI 0, sI 2, .val (.long (y1 &&& v0)), .second] [(.int (2 : Int32)), (.int (2 : Int32))])) B0 := fun t k => P2249 t (by
                  refine XS.iload X2248.here hx rfl (hb hby dp22_3_24) rfl ?_
                  refine XS.aloadN X2248.here hx rfl (hb hby dp22_3_26) rfl rfl ?_
                  show Sg p e below (T2248.setTop (mkF m 27 #[sR a1, sR fa, sI 1, sR f1, sR g1, sI 1, sI 0, sI 2, .val (.long (y1 &&& v0)), .second] [(.ref a1), (.int (2 : Int32))])) _
                  exact st2253 _ k)
                have lk0 : own_look [q0, q1] [v0, v1] x0 = 0 := by simp only [own_look]; rw [if_neg (fun e => by have e' := congrArg Int32.toInt e; omega), if_neg (fun e => by have e' := congrArg Int32.toInt e; omega)]
                have r0 : y0 &&& own_look [q0, q1] [v0, v1] x0 = 0 := by rw [lk0]; exact own_and0 _
                have lk1 : own_look [q0, q1] [v0, v1] x1 = v0 := by simp only [own_look]; rw [if_pos q2208]
                have r1 : ¬ y1 &&& own_look [q0, q1] [v0, v1] x1 = 0 := by rw [lk1]; exact q2209
                have f2255 := (f2239.keep K2248)
                have f2256 := (f2240.keep K2248)
                have f2257 := (f2241.keep K2248)
                have f2258 := (f2242.keep K2248 (ninS (Exa.ne E1 EP (by decide)) (ninS (Exa.ne E1 EW1 (by decide)) nin0)))
                have f2259 := (f2243.keep K2248 (ninS (Exa.ne E1 EP (by decide)) (ninS (Exa.ne E1 EW1 (by decide)) nin0)))
                have P2260 : Rg p e below (T2253.setTop (mkF m 142 #[sR a1, sR fa, sI 1, sR f1, sR g1, sI 1, sI 0, sI 2, .val (.long (y1 &&& v0)), .second] [])) B0 := fun t k => P2254 t (by
                  refine XS.icmpYes X2253.here hx rfl (pc0 := 30) (pc' := 142) rfl (hb hby dp22_3_30) rfl (flt (show ¬ ((2 : Int32) < (2 : Int32)) from (by decide))).2.1 (by decide) (by decide) ?_
                  show Sg p e below (T2253.setTop (mkF m 142 #[sR a1, sR fa, sI 1, sR f1, sR g1, sI 1, sI 0, sI 2, .val (.long (y1 &&& v0)), .second] [])) _
                  exact k)
                obtain ⟨T2261, h2261, L2261, X2261, e2261, Nq2261, K2261, u2261_0, u2261_1, u2261_2, u2261_3, u2261_4, st2261⟩ := pc_rtx a1 fa f1 g1 P W kP kW (1 : Int32) M (2 : Int32) (1 : Int32) (0 : Int32) (2 : Int32) (([x1, x1] ++ ur).map Value.int) (([(y1 &&& v0), y1] ++ vr).map Value.long) (.val (.long (y1 &&& v0))) .second X2253 hx hZ hw hby hml hown e2253 Nq2248 Z2250 (Nat.le_of_ble_eq_true rfl) (Nat.le_of_ble_eq_true rfl) (by decide) (by decide) g_a1 f2255 f2256 f2257 f2258 f2259 f2252 AP2248 AW2248
                have P2262 : Rg p e below (T2261.setTop (mkF m 148 #[sR a1, sR fa, sI 1, sR f1, sR g1, sI 1, sI 0, sI 2, .val (.long (y1 &&& v0)), .second] [])) B0 := fun t k => P2260 t (by
                  exact st2261 _ k)
                have Z2263 : n0 ≤ h2261.size := Nat.le_trans Z2250 K2261.1
                have K2264 : Keep h0 h2261 [a1, P, W] := K2251.trans K2261 ((allS (Or.inl (List.mem_of_getElem? (i := 0) rfl)) all0))
                obtain ⟨fs2265, hr2265, hrun2265, hended2265, hW2265, hsame2265⟩ := X2261.leave (v := none) (fun _ => rfl)
                refine ⟨_, _, pre0 _ (P2262 _ ?_), hrun2265, hended2265, _, _, rfl, ?_, ⟨⟨_, rfl⟩, hW2265, hsame2265.mono (Nat.le_of_ble_eq_true rfl) (Nat.le_of_ble_eq_true rfl)⟩⟩
                · show Sg p e below (T2261.setTop (mkF m 148 #[sR a1, sR fa, sI 1, sR f1, sR g1, sI 1, sI 0, sI 2, .val (.long (y1 &&& v0)), .second] [])) _
                  exact X2261.returnOut hx Bd.returns (hb hby dp22_3_148) hr2265
                · show Q_ret Z a1 P W kP kW M [x0, x1] ur [y0, y1] [q0, q1] [v0, v1] h0 n0 _ T2261.heap _
                  rw [e2261]
                  exact ⟨rfl, Nq2261, K2264, [x1], [x1] ++ ur, [(y1 &&& v0)], [y1] ++ vr, (1 : Int32), by rw [own_rp, if_pos r0, own_rp, if_neg r1]; rfl, by rw [own_rw, if_pos r0, own_rw, if_neg r1, lk1]; rfl, rfl, by simp, rfl, by simp [hv], u2261_0, u2261_1, u2261_2, u2261_3, u2261_4⟩
            · skip
              have tq2208 : ¬ q0.toInt = x1.toInt := fun y => q2208 (Int32.toInt_inj.mp y)
              have f2266 := ((f2053.keep K2062).keep K2068)
              have f2267 := ((f2054.keep K2062).keep K2068)
              have f2268 := ((f2055.keep K2062).keep K2068)
              have f2269 := ((f2056.keep K2062 nin0).keep K2068 nin0)
              have f2270 := ((f2057.keep K2062 nin0).keep K2068 nin0)
              have f2271 := (f2067.keep K2068 nin0)
              have f2272 := ((f2059.keep K2062 nin0).keep K2068 nin0)
              have f2273 := ((f2060.keep K2062 nin0).keep K2068 nin0)
              have f2274 := ((f2061.keep K2062 nin0).keep K2068 nin0)
              obtain ⟨T2275, h2275, L2275, X2275, e2275, Nq2275, K2275, st2275⟩ := pc_rtn a1 fa f1 g1 P W kf kg kP kW (1 : Int32) (2 : Int32) M (0 : Int32) (0 : Int32) (1 : Int32) q0 x1 y1 v0 [(.int q0), (.int q1)] [(.long v0), (.long v1)] (([x0, x1] ++ ur).map Value.int) (([y0, y1] ++ vr).map Value.long) sU sU X2068 hx hZ hw hby hml hown e2068 Nq2068 Z2070 (Nat.le_of_ble_eq_true rfl) (Nat.le_of_ble_eq_true rfl) (by decide) (by decide) g_P g_W f2266 f2267 f2268 f2269 f2270 f2271 f2272 f2273 f2274 (by decide) ⟨by decide, by decide⟩ rfl rfl (own_inb hM (k := 1) (by simp) hm) rfl rfl (Or.inl ⟨rfl, rfl⟩) q2072 q2208
              have P2276 : Rg p e below (T2275.setTop (mkF m 24 #[sR a1, sR fa, sI 1, sR f1, sR g1, sI 0, sI 0, sI 2, sU, sU] [])) B0 := fun t k => P2069 t (by
                exact st2275 _ k)
              have Z2277 : n0 ≤ h2275.size := Nat.le_trans Z2070 K2275.1
              have K2278 : Keep h0 h2275 [a1, P, W] := K2071.trans K2275 (all0)
              have f2279 := ((f2066.keep K2068 nin0).keep K2275 nin0)
              obtain ⟨T2280, X2280, e2280, st2280⟩ := getF X2275 hx hZ hown (host := "") (Or.inl (own_hw hw 48 rfl)) Via.refl e2275 f2279 (g := (mkF m 27 #[sR a1, sR fa, sI 1, sR f1, sR g1, sI 0, sI 0, sI 2, sU, sU] [(.ref a1), (.int (2 : Int32))])) rfl rfl (hb hby dp22_3_27)
              have P2281 : Rg p e below (T2280.setTop (mkF m 30 #[sR a1, sR fa, sI 1, sR f1, sR g1, sI 0, sI 0, sI 2, sU, sU] [(.int (2 : Int32)), (.int (2 : Int32))])) B0 := fun t k => P2276 t (by
                refine XS.iload X2275.here hx rfl (hb hby dp22_3_24) rfl ?_
                refine XS.aloadN X2275.here hx rfl (hb hby dp22_3_26) rfl rfl ?_
                show Sg p e below (T2275.setTop (mkF m 27 #[sR a1, sR fa, sI 1, sR f1, sR g1, sI 0, sI 0, sI 2, sU, sU] [(.ref a1), (.int (2 : Int32))])) _
                exact st2280 _ k)
              have lk0 : own_look [q0, q1] [v0, v1] x0 = 0 := by simp only [own_look]; rw [if_neg (fun e => by have e' := congrArg Int32.toInt e; omega), if_neg (fun e => by have e' := congrArg Int32.toInt e; omega)]
              have r0 : y0 &&& own_look [q0, q1] [v0, v1] x0 = 0 := by rw [lk0]; exact own_and0 _
              have lk1 : own_look [q0, q1] [v0, v1] x1 = 0 := by simp only [own_look]; rw [if_neg (fun e => by have e' := congrArg Int32.toInt e; omega), if_neg (fun e => by have e' := congrArg Int32.toInt e; omega)]
              have r1 : y1 &&& own_look [q0, q1] [v0, v1] x1 = 0 := by rw [lk1]; exact own_and0 _
              have f2282 := (f2266.keep K2275)
              have f2283 := (f2267.keep K2275)
              have f2284 := (f2268.keep K2275)
              have f2285 := (f2269.keep K2275 nin0)
              have f2286 := (f2270.keep K2275 nin0)
              have f2287 := (f2273.keep K2275 nin0)
              have f2288 := (f2274.keep K2275 nin0)
              have P2289 : Rg p e below (T2280.setTop (mkF m 142 #[sR a1, sR fa, sI 1, sR f1, sR g1, sI 0, sI 0, sI 2, sU, sU] [])) B0 := fun t k => P2281 t (by
                refine XS.icmpYes X2280.here hx rfl (pc0 := 30) (pc' := 142) rfl (hb hby dp22_3_30) rfl (flt (show ¬ ((2 : Int32) < (2 : Int32)) from (by decide))).2.1 (by decide) (by decide) ?_
                show Sg p e below (T2280.setTop (mkF m 142 #[sR a1, sR fa, sI 1, sR f1, sR g1, sI 0, sI 0, sI 2, sU, sU] [])) _
                exact k)
              obtain ⟨T2290, h2290, L2290, X2290, e2290, Nq2290, K2290, u2290_0, u2290_1, u2290_2, u2290_3, u2290_4, st2290⟩ := pc_rtx a1 fa f1 g1 P W kP kW (1 : Int32) M (2 : Int32) (0 : Int32) (0 : Int32) (2 : Int32) (([x0, x1] ++ ur).map Value.int) (([y0, y1] ++ vr).map Value.long) sU sU X2280 hx hZ hw hby hml hown e2280 Nq2275 Z2277 (Nat.le_of_ble_eq_true rfl) (Nat.le_of_ble_eq_true rfl) (by decide) (by decide) g_a1 f2282 f2283 f2284 f2285 f2286 f2279 f2287 f2288
              have P2291 : Rg p e below (T2290.setTop (mkF m 148 #[sR a1, sR fa, sI 1, sR f1, sR g1, sI 0, sI 0, sI 2, sU, sU] [])) B0 := fun t k => P2289 t (by
                exact st2290 _ k)
              have Z2292 : n0 ≤ h2290.size := Nat.le_trans Z2277 K2290.1
              have K2293 : Keep h0 h2290 [a1, P, W] := K2278.trans K2290 ((allS (Or.inl (List.mem_of_getElem? (i := 0) rfl)) all0))
              obtain ⟨fs2294, hr2294, hrun2294, hended2294, hW2294, hsame2294⟩ := X2290.leave (v := none) (fun _ => rfl)
              refine ⟨_, _, pre0 _ (P2291 _ ?_), hrun2294, hended2294, _, _, rfl, ?_, ⟨⟨_, rfl⟩, hW2294, hsame2294.mono (Nat.le_of_ble_eq_true rfl) (Nat.le_of_ble_eq_true rfl)⟩⟩
              · show Sg p e below (T2290.setTop (mkF m 148 #[sR a1, sR fa, sI 1, sR f1, sR g1, sI 0, sI 0, sI 2, sU, sU] [])) _
                exact X2290.returnOut hx Bd.returns (hb hby dp22_3_148) hr2294
              · show Q_ret Z a1 P W kP kW M [x0, x1] ur [y0, y1] [q0, q1] [v0, v1] h0 n0 _ T2290.heap _
                rw [e2290]
                exact ⟨rfl, Nq2290, K2293, [], [x0, x1] ++ ur, [], [y0, y1] ++ vr, (0 : Int32), by rw [own_rp, if_pos r0, own_rp, if_pos r1]; rfl, by rw [own_rw, if_pos r0, own_rw, if_pos r1]; rfl, rfl, by simp, rfl, by simp [hv], u2290_0, u2290_1, u2290_2, u2290_3, u2290_4⟩
    · exact absurd hq2 (by simp)
  · exact absurd hp2 (by simp)
theorem dj29_69_0 : decode jdk_29_method_69_code 0 = .ok (.iload_n 0, 1) := by decide +kernel
theorem dj29_69_1 : decode jdk_29_method_69_code 1 = .ok (.iload_n 1, 1) := by decide +kernel
theorem dj29_69_2 : decode jdk_29_method_69_code 2 = .ok (.if_icmp .gt 7, 3) := by decide +kernel
theorem dj29_69_9 : decode jdk_29_method_69_code 9 = .ok (.iload_n 1, 1) := by decide +kernel
theorem dj29_69_10 : decode jdk_29_method_69_code 10 = .ok (.ireturn, 1) := by decide +kernel
theorem dj29_69_5 : decode jdk_29_method_69_code 5 = .ok (.iload_n 0, 1) := by decide +kernel
theorem dj29_69_6 : decode jdk_29_method_69_code 6 = .ok (.goto 4, 3) := by decide +kernel
theorem ef_min (m : MethodId) (x0 : Int32) (x1 : Int32) : entryFrame m #[(.int x0), (.int x1)] 2 = mkF m 0 #[sI x0, sI x1] [] := by (first | (simp [entryFrame, mkF, argsToLocals, Value.category]; done) | rfl)
def Q_min (p0 p1 : Int32) (h0 : Heap) (n0 : Nat) (v : Option Value) (h : Heap) (L : List Loc) : Prop := ∃ r : Int32, v = some (.int r) ∧ Fr n0 L ∧ h = h0 ∧ r = (if p1 < p0 then p1 else p0)
set_option maxRecDepth 65536 in
set_option maxHeartbeats 40000000 in
theorem rm_min (l : Launch) (Z : State) (a0 : Array Value) (hw : ∀ d ∈ tables_1, d.before a0 Z = true) (ws : List Jvm.Cond) (p0 p1 : Int32) (h0 : Heap) (n0 : Nat) (Z0 : n0 ≤ h0.size)  :
    MetFree l (⟨"java/lang/Math", "min", "(II)I"⟩ : MethodName) (head1 (Jvm.Cond.code (⟨"java/lang/Math", "min", "(II)I"⟩ : MethodName) jdk_29_method_69_code 2 (some .int) :: ws) ({ frames := 0, cells := 0, slots := 0, locals := 0 } : Room)) (fun a U => a = #[(.int p0), (.int p1)] ∧ Z.Warmed39 U.vm ∧ U.heap = h0) (fun _ _ _ _ _ => True) (fun _ U o U' => ∃ v L, o = .returned v ∧ Q_min p0 p1 h0 n0 v U'.heap L ∧ FrameEnd U o U' L ({ frames := 0, cells := 0, slots := 0, locals := 0 } : Room).cells ({ frames := 0, cells := 0, slots := 0, locals := 0 } : Room).slots) := by
  refine MetFree.of_bodySF (Jvm.Free.JP.mathPlain rfl (by decide +kernel)) hisR ?_
  intro p e s m args below meth c s₁ Bd hml0 hP hK
  obtain ⟨rfl, hZ, hh⟩ := hP
  have hx := Bd.exec
  have hby := Bd.bytes
  have hml : c.maxLocals = 2 := hml0
  have hown : s.vm.findClass "java/lang/Math" = some m.cls := findClass_of_methodNamed Bd.named
  have hnm := (name_of_methodNamed Bd.named Bd.method).1
  have X0 : Stand p l e ({ frames := 0, cells := 0, slots := 0, locals := 0 } : Room) s m #[(.int p0), (.int p1)] below meth c s₁ [] 0 0 := Stand.of_body Bd
  have e0 : s₁.heap = h0 := by rw [← hh, Bd.state]; rfl
  have N0 := Fr.nil n0
  have pre0 : ∀ t, Sg p e below (s₁.setTop (mkF m 0 #[sI p0, sI p1] [])) t → Steps p.tables e below (s₁.setTop (entryFrame m #[(.int p0), (.int p1)] 2)) t := fun t k => castTop (ef_min m p0 p1) k
  have P0 : ∀ t, Sg p e below (s₁.setTop (mkF m 0 #[sI p0, sI p1] [])) t → Sg p e below (s₁.setTop (mkF m 0 #[sI p0, sI p1] [])) t := fun t k => k
  obtain ⟨B0, pre0, P0⟩ : ∃ B : State, (∀ t, Steps p.tables e below B t → Steps p.tables e below (s₁.setTop (entryFrame m #[(.int p0), (.int p1)] 2)) t) ∧ Rg p e below (s₁.setTop (mkF m 0 #[sI p0, sI p1] [])) B := ⟨_, pre0, P0⟩
  by_cases q2295 : p1 < p0
  · skip
    obtain ⟨fs2296, hr2296, hrun2296, hended2296, hW2296, hsame2296⟩ := X0.leave (v := some (.int p1)) (fun h => by rw [Bd.returns] at h; cases h)
    refine ⟨_, _, pre0 _ (P0 _ ?_), hrun2296, hended2296, _, _, rfl, ?_, ⟨⟨_, rfl⟩, hW2296, hsame2296.mono (Nat.le_of_ble_eq_true rfl) (Nat.le_of_ble_eq_true rfl)⟩⟩
    · refine XS.iloadN X0.here hx rfl (hb hby dj29_69_0) rfl ?_
      show Sg p e below (s₁.setTop (mkF m 1 #[sI p0, sI p1] [(.int p0)])) _
      refine XS.iloadN X0.here hx rfl (hb hby dj29_69_1) rfl ?_
      refine XS.icmpYes X0.here hx rfl (pc0 := 2) (pc' := 9) rfl (hb hby dj29_69_2) rfl (tlt (show p1 < p0 from q2295)).2.2.1 (by decide) (by decide) ?_
      refine XS.iloadN X0.here hx rfl (hb hby dj29_69_9) rfl ?_
      show Sg p e below (s₁.setTop (mkF m 10 #[sI p0, sI p1] [(.int p1)])) _
      exact retI X0 hx Bd.returns (hb hby dj29_69_10) hr2296
    · show Q_min p0 p1 h0 n0 _ s₁.heap _
      rw [e0]
      exact ⟨_, rfl, N0, rfl, ((if_pos q2295).trans (rfl)).symm⟩
  · skip
    obtain ⟨fs2297, hr2297, hrun2297, hended2297, hW2297, hsame2297⟩ := X0.leave (v := some (.int p0)) (fun h => by rw [Bd.returns] at h; cases h)
    refine ⟨_, _, pre0 _ (P0 _ ?_), hrun2297, hended2297, _, _, rfl, ?_, ⟨⟨_, rfl⟩, hW2297, hsame2297.mono (Nat.le_of_ble_eq_true rfl) (Nat.le_of_ble_eq_true rfl)⟩⟩
    · refine XS.iloadN X0.here hx rfl (hb hby dj29_69_0) rfl ?_
      show Sg p e below (s₁.setTop (mkF m 1 #[sI p0, sI p1] [(.int p0)])) _
      refine XS.iloadN X0.here hx rfl (hb hby dj29_69_1) rfl ?_
      refine XS.icmpNo X0.here hx rfl (hb hby dj29_69_2) rfl (flt (show ¬ (p1 < p0) from q2295)).2.2.1 ?_
      refine XS.iloadN X0.here hx rfl (hb hby dj29_69_5) rfl ?_
      refine XS.goto X0.here hx rfl (pc0 := 6) (pc' := 10) rfl (hb hby dj29_69_6) (by decide) (by decide) ?_
      show Sg p e below (s₁.setTop (mkF m 10 #[sI p0, sI p1] [(.int p0)])) _
      exact retI X0 hx Bd.returns (hb hby dj29_69_10) hr2297
    · show Q_min p0 p1 h0 n0 _ s₁.heap _
      rw [e0]
      exact ⟨_, rfl, N0, rfl, ((if_neg q2295).trans (rfl)).symm⟩
theorem dj29_65_0 : decode jdk_29_method_65_code 0 = .ok (.iload_n 0, 1) := by decide +kernel
theorem dj29_65_1 : decode jdk_29_method_65_code 1 = .ok (.iload_n 1, 1) := by decide +kernel
theorem dj29_65_2 : decode jdk_29_method_65_code 2 = .ok (.if_icmp .lt 7, 3) := by decide +kernel
theorem dj29_65_9 : decode jdk_29_method_65_code 9 = .ok (.iload_n 1, 1) := by decide +kernel
theorem dj29_65_10 : decode jdk_29_method_65_code 10 = .ok (.ireturn, 1) := by decide +kernel
theorem dj29_65_5 : decode jdk_29_method_65_code 5 = .ok (.iload_n 0, 1) := by decide +kernel
theorem dj29_65_6 : decode jdk_29_method_65_code 6 = .ok (.goto 4, 3) := by decide +kernel
theorem ef_max (m : MethodId) (x0 : Int32) (x1 : Int32) : entryFrame m #[(.int x0), (.int x1)] 2 = mkF m 0 #[sI x0, sI x1] [] := by (first | (simp [entryFrame, mkF, argsToLocals, Value.category]; done) | rfl)
def Q_max (p0 p1 : Int32) (h0 : Heap) (n0 : Nat) (v : Option Value) (h : Heap) (L : List Loc) : Prop := ∃ r : Int32, v = some (.int r) ∧ Fr n0 L ∧ h = h0 ∧ r = (if p0 < p1 then p1 else p0)
set_option maxRecDepth 65536 in
set_option maxHeartbeats 40000000 in
theorem rm_max (l : Launch) (Z : State) (a0 : Array Value) (hw : ∀ d ∈ tables_1, d.before a0 Z = true) (ws : List Jvm.Cond) (p0 p1 : Int32) (h0 : Heap) (n0 : Nat) (Z0 : n0 ≤ h0.size)  :
    MetFree l (⟨"java/lang/Math", "max", "(II)I"⟩ : MethodName) (head1 (Jvm.Cond.code (⟨"java/lang/Math", "max", "(II)I"⟩ : MethodName) jdk_29_method_65_code 2 (some .int) :: ws) ({ frames := 0, cells := 0, slots := 0, locals := 0 } : Room)) (fun a U => a = #[(.int p0), (.int p1)] ∧ Z.Warmed39 U.vm ∧ U.heap = h0) (fun _ _ _ _ _ => True) (fun _ U o U' => ∃ v L, o = .returned v ∧ Q_max p0 p1 h0 n0 v U'.heap L ∧ FrameEnd U o U' L ({ frames := 0, cells := 0, slots := 0, locals := 0 } : Room).cells ({ frames := 0, cells := 0, slots := 0, locals := 0 } : Room).slots) := by
  refine MetFree.of_bodySF (Jvm.Free.JP.mathPlain rfl (by decide +kernel)) hisR ?_
  intro p e s m args below meth c s₁ Bd hml0 hP hK
  obtain ⟨rfl, hZ, hh⟩ := hP
  have hx := Bd.exec
  have hby := Bd.bytes
  have hml : c.maxLocals = 2 := hml0
  have hown : s.vm.findClass "java/lang/Math" = some m.cls := findClass_of_methodNamed Bd.named
  have hnm := (name_of_methodNamed Bd.named Bd.method).1
  have X0 : Stand p l e ({ frames := 0, cells := 0, slots := 0, locals := 0 } : Room) s m #[(.int p0), (.int p1)] below meth c s₁ [] 0 0 := Stand.of_body Bd
  have e0 : s₁.heap = h0 := by rw [← hh, Bd.state]; rfl
  have N0 := Fr.nil n0
  have pre0 : ∀ t, Sg p e below (s₁.setTop (mkF m 0 #[sI p0, sI p1] [])) t → Steps p.tables e below (s₁.setTop (entryFrame m #[(.int p0), (.int p1)] 2)) t := fun t k => castTop (ef_max m p0 p1) k
  have P0 : ∀ t, Sg p e below (s₁.setTop (mkF m 0 #[sI p0, sI p1] [])) t → Sg p e below (s₁.setTop (mkF m 0 #[sI p0, sI p1] [])) t := fun t k => k
  obtain ⟨B0, pre0, P0⟩ : ∃ B : State, (∀ t, Steps p.tables e below B t → Steps p.tables e below (s₁.setTop (entryFrame m #[(.int p0), (.int p1)] 2)) t) ∧ Rg p e below (s₁.setTop (mkF m 0 #[sI p0, sI p1] [])) B := ⟨_, pre0, P0⟩
  by_cases q2298 : p0 < p1
  · skip
    obtain ⟨fs2299, hr2299, hrun2299, hended2299, hW2299, hsame2299⟩ := X0.leave (v := some (.int p1)) (fun h => by rw [Bd.returns] at h; cases h)
    refine ⟨_, _, pre0 _ (P0 _ ?_), hrun2299, hended2299, _, _, rfl, ?_, ⟨⟨_, rfl⟩, hW2299, hsame2299.mono (Nat.le_of_ble_eq_true rfl) (Nat.le_of_ble_eq_true rfl)⟩⟩
    · refine XS.iloadN X0.here hx rfl (hb hby dj29_65_0) rfl ?_
      show Sg p e below (s₁.setTop (mkF m 1 #[sI p0, sI p1] [(.int p0)])) _
      refine XS.iloadN X0.here hx rfl (hb hby dj29_65_1) rfl ?_
      refine XS.icmpYes X0.here hx rfl (pc0 := 2) (pc' := 9) rfl (hb hby dj29_65_2) rfl (tlt (show p0 < p1 from q2298)).1 (by decide) (by decide) ?_
      refine XS.iloadN X0.here hx rfl (hb hby dj29_65_9) rfl ?_
      show Sg p e below (s₁.setTop (mkF m 10 #[sI p0, sI p1] [(.int p1)])) _
      exact retI X0 hx Bd.returns (hb hby dj29_65_10) hr2299
    · show Q_max p0 p1 h0 n0 _ s₁.heap _
      rw [e0]
      exact ⟨_, rfl, N0, rfl, ((if_pos q2298).trans (rfl)).symm⟩
  · skip
    obtain ⟨fs2300, hr2300, hrun2300, hended2300, hW2300, hsame2300⟩ := X0.leave (v := some (.int p0)) (fun h => by rw [Bd.returns] at h; cases h)
    refine ⟨_, _, pre0 _ (P0 _ ?_), hrun2300, hended2300, _, _, rfl, ?_, ⟨⟨_, rfl⟩, hW2300, hsame2300.mono (Nat.le_of_ble_eq_true rfl) (Nat.le_of_ble_eq_true rfl)⟩⟩
    · refine XS.iloadN X0.here hx rfl (hb hby dj29_65_0) rfl ?_
      show Sg p e below (s₁.setTop (mkF m 1 #[sI p0, sI p1] [(.int p0)])) _
      refine XS.iloadN X0.here hx rfl (hb hby dj29_65_1) rfl ?_
      refine XS.icmpNo X0.here hx rfl (hb hby dj29_65_2) rfl (flt (show ¬ (p0 < p1) from q2298)).1 ?_
      refine XS.iloadN X0.here hx rfl (hb hby dj29_65_5) rfl ?_
      refine XS.goto X0.here hx rfl (pc0 := 6) (pc' := 10) rfl (hb hby dj29_65_6) (by decide) (by decide) ?_
      show Sg p e below (s₁.setTop (mkF m 10 #[sI p0, sI p1] [(.int p0)])) _
      exact retI X0 hx Bd.returns (hb hby dj29_65_10) hr2300
    · show Q_max p0 p1 h0 n0 _ s₁.heap _
      rw [e0]
      exact ⟨_, rfl, N0, rfl, ((if_neg q2298).trans (rfl)).symm⟩
theorem d_method_2_code_0 : decode method_2_code 0 = .ok (.iload 4, 2) := by decide +kernel
theorem d_method_2_code_2 : decode method_2_code 2 = .ok (.ifCond .ne 5, 3) := by decide +kernel
theorem d_method_2_code_5 : decode method_2_code 5 = .ok (.iconst 0, 1) := by decide +kernel
theorem d_method_2_code_6 : decode method_2_code 6 = .ok (.ireturn, 1) := by decide +kernel
theorem d_method_2_code_7 : decode method_2_code 7 = .ok (.iload 5, 2) := by decide +kernel
theorem d_method_2_code_9 : decode method_2_code 9 = .ok (.ifCond .eq 15, 3) := by decide +kernel
theorem d_method_2_code_24 : decode method_2_code 24 = .ok (.iload 6, 2) := by decide +kernel
theorem d_method_2_code_26 : decode method_2_code 26 = .ok (.ifCond .eq 10, 3) := by decide +kernel
theorem d_method_2_code_36 : decode method_2_code 36 = .ok (.iconst 1, 1) := by decide +kernel
theorem d_method_2_code_37 : decode method_2_code 37 = .ok (.ireturn, 1) := by decide +kernel
theorem d_method_2_code_29 : decode method_2_code 29 = .ok (.iload_n 0, 1) := by decide +kernel
theorem d_method_2_code_30 : decode method_2_code 30 = .ok (.iload_n 3, 1) := by decide +kernel
theorem d_method_2_code_31 : decode method_2_code 31 = .ok (.if_icmp .ne 5, 3) := by decide +kernel
theorem d_method_2_code_34 : decode method_2_code 34 = .ok (.iconst 0, 1) := by decide +kernel
theorem d_method_2_code_35 : decode method_2_code 35 = .ok (.ireturn, 1) := by decide +kernel
theorem d_method_2_code_12 : decode method_2_code 12 = .ok (.iload_n 0, 1) := by decide +kernel
theorem d_method_2_code_13 : decode method_2_code 13 = .ok (.iload_n 1, 1) := by decide +kernel
theorem d_method_2_code_14 : decode method_2_code 14 = .ok (.if_icmp .eq 10, 3) := by decide +kernel
theorem d_method_2_code_17 : decode method_2_code 17 = .ok (.iload_n 0, 1) := by decide +kernel
theorem d_method_2_code_18 : decode method_2_code 18 = .ok (.iload_n 2, 1) := by decide +kernel
theorem d_method_2_code_19 : decode method_2_code 19 = .ok (.if_icmp .eq 5, 3) := by decide +kernel
theorem d_method_2_code_22 : decode method_2_code 22 = .ok (.iconst 0, 1) := by decide +kernel
theorem d_method_2_code_23 : decode method_2_code 23 = .ok (.ireturn, 1) := by decide +kernel
theorem pn_com_example_whittle_whittle_engine_WordSetsIsEmptyPinLaw : plainName "com/example/whittle/whittle/engine/WordSetsIsEmptyPinLaw" = true := by first | (simp [plainName, overriddenIn]; done) | decide +kernel
theorem ef_svv (m : MethodId) (x0 : Int32) (x1 : Int32) (x2 : Int32) (x3 : Int32) (x4 : Int32) (x5 : Int32) (x6 : Int32) : entryFrame m #[(.int x0), (.int x1), (.int x2), (.int x3), (.int x4), (.int x5), (.int x6)] 7 = mkF m 0 #[sI x0, sI x1, sI x2, sI x3, sI x4, sI x5, sI x6] [] := by (first | (simp [entryFrame, mkF, argsToLocals, Value.category]; done) | rfl)
def Q_svv (p0 p1 p2 p3 p4 p5 p6 : Int32) (h0 : Heap) (n0 : Nat) (v : Option Value) (h : Heap) (L : List Loc) : Prop := ∃ r : Int32, v = some (.int r) ∧ Fr n0 L ∧ h = h0 ∧ r = own_sv p0 p1 p2 p3 p4 p5 p6
set_option maxRecDepth 65536 in
set_option maxHeartbeats 40000000 in
theorem rm_svv (l : Launch) (Z : State) (a0 : Array Value) (hw : ∀ d ∈ tables_1, d.before a0 Z = true) (ws : List Jvm.Cond) (p0 p1 p2 p3 p4 p5 p6 : Int32) (h0 : Heap) (n0 : Nat) (Z0 : n0 ≤ h0.size)  :
    MetFree l (⟨"com/example/whittle/whittle/engine/WordSetsIsEmptyPinLaw", "survives", "(IIIIZZZ)Z"⟩ : MethodName) (head1 (Jvm.Cond.code (⟨"com/example/whittle/whittle/engine/WordSetsIsEmptyPinLaw", "survives", "(IIIIZZZ)Z"⟩ : MethodName) method_2_code 7 (some .boolean) :: ws) ({ frames := 0, cells := 0, slots := 0, locals := 0 } : Room)) (fun a U => a = #[(.int p0), (.int p1), (.int p2), (.int p3), (.int p4), (.int p5), (.int p6)] ∧ Z.Warmed39 U.vm ∧ U.heap = h0) (fun _ _ _ _ _ => True) (fun _ U o U' => ∃ v L, o = .returned v ∧ Q_svv p0 p1 p2 p3 p4 p5 p6 h0 n0 v U'.heap L ∧ FrameEnd U o U' L ({ frames := 0, cells := 0, slots := 0, locals := 0 } : Room).cells ({ frames := 0, cells := 0, slots := 0, locals := 0 } : Room).slots) := by
  refine MetFree.of_bodySF (plainFor_of_name pn_com_example_whittle_whittle_engine_WordSetsIsEmptyPinLaw) hisR ?_
  intro p e s m args below meth c s₁ Bd hml0 hP hK
  obtain ⟨rfl, hZ, hh⟩ := hP
  have hx := Bd.exec
  have hby := Bd.bytes
  have hml : c.maxLocals = 7 := hml0
  have hown : s.vm.findClass "com/example/whittle/whittle/engine/WordSetsIsEmptyPinLaw" = some m.cls := findClass_of_methodNamed Bd.named
  have hnm := (name_of_methodNamed Bd.named Bd.method).1
  have X0 : Stand p l e ({ frames := 0, cells := 0, slots := 0, locals := 0 } : Room) s m #[(.int p0), (.int p1), (.int p2), (.int p3), (.int p4), (.int p5), (.int p6)] below meth c s₁ [] 0 0 := Stand.of_body Bd
  have e0 : s₁.heap = h0 := by rw [← hh, Bd.state]; rfl
  have N0 := Fr.nil n0
  have pre0 : ∀ t, Sg p e below (s₁.setTop (mkF m 0 #[sI p0, sI p1, sI p2, sI p3, sI p4, sI p5, sI p6] [])) t → Steps p.tables e below (s₁.setTop (entryFrame m #[(.int p0), (.int p1), (.int p2), (.int p3), (.int p4), (.int p5), (.int p6)] 7)) t := fun t k => castTop (ef_svv m p0 p1 p2 p3 p4 p5 p6) k
  have P0 : ∀ t, Sg p e below (s₁.setTop (mkF m 0 #[sI p0, sI p1, sI p2, sI p3, sI p4, sI p5, sI p6] [])) t → Sg p e below (s₁.setTop (mkF m 0 #[sI p0, sI p1, sI p2, sI p3, sI p4, sI p5, sI p6] [])) t := fun t k => k
  obtain ⟨B0, pre0, P0⟩ : ∃ B : State, (∀ t, Steps p.tables e below B t → Steps p.tables e below (s₁.setTop (entryFrame m #[(.int p0), (.int p1), (.int p2), (.int p3), (.int p4), (.int p5), (.int p6)] 7)) t) ∧ Rg p e below (s₁.setTop (mkF m 0 #[sI p0, sI p1, sI p2, sI p3, sI p4, sI p5, sI p6] [])) B := ⟨_, pre0, P0⟩
  by_cases q2301 : p4 = (0 : Int32)
  · skip
    obtain ⟨fs2302, hr2302, hrun2302, hended2302, hW2302, hsame2302⟩ := X0.leave (v := some (.int (0 : Int32))) (fun h => by rw [Bd.returns] at h; cases h)
    refine ⟨_, _, pre0 _ (P0 _ ?_), hrun2302, hended2302, _, _, rfl, ?_, ⟨⟨_, rfl⟩, hW2302, hsame2302.mono (Nat.le_of_ble_eq_true rfl) (Nat.le_of_ble_eq_true rfl)⟩⟩
    · refine XS.iload X0.here hx rfl (hb hby d_method_2_code_0) rfl ?_
      show Sg p e below (s₁.setTop (mkF m 2 #[sI p0, sI p1, sI p2, sI p3, sI p4, sI p5, sI p6] [(.int p4)])) _
      refine XS.ifNo X0.here hx rfl (hb hby d_method_2_code_2) rfl ((if0 _ _).trans (teq (show p4 = (0 : Int32) from q2301)).2) ?_
      refine XS.iconst X0.here hx rfl (hb hby d_method_2_code_5) ?_
      show Sg p e below (s₁.setTop (mkF m 6 #[sI p0, sI p1, sI p2, sI p3, sI p4, sI p5, sI p6] [(.int (0 : Int32))])) _
      exact retN X0 hx (t := .boolean) Bd.returns (by simp) (hb hby d_method_2_code_6) hr2302
    · show Q_svv p0 p1 p2 p3 p4 p5 p6 h0 n0 _ s₁.heap _
      rw [e0]
      exact ⟨_, rfl, N0, rfl, ((if_pos q2301).trans (rfl)).symm⟩
  · skip
    have P2303 : Rg p e below (s₁.setTop (mkF m 9 #[sI p0, sI p1, sI p2, sI p3, sI p4, sI p5, sI p6] [(.int p5)])) B0 := fun t k => P0 t (by
      refine XS.iload X0.here hx rfl (hb hby d_method_2_code_0) rfl ?_
      refine XS.ifYes X0.here hx rfl (pc0 := 2) (pc' := 7) rfl (hb hby d_method_2_code_2) rfl ((if0 _ _).trans (feq (show ¬ (p4 = (0 : Int32)) from q2301)).2) (by decide) (by decide) ?_
      refine XS.iload X0.here hx rfl (hb hby d_method_2_code_7) rfl ?_
      show Sg p e below (s₁.setTop (mkF m 9 #[sI p0, sI p1, sI p2, sI p3, sI p4, sI p5, sI p6] [(.int p5)])) _
      exact k)
    by_cases q2304 : p5 = (0 : Int32)
    · skip
      by_cases q2305 : p6 = (0 : Int32)
      · skip
        obtain ⟨fs2306, hr2306, hrun2306, hended2306, hW2306, hsame2306⟩ := X0.leave (v := some (.int (1 : Int32))) (fun h => by rw [Bd.returns] at h; cases h)
        refine ⟨_, _, pre0 _ (P2303 _ ?_), hrun2306, hended2306, _, _, rfl, ?_, ⟨⟨_, rfl⟩, hW2306, hsame2306.mono (Nat.le_of_ble_eq_true rfl) (Nat.le_of_ble_eq_true rfl)⟩⟩
        · show Sg p e below (s₁.setTop (mkF m 9 #[sI p0, sI p1, sI p2, sI p3, sI p4, sI p5, sI p6] [(.int p5)])) _
          refine XS.ifYes X0.here hx rfl (pc0 := 9) (pc' := 24) rfl (hb hby d_method_2_code_9) rfl ((if0 _ _).trans (teq (show p5 = (0 : Int32) from q2304)).1) (by decide) (by decide) ?_
          refine XS.iload X0.here hx rfl (hb hby d_method_2_code_24) rfl ?_
          refine XS.ifYes X0.here hx rfl (pc0 := 26) (pc' := 36) rfl (hb hby d_method_2_code_26) rfl ((if0 _ _).trans (teq (show p6 = (0 : Int32) from q2305)).1) (by decide) (by decide) ?_
          refine XS.iconst X0.here hx rfl (hb hby d_method_2_code_36) ?_
          show Sg p e below (s₁.setTop (mkF m 37 #[sI p0, sI p1, sI p2, sI p3, sI p4, sI p5, sI p6] [(.int (1 : Int32))])) _
          exact retN X0 hx (t := .boolean) Bd.returns (by simp) (hb hby d_method_2_code_37) hr2306
        · show Q_svv p0 p1 p2 p3 p4 p5 p6 h0 n0 _ s₁.heap _
          rw [e0]
          exact ⟨_, rfl, N0, rfl, ((if_neg q2301).trans ((if_pos q2304).trans ((if_pos q2305).trans (rfl)))).symm⟩
      · skip
        have P2307 : Rg p e below (s₁.setTop (mkF m 31 #[sI p0, sI p1, sI p2, sI p3, sI p4, sI p5, sI p6] [(.int p3), (.int p0)])) B0 := fun t k => P2303 t (by
          refine XS.ifYes X0.here hx rfl (pc0 := 9) (pc' := 24) rfl (hb hby d_method_2_code_9) rfl ((if0 _ _).trans (teq (show p5 = (0 : Int32) from q2304)).1) (by decide) (by decide) ?_
          refine XS.iload X0.here hx rfl (hb hby d_method_2_code_24) rfl ?_
          refine XS.ifNo X0.here hx rfl (hb hby d_method_2_code_26) rfl ((if0 _ _).trans (feq (show ¬ (p6 = (0 : Int32)) from q2305)).1) ?_
          refine XS.iloadN X0.here hx rfl (hb hby d_method_2_code_29) rfl ?_
          refine XS.iloadN X0.here hx rfl (hb hby d_method_2_code_30) rfl ?_
          show Sg p e below (s₁.setTop (mkF m 31 #[sI p0, sI p1, sI p2, sI p3, sI p4, sI p5, sI p6] [(.int p3), (.int p0)])) _
          exact k)
        by_cases q2308 : p0 = p3
        · skip
          obtain ⟨fs2309, hr2309, hrun2309, hended2309, hW2309, hsame2309⟩ := X0.leave (v := some (.int (0 : Int32))) (fun h => by rw [Bd.returns] at h; cases h)
          refine ⟨_, _, pre0 _ (P2307 _ ?_), hrun2309, hended2309, _, _, rfl, ?_, ⟨⟨_, rfl⟩, hW2309, hsame2309.mono (Nat.le_of_ble_eq_true rfl) (Nat.le_of_ble_eq_true rfl)⟩⟩
          · show Sg p e below (s₁.setTop (mkF m 31 #[sI p0, sI p1, sI p2, sI p3, sI p4, sI p5, sI p6] [(.int p3), (.int p0)])) _
            refine XS.icmpNo X0.here hx rfl (hb hby d_method_2_code_31) rfl (teq (show p0 = p3 from q2308)).2 ?_
            refine XS.iconst X0.here hx rfl (hb hby d_method_2_code_34) ?_
            show Sg p e below (s₁.setTop (mkF m 35 #[sI p0, sI p1, sI p2, sI p3, sI p4, sI p5, sI p6] [(.int (0 : Int32))])) _
            exact retN X0 hx (t := .boolean) Bd.returns (by simp) (hb hby d_method_2_code_35) hr2309
          · show Q_svv p0 p1 p2 p3 p4 p5 p6 h0 n0 _ s₁.heap _
            rw [e0]
            exact ⟨_, rfl, N0, rfl, ((if_neg q2301).trans ((if_pos q2304).trans ((if_neg q2305).trans ((if_pos q2308).trans (rfl))))).symm⟩
        · skip
          obtain ⟨fs2310, hr2310, hrun2310, hended2310, hW2310, hsame2310⟩ := X0.leave (v := some (.int (1 : Int32))) (fun h => by rw [Bd.returns] at h; cases h)
          refine ⟨_, _, pre0 _ (P2307 _ ?_), hrun2310, hended2310, _, _, rfl, ?_, ⟨⟨_, rfl⟩, hW2310, hsame2310.mono (Nat.le_of_ble_eq_true rfl) (Nat.le_of_ble_eq_true rfl)⟩⟩
          · show Sg p e below (s₁.setTop (mkF m 31 #[sI p0, sI p1, sI p2, sI p3, sI p4, sI p5, sI p6] [(.int p3), (.int p0)])) _
            refine XS.icmpYes X0.here hx rfl (pc0 := 31) (pc' := 36) rfl (hb hby d_method_2_code_31) rfl (feq (show ¬ (p0 = p3) from q2308)).2 (by decide) (by decide) ?_
            refine XS.iconst X0.here hx rfl (hb hby d_method_2_code_36) ?_
            show Sg p e below (s₁.setTop (mkF m 37 #[sI p0, sI p1, sI p2, sI p3, sI p4, sI p5, sI p6] [(.int (1 : Int32))])) _
            exact retN X0 hx (t := .boolean) Bd.returns (by simp) (hb hby d_method_2_code_37) hr2310
          · show Q_svv p0 p1 p2 p3 p4 p5 p6 h0 n0 _ s₁.heap _
            rw [e0]
            exact ⟨_, rfl, N0, rfl, ((if_neg q2301).trans ((if_pos q2304).trans ((if_neg q2305).trans ((if_neg q2308).trans (rfl))))).symm⟩
    · skip
      have P2311 : Rg p e below (s₁.setTop (mkF m 14 #[sI p0, sI p1, sI p2, sI p3, sI p4, sI p5, sI p6] [(.int p1), (.int p0)])) B0 := fun t k => P2303 t (by
        refine XS.ifNo X0.here hx rfl (hb hby d_method_2_code_9) rfl ((if0 _ _).trans (feq (show ¬ (p5 = (0 : Int32)) from q2304)).1) ?_
        refine XS.iloadN X0.here hx rfl (hb hby d_method_2_code_12) rfl ?_
        refine XS.iloadN X0.here hx rfl (hb hby d_method_2_code_13) rfl ?_
        show Sg p e below (s₁.setTop (mkF m 14 #[sI p0, sI p1, sI p2, sI p3, sI p4, sI p5, sI p6] [(.int p1), (.int p0)])) _
        exact k)
      by_cases q2312 : p0 = p1
      · skip
        by_cases q2313 : p6 = (0 : Int32)
        · skip
          obtain ⟨fs2314, hr2314, hrun2314, hended2314, hW2314, hsame2314⟩ := X0.leave (v := some (.int (1 : Int32))) (fun h => by rw [Bd.returns] at h; cases h)
          refine ⟨_, _, pre0 _ (P2311 _ ?_), hrun2314, hended2314, _, _, rfl, ?_, ⟨⟨_, rfl⟩, hW2314, hsame2314.mono (Nat.le_of_ble_eq_true rfl) (Nat.le_of_ble_eq_true rfl)⟩⟩
          · show Sg p e below (s₁.setTop (mkF m 14 #[sI p0, sI p1, sI p2, sI p3, sI p4, sI p5, sI p6] [(.int p1), (.int p0)])) _
            refine XS.icmpYes X0.here hx rfl (pc0 := 14) (pc' := 24) rfl (hb hby d_method_2_code_14) rfl (teq (show p0 = p1 from q2312)).1 (by decide) (by decide) ?_
            refine XS.iload X0.here hx rfl (hb hby d_method_2_code_24) rfl ?_
            refine XS.ifYes X0.here hx rfl (pc0 := 26) (pc' := 36) rfl (hb hby d_method_2_code_26) rfl ((if0 _ _).trans (teq (show p6 = (0 : Int32) from q2313)).1) (by decide) (by decide) ?_
            refine XS.iconst X0.here hx rfl (hb hby d_method_2_code_36) ?_
            show Sg p e below (s₁.setTop (mkF m 37 #[sI p0, sI p1, sI p2, sI p3, sI p4, sI p5, sI p6] [(.int (1 : Int32))])) _
            exact retN X0 hx (t := .boolean) Bd.returns (by simp) (hb hby d_method_2_code_37) hr2314
          · show Q_svv p0 p1 p2 p3 p4 p5 p6 h0 n0 _ s₁.heap _
            rw [e0]
            exact ⟨_, rfl, N0, rfl, ((if_neg q2301).trans ((if_neg q2304).trans ((if_pos q2312).trans ((if_pos q2313).trans (rfl))))).symm⟩
        · skip
          have P2315 : Rg p e below (s₁.setTop (mkF m 31 #[sI p0, sI p1, sI p2, sI p3, sI p4, sI p5, sI p6] [(.int p3), (.int p0)])) B0 := fun t k => P2311 t (by
            refine XS.icmpYes X0.here hx rfl (pc0 := 14) (pc' := 24) rfl (hb hby d_method_2_code_14) rfl (teq (show p0 = p1 from q2312)).1 (by decide) (by decide) ?_
            refine XS.iload X0.here hx rfl (hb hby d_method_2_code_24) rfl ?_
            refine XS.ifNo X0.here hx rfl (hb hby d_method_2_code_26) rfl ((if0 _ _).trans (feq (show ¬ (p6 = (0 : Int32)) from q2313)).1) ?_
            refine XS.iloadN X0.here hx rfl (hb hby d_method_2_code_29) rfl ?_
            refine XS.iloadN X0.here hx rfl (hb hby d_method_2_code_30) rfl ?_
            show Sg p e below (s₁.setTop (mkF m 31 #[sI p0, sI p1, sI p2, sI p3, sI p4, sI p5, sI p6] [(.int p3), (.int p0)])) _
            exact k)
          by_cases q2316 : p0 = p3
          · skip
            obtain ⟨fs2317, hr2317, hrun2317, hended2317, hW2317, hsame2317⟩ := X0.leave (v := some (.int (0 : Int32))) (fun h => by rw [Bd.returns] at h; cases h)
            refine ⟨_, _, pre0 _ (P2315 _ ?_), hrun2317, hended2317, _, _, rfl, ?_, ⟨⟨_, rfl⟩, hW2317, hsame2317.mono (Nat.le_of_ble_eq_true rfl) (Nat.le_of_ble_eq_true rfl)⟩⟩
            · show Sg p e below (s₁.setTop (mkF m 31 #[sI p0, sI p1, sI p2, sI p3, sI p4, sI p5, sI p6] [(.int p3), (.int p0)])) _
              refine XS.icmpNo X0.here hx rfl (hb hby d_method_2_code_31) rfl (teq (show p0 = p3 from q2316)).2 ?_
              refine XS.iconst X0.here hx rfl (hb hby d_method_2_code_34) ?_
              show Sg p e below (s₁.setTop (mkF m 35 #[sI p0, sI p1, sI p2, sI p3, sI p4, sI p5, sI p6] [(.int (0 : Int32))])) _
              exact retN X0 hx (t := .boolean) Bd.returns (by simp) (hb hby d_method_2_code_35) hr2317
            · show Q_svv p0 p1 p2 p3 p4 p5 p6 h0 n0 _ s₁.heap _
              rw [e0]
              exact ⟨_, rfl, N0, rfl, ((if_neg q2301).trans ((if_neg q2304).trans ((if_pos q2312).trans ((if_neg q2313).trans ((if_pos q2316).trans (rfl)))))).symm⟩
          · skip
            obtain ⟨fs2318, hr2318, hrun2318, hended2318, hW2318, hsame2318⟩ := X0.leave (v := some (.int (1 : Int32))) (fun h => by rw [Bd.returns] at h; cases h)
            refine ⟨_, _, pre0 _ (P2315 _ ?_), hrun2318, hended2318, _, _, rfl, ?_, ⟨⟨_, rfl⟩, hW2318, hsame2318.mono (Nat.le_of_ble_eq_true rfl) (Nat.le_of_ble_eq_true rfl)⟩⟩
            · show Sg p e below (s₁.setTop (mkF m 31 #[sI p0, sI p1, sI p2, sI p3, sI p4, sI p5, sI p6] [(.int p3), (.int p0)])) _
              refine XS.icmpYes X0.here hx rfl (pc0 := 31) (pc' := 36) rfl (hb hby d_method_2_code_31) rfl (feq (show ¬ (p0 = p3) from q2316)).2 (by decide) (by decide) ?_
              refine XS.iconst X0.here hx rfl (hb hby d_method_2_code_36) ?_
              show Sg p e below (s₁.setTop (mkF m 37 #[sI p0, sI p1, sI p2, sI p3, sI p4, sI p5, sI p6] [(.int (1 : Int32))])) _
              exact retN X0 hx (t := .boolean) Bd.returns (by simp) (hb hby d_method_2_code_37) hr2318
            · show Q_svv p0 p1 p2 p3 p4 p5 p6 h0 n0 _ s₁.heap _
              rw [e0]
              exact ⟨_, rfl, N0, rfl, ((if_neg q2301).trans ((if_neg q2304).trans ((if_pos q2312).trans ((if_neg q2313).trans ((if_neg q2316).trans (rfl)))))).symm⟩
      · skip
        have P2319 : Rg p e below (s₁.setTop (mkF m 19 #[sI p0, sI p1, sI p2, sI p3, sI p4, sI p5, sI p6] [(.int p2), (.int p0)])) B0 := fun t k => P2311 t (by
          refine XS.icmpNo X0.here hx rfl (hb hby d_method_2_code_14) rfl (feq (show ¬ (p0 = p1) from q2312)).1 ?_
          refine XS.iloadN X0.here hx rfl (hb hby d_method_2_code_17) rfl ?_
          refine XS.iloadN X0.here hx rfl (hb hby d_method_2_code_18) rfl ?_
          show Sg p e below (s₁.setTop (mkF m 19 #[sI p0, sI p1, sI p2, sI p3, sI p4, sI p5, sI p6] [(.int p2), (.int p0)])) _
          exact k)
        by_cases q2320 : p0 = p2
        · skip
          by_cases q2321 : p6 = (0 : Int32)
          · skip
            obtain ⟨fs2322, hr2322, hrun2322, hended2322, hW2322, hsame2322⟩ := X0.leave (v := some (.int (1 : Int32))) (fun h => by rw [Bd.returns] at h; cases h)
            refine ⟨_, _, pre0 _ (P2319 _ ?_), hrun2322, hended2322, _, _, rfl, ?_, ⟨⟨_, rfl⟩, hW2322, hsame2322.mono (Nat.le_of_ble_eq_true rfl) (Nat.le_of_ble_eq_true rfl)⟩⟩
            · show Sg p e below (s₁.setTop (mkF m 19 #[sI p0, sI p1, sI p2, sI p3, sI p4, sI p5, sI p6] [(.int p2), (.int p0)])) _
              refine XS.icmpYes X0.here hx rfl (pc0 := 19) (pc' := 24) rfl (hb hby d_method_2_code_19) rfl (teq (show p0 = p2 from q2320)).1 (by decide) (by decide) ?_
              refine XS.iload X0.here hx rfl (hb hby d_method_2_code_24) rfl ?_
              refine XS.ifYes X0.here hx rfl (pc0 := 26) (pc' := 36) rfl (hb hby d_method_2_code_26) rfl ((if0 _ _).trans (teq (show p6 = (0 : Int32) from q2321)).1) (by decide) (by decide) ?_
              refine XS.iconst X0.here hx rfl (hb hby d_method_2_code_36) ?_
              show Sg p e below (s₁.setTop (mkF m 37 #[sI p0, sI p1, sI p2, sI p3, sI p4, sI p5, sI p6] [(.int (1 : Int32))])) _
              exact retN X0 hx (t := .boolean) Bd.returns (by simp) (hb hby d_method_2_code_37) hr2322
            · show Q_svv p0 p1 p2 p3 p4 p5 p6 h0 n0 _ s₁.heap _
              rw [e0]
              exact ⟨_, rfl, N0, rfl, ((if_neg q2301).trans ((if_neg q2304).trans ((if_neg q2312).trans ((if_pos q2320).trans ((if_pos q2321).trans (rfl)))))).symm⟩
          · skip
            have P2323 : Rg p e below (s₁.setTop (mkF m 31 #[sI p0, sI p1, sI p2, sI p3, sI p4, sI p5, sI p6] [(.int p3), (.int p0)])) B0 := fun t k => P2319 t (by
              refine XS.icmpYes X0.here hx rfl (pc0 := 19) (pc' := 24) rfl (hb hby d_method_2_code_19) rfl (teq (show p0 = p2 from q2320)).1 (by decide) (by decide) ?_
              refine XS.iload X0.here hx rfl (hb hby d_method_2_code_24) rfl ?_
              refine XS.ifNo X0.here hx rfl (hb hby d_method_2_code_26) rfl ((if0 _ _).trans (feq (show ¬ (p6 = (0 : Int32)) from q2321)).1) ?_
              refine XS.iloadN X0.here hx rfl (hb hby d_method_2_code_29) rfl ?_
              refine XS.iloadN X0.here hx rfl (hb hby d_method_2_code_30) rfl ?_
              show Sg p e below (s₁.setTop (mkF m 31 #[sI p0, sI p1, sI p2, sI p3, sI p4, sI p5, sI p6] [(.int p3), (.int p0)])) _
              exact k)
            by_cases q2324 : p0 = p3
            · skip
              obtain ⟨fs2325, hr2325, hrun2325, hended2325, hW2325, hsame2325⟩ := X0.leave (v := some (.int (0 : Int32))) (fun h => by rw [Bd.returns] at h; cases h)
              refine ⟨_, _, pre0 _ (P2323 _ ?_), hrun2325, hended2325, _, _, rfl, ?_, ⟨⟨_, rfl⟩, hW2325, hsame2325.mono (Nat.le_of_ble_eq_true rfl) (Nat.le_of_ble_eq_true rfl)⟩⟩
              · show Sg p e below (s₁.setTop (mkF m 31 #[sI p0, sI p1, sI p2, sI p3, sI p4, sI p5, sI p6] [(.int p3), (.int p0)])) _
                refine XS.icmpNo X0.here hx rfl (hb hby d_method_2_code_31) rfl (teq (show p0 = p3 from q2324)).2 ?_
                refine XS.iconst X0.here hx rfl (hb hby d_method_2_code_34) ?_
                show Sg p e below (s₁.setTop (mkF m 35 #[sI p0, sI p1, sI p2, sI p3, sI p4, sI p5, sI p6] [(.int (0 : Int32))])) _
                exact retN X0 hx (t := .boolean) Bd.returns (by simp) (hb hby d_method_2_code_35) hr2325
              · show Q_svv p0 p1 p2 p3 p4 p5 p6 h0 n0 _ s₁.heap _
                rw [e0]
                exact ⟨_, rfl, N0, rfl, ((if_neg q2301).trans ((if_neg q2304).trans ((if_neg q2312).trans ((if_pos q2320).trans ((if_neg q2321).trans ((if_pos q2324).trans (rfl))))))).symm⟩
            · skip
              obtain ⟨fs2326, hr2326, hrun2326, hended2326, hW2326, hsame2326⟩ := X0.leave (v := some (.int (1 : Int32))) (fun h => by rw [Bd.returns] at h; cases h)
              refine ⟨_, _, pre0 _ (P2323 _ ?_), hrun2326, hended2326, _, _, rfl, ?_, ⟨⟨_, rfl⟩, hW2326, hsame2326.mono (Nat.le_of_ble_eq_true rfl) (Nat.le_of_ble_eq_true rfl)⟩⟩
              · show Sg p e below (s₁.setTop (mkF m 31 #[sI p0, sI p1, sI p2, sI p3, sI p4, sI p5, sI p6] [(.int p3), (.int p0)])) _
                refine XS.icmpYes X0.here hx rfl (pc0 := 31) (pc' := 36) rfl (hb hby d_method_2_code_31) rfl (feq (show ¬ (p0 = p3) from q2324)).2 (by decide) (by decide) ?_
                refine XS.iconst X0.here hx rfl (hb hby d_method_2_code_36) ?_
                show Sg p e below (s₁.setTop (mkF m 37 #[sI p0, sI p1, sI p2, sI p3, sI p4, sI p5, sI p6] [(.int (1 : Int32))])) _
                exact retN X0 hx (t := .boolean) Bd.returns (by simp) (hb hby d_method_2_code_37) hr2326
              · show Q_svv p0 p1 p2 p3 p4 p5 p6 h0 n0 _ s₁.heap _
                rw [e0]
                exact ⟨_, rfl, N0, rfl, ((if_neg q2301).trans ((if_neg q2304).trans ((if_neg q2312).trans ((if_pos q2320).trans ((if_neg q2321).trans ((if_neg q2324).trans (rfl))))))).symm⟩
        · skip
          obtain ⟨fs2327, hr2327, hrun2327, hended2327, hW2327, hsame2327⟩ := X0.leave (v := some (.int (0 : Int32))) (fun h => by rw [Bd.returns] at h; cases h)
          refine ⟨_, _, pre0 _ (P2319 _ ?_), hrun2327, hended2327, _, _, rfl, ?_, ⟨⟨_, rfl⟩, hW2327, hsame2327.mono (Nat.le_of_ble_eq_true rfl) (Nat.le_of_ble_eq_true rfl)⟩⟩
          · show Sg p e below (s₁.setTop (mkF m 19 #[sI p0, sI p1, sI p2, sI p3, sI p4, sI p5, sI p6] [(.int p2), (.int p0)])) _
            refine XS.icmpNo X0.here hx rfl (hb hby d_method_2_code_19) rfl (feq (show ¬ (p0 = p2) from q2320)).1 ?_
            refine XS.iconst X0.here hx rfl (hb hby d_method_2_code_22) ?_
            show Sg p e below (s₁.setTop (mkF m 23 #[sI p0, sI p1, sI p2, sI p3, sI p4, sI p5, sI p6] [(.int (0 : Int32))])) _
            exact retN X0 hx (t := .boolean) Bd.returns (by simp) (hb hby d_method_2_code_23) hr2327
          · show Q_svv p0 p1 p2 p3 p4 p5 p6 h0 n0 _ s₁.heap _
            rw [e0]
            exact ⟨_, rfl, N0, rfl, ((if_neg q2301).trans ((if_neg q2304).trans ((if_neg q2312).trans ((if_neg q2320).trans (rfl))))).symm⟩
theorem pd__28IIIIZZZ_29Z : parseMethodDescriptor "(IIIIZZZ)Z" = some ⟨[.int, .int, .int, .int, .boolean, .boolean, .boolean], some .boolean⟩ := by decide +kernel
set_option maxRecDepth 65536 in
set_option maxHeartbeats 40000000 in
theorem pc_exq {p : Program} {l : Launch} {e : Env} {R : Room} {s : State} {m : MethodId} {args : Array Value} {below : List Frame} {meth : Method} {c : Code} {T0 : State} {locs : List Loc} {cells slots : Nat} {Z : State} {a0 : Array Value} {h0 : Heap} {n0 : Nat} (p0 p1 p2 p3 p4 p5 xa xb xc xd xe s1 s2 s3 x4 x5 x6 x7 : Int32) (o1 o2 o3 : Addr) (X0 : Stand p l e R s m args below meth c T0 locs cells slots) (hx : p.tables.exec = Jvm.exec) (hZ : Z.Warmed39 s.vm) (hw : ∀ d ∈ tables_1, d.before a0 Z = true) (hby : c.code = code) (hml : c.maxLocals = 22) (hown : s.vm.findClass "com/example/whittle/whittle/engine/WordSetsIsEmptyPinLaw" = some m.cls) (e0 : T0.heap = h0) (N0 : Fr n0 locs) (Z0 : n0 ≤ h0.size) (hcc : cells + 0 ≤ R.cells) (hcs : slots + 0 ≤ R.slots) (hfr : 1 ≤ R.frames) (hlo : 18 ≤ R.locals)  :
    ∃ (T' : State) (h' : Heap) (locs' : List Loc) (z : Int32), Stand p l e R s m args below meth c T' locs' (cells + 0) (slots + 0) ∧ T'.heap = h' ∧ Fr n0 locs' ∧ Keep h0 h' [] ∧ z = (if own_sv xa xc xd xe s1 s2 s3 = 0 then (if own_sv xb xc xd xe s1 s2 s3 = 0 then (1 : Int32) else (0 : Int32)) else (0 : Int32)) ∧ ∀ t, Sg p e below (T'.setTop (mkF m 252 #[sI p0, sI p1, sI p2, sI p3, sI p4, sI p5, sI xa, sI xb, sI xc, sI xd, sI xe, sI s1, sI s2, sI s3, sI x4, sI x5, sI x6, sI x7, sR o1, sR o2, sR o3, sI z] [])) t → Sg p e below (T0.setTop (mkF m 205 #[sI p0, sI p1, sI p2, sI p3, sI p4, sI p5, sI xa, sI xb, sI xc, sI xd, sI xe, sI s1, sI s2, sI s3, sI x4, sI x5, sI x6, sI x7, sR o1, sR o2, sR o3, sU] [])) t := by
  have P0 : ∀ t, Sg p e below (T0.setTop (mkF m 205 #[sI p0, sI p1, sI p2, sI p3, sI p4, sI p5, sI xa, sI xb, sI xc, sI xd, sI xe, sI s1, sI s2, sI s3, sI x4, sI x5, sI x6, sI x7, sR o1, sR o2, sR o3, sU] [])) t → Sg p e below (T0.setTop (mkF m 205 #[sI p0, sI p1, sI p2, sI p3, sI p4, sI p5, sI xa, sI xb, sI xc, sI xd, sI xe, sI s1, sI s2, sI s3, sI x4, sI x5, sI x6, sI x7, sR o1, sR o2, sR o3, sU] [])) t := fun t k => k
  obtain ⟨_, _, ⟨T2328, L2328, k2328, n2328⟩, -, X2328, ⟨Lc2328, hQ2328, l2328, y2328, z2328⟩, st2328⟩ := Jvm.LawKit.callS X0 hx (y := (⟨"com/example/whittle/whittle/engine/WordSetsIsEmptyPinLaw", "survives", "(IIIIZZZ)Z"⟩ : MethodName)) hown (mvT hZ (own_hw hw 55 rfl)) (mvT hZ (own_hw hw 56 rfl)) (mvT hZ (own_hw hw 57 rfl)) (mvT hZ (own_hw hw 58 rfl)) (by decide) (backOf (W := 0) (rm_svv l Z a0 hw [] xa xc xd xe s1 s2 s3 h0 n0 Z0 ) hZ (own_hw hw 58 rfl) (own_hw hw 57 rfl) (Nat.le_trans (Nat.le_of_ble_eq_true rfl) hfr) (Nat.le_trans (Nat.le_of_ble_eq_true rfl) hlo)) (g := (mkF m 219 #[sI p0, sI p1, sI p2, sI p3, sI p4, sI p5, sI xa, sI xb, sI xc, sI xd, sI xe, sI s1, sI s2, sI s3, sI x4, sI x5, sI x6, sI x7, sR o1, sR o2, sR o3, sU] [(.int s3), (.int s2), (.int s1), (.int xe), (.int xd), (.int xc), (.int xa)])) rfl (by rw [hml]; rfl) (argsL := [(.int xa), (.int xc), (.int xd), (.int xe), (.int s1), (.int s2), (.int s3)]) (rest := []) (lenOf pd__28IIIIZZZ_29Z rfl) rfl (by show 2 * 0 + _ ≤ _; exact Nat.le_of_eq rfl) (hb hby at_219) (fun _ _ => ⟨rfl, e0, (by omega : cells + 0 + 0 ≤ R.cells), (by omega : slots + 0 + 0 ≤ R.slots)⟩)
  dsimp only [Pt.U, Pt.locs, Pt.cells, Pt.slots] at X2328 l2328 y2328 z2328 st2328 hQ2328
  subst l2328
  rw [y2328, z2328] at X2328
  obtain ⟨r2328, rfl, Nq2328, e2328, hr2328⟩ := hQ2328
  have N2329 := Fr.app N0 Nq2328
  have P2330 : ∀ t, Sg p e below (T2328.setTop (mkF m 222 #[sI p0, sI p1, sI p2, sI p3, sI p4, sI p5, sI xa, sI xb, sI xc, sI xd, sI xe, sI s1, sI s2, sI s3, sI x4, sI x5, sI x6, sI x7, sR o1, sR o2, sR o3, sU] [(.int r2328)])) t → Sg p e below (T0.setTop (mkF m 205 #[sI p0, sI p1, sI p2, sI p3, sI p4, sI p5, sI xa, sI xb, sI xc, sI xd, sI xe, sI s1, sI s2, sI s3, sI x4, sI x5, sI x6, sI x7, sR o1, sR o2, sR o3, sU] [])) t := fun t k => P0 t (by
    refine XS.iload X0.here hx rfl (hb hby at_205) rfl ?_
    refine XS.iload X0.here hx rfl (hb hby at_207) rfl ?_
    refine XS.iload X0.here hx rfl (hb hby at_209) rfl ?_
    refine XS.iload X0.here hx rfl (hb hby at_211) rfl ?_
    refine XS.iload X0.here hx rfl (hb hby at_213) rfl ?_
    refine XS.iload X0.here hx rfl (hb hby at_215) rfl ?_
    refine XS.iload X0.here hx rfl (hb hby at_217) rfl ?_
    show Sg p e below (T0.setTop (mkF m 219 #[sI p0, sI p1, sI p2, sI p3, sI p4, sI p5, sI xa, sI xb, sI xc, sI xd, sI xe, sI s1, sI s2, sI s3, sI x4, sI x5, sI x6, sI x7, sR o1, sR o2, sR o3, sU] [(.int s3), (.int s2), (.int s1), (.int xe), (.int xd), (.int xc), (.int xa)])) _
    exact st2328 _ k)
  by_cases q2331 : r2328 = (0 : Int32)
  · skip
    obtain ⟨_, _, ⟨T2332, L2332, k2332, n2332⟩, -, X2332, ⟨Lc2332, hQ2332, l2332, y2332, z2332⟩, st2332⟩ := Jvm.LawKit.callS X2328 hx (y := (⟨"com/example/whittle/whittle/engine/WordSetsIsEmptyPinLaw", "survives", "(IIIIZZZ)Z"⟩ : MethodName)) hown (mvT hZ (own_hw hw 55 rfl)) (mvT hZ (own_hw hw 56 rfl)) (mvT hZ (own_hw hw 57 rfl)) (mvT hZ (own_hw hw 58 rfl)) (by decide) (backOf (W := 0) (rm_svv l Z a0 hw [] xb xc xd xe s1 s2 s3 h0 n0 Z0 ) hZ (own_hw hw 58 rfl) (own_hw hw 57 rfl) (Nat.le_trans (Nat.le_of_ble_eq_true rfl) hfr) (Nat.le_trans (Nat.le_of_ble_eq_true rfl) hlo)) (g := (mkF m 239 #[sI p0, sI p1, sI p2, sI p3, sI p4, sI p5, sI xa, sI xb, sI xc, sI xd, sI xe, sI s1, sI s2, sI s3, sI x4, sI x5, sI x6, sI x7, sR o1, sR o2, sR o3, sU] [(.int s3), (.int s2), (.int s1), (.int xe), (.int xd), (.int xc), (.int xb)])) rfl (by rw [hml]; rfl) (argsL := [(.int xb), (.int xc), (.int xd), (.int xe), (.int s1), (.int s2), (.int s3)]) (rest := []) (lenOf pd__28IIIIZZZ_29Z rfl) rfl (by show 2 * 0 + _ ≤ _; exact Nat.le_of_eq rfl) (hb hby at_239) (fun _ _ => ⟨rfl, e2328, (by omega : cells + 0 + 0 ≤ R.cells), (by omega : slots + 0 + 0 ≤ R.slots)⟩)
    dsimp only [Pt.U, Pt.locs, Pt.cells, Pt.slots] at X2332 l2332 y2332 z2332 st2332 hQ2332
    subst l2332
    rw [y2332, z2332] at X2332
    obtain ⟨r2332, rfl, Nq2332, e2332, hr2332⟩ := hQ2332
    have N2333 := Fr.app N2329 Nq2332
    have P2334 : ∀ t, Sg p e below (T2332.setTop (mkF m 242 #[sI p0, sI p1, sI p2, sI p3, sI p4, sI p5, sI xa, sI xb, sI xc, sI xd, sI xe, sI s1, sI s2, sI s3, sI x4, sI x5, sI x6, sI x7, sR o1, sR o2, sR o3, sU] [(.int r2332)])) t → Sg p e below (T0.setTop (mkF m 205 #[sI p0, sI p1, sI p2, sI p3, sI p4, sI p5, sI xa, sI xb, sI xc, sI xd, sI xe, sI s1, sI s2, sI s3, sI x4, sI x5, sI x6, sI x7, sR o1, sR o2, sR o3, sU] [])) t := fun t k => P2330 t (by
      refine XS.ifNo X2328.here hx rfl (hb hby at_222) rfl ((if0 _ _).trans (teq (show r2328 = (0 : Int32) from q2331)).2) ?_
      refine XS.iload X2328.here hx rfl (hb hby at_225) rfl ?_
      refine XS.iload X2328.here hx rfl (hb hby at_227) rfl ?_
      refine XS.iload X2328.here hx rfl (hb hby at_229) rfl ?_
      refine XS.iload X2328.here hx rfl (hb hby at_231) rfl ?_
      refine XS.iload X2328.here hx rfl (hb hby at_233) rfl ?_
      refine XS.iload X2328.here hx rfl (hb hby at_235) rfl ?_
      refine XS.iload X2328.here hx rfl (hb hby at_237) rfl ?_
      show Sg p e below (T2328.setTop (mkF m 239 #[sI p0, sI p1, sI p2, sI p3, sI p4, sI p5, sI xa, sI xb, sI xc, sI xd, sI xe, sI s1, sI s2, sI s3, sI x4, sI x5, sI x6, sI x7, sR o1, sR o2, sR o3, sU] [(.int s3), (.int s2), (.int s1), (.int xe), (.int xd), (.int xc), (.int xb)])) _
      exact st2332 _ k)
    by_cases q2335 : r2332 = (0 : Int32)
    · skip
      have P2336 : ∀ t, Sg p e below (T2332.setTop (mkF m 252 #[sI p0, sI p1, sI p2, sI p3, sI p4, sI p5, sI xa, sI xb, sI xc, sI xd, sI xe, sI s1, sI s2, sI s3, sI x4, sI x5, sI x6, sI x7, sR o1, sR o2, sR o3, sI 1] [])) t → Sg p e below (T0.setTop (mkF m 205 #[sI p0, sI p1, sI p2, sI p3, sI p4, sI p5, sI xa, sI xb, sI xc, sI xd, sI xe, sI s1, sI s2, sI s3, sI x4, sI x5, sI x6, sI x7, sR o1, sR o2, sR o3, sU] [])) t := fun t k => P2334 t (by
        refine XS.ifNo X2332.here hx rfl (hb hby at_242) rfl ((if0 _ _).trans (teq (show r2332 = (0 : Int32) from q2335)).2) ?_
        refine XS.iconst X2332.here hx rfl (hb hby at_245) ?_
        refine XS.goto X2332.here hx rfl (pc0 := 246) (pc' := 250) rfl (hb hby at_246) (by decide) (by decide) ?_
        refine XS.istore X2332.here hx rfl (hb hby at_250) rfl (l' := #[sI p0, sI p1, sI p2, sI p3, sI p4, sI p5, sI xa, sI xb, sI xc, sI xd, sI xe, sI s1, sI s2, sI s3, sI x4, sI x5, sI x6, sI x7, sR o1, sR o2, sR o3, sI 1]) rfl ?_
        show Sg p e below (T2332.setTop (mkF m 252 #[sI p0, sI p1, sI p2, sI p3, sI p4, sI p5, sI xa, sI xb, sI xc, sI xd, sI xe, sI s1, sI s2, sI s3, sI x4, sI x5, sI x6, sI x7, sR o1, sR o2, sR o3, sI 1] [])) _
        exact k)
      exact ⟨T2332, h0, _, (1 : Int32), X2332.more (by omega) (by omega), e2332, N2333, (Keep.refl h0 []), by rw [← hr2328, if_pos q2331, ← hr2332, if_pos q2335], P2336⟩
    · skip
      have P2337 : ∀ t, Sg p e below (T2332.setTop (mkF m 252 #[sI p0, sI p1, sI p2, sI p3, sI p4, sI p5, sI xa, sI xb, sI xc, sI xd, sI xe, sI s1, sI s2, sI s3, sI x4, sI x5, sI x6, sI x7, sR o1, sR o2, sR o3, sI 0] [])) t → Sg p e below (T0.setTop (mkF m 205 #[sI p0, sI p1, sI p2, sI p3, sI p4, sI p5, sI xa, sI xb, sI xc, sI xd, sI xe, sI s1, sI s2, sI s3, sI x4, sI x5, sI x6, sI x7, sR o1, sR o2, sR o3, sU] [])) t := fun t k => P2334 t (by
        refine XS.ifYes X2332.here hx rfl (pc0 := 242) (pc' := 249) rfl (hb hby at_242) rfl ((if0 _ _).trans (feq (show ¬ (r2332 = (0 : Int32)) from q2335)).2) (by decide) (by decide) ?_
        refine XS.iconst X2332.here hx rfl (hb hby at_249) ?_
        refine XS.istore X2332.here hx rfl (hb hby at_250) rfl (l' := #[sI p0, sI p1, sI p2, sI p3, sI p4, sI p5, sI xa, sI xb, sI xc, sI xd, sI xe, sI s1, sI s2, sI s3, sI x4, sI x5, sI x6, sI x7, sR o1, sR o2, sR o3, sI 0]) rfl ?_
        show Sg p e below (T2332.setTop (mkF m 252 #[sI p0, sI p1, sI p2, sI p3, sI p4, sI p5, sI xa, sI xb, sI xc, sI xd, sI xe, sI s1, sI s2, sI s3, sI x4, sI x5, sI x6, sI x7, sR o1, sR o2, sR o3, sI 0] [])) _
        exact k)
      exact ⟨T2332, h0, _, (0 : Int32), X2332.more (by omega) (by omega), e2332, N2333, (Keep.refl h0 []), by rw [← hr2328, if_pos q2331, ← hr2332, if_neg q2335], P2337⟩
  · skip
    have P2338 : ∀ t, Sg p e below (T2328.setTop (mkF m 252 #[sI p0, sI p1, sI p2, sI p3, sI p4, sI p5, sI xa, sI xb, sI xc, sI xd, sI xe, sI s1, sI s2, sI s3, sI x4, sI x5, sI x6, sI x7, sR o1, sR o2, sR o3, sI 0] [])) t → Sg p e below (T0.setTop (mkF m 205 #[sI p0, sI p1, sI p2, sI p3, sI p4, sI p5, sI xa, sI xb, sI xc, sI xd, sI xe, sI s1, sI s2, sI s3, sI x4, sI x5, sI x6, sI x7, sR o1, sR o2, sR o3, sU] [])) t := fun t k => P2330 t (by
      refine XS.ifYes X2328.here hx rfl (pc0 := 222) (pc' := 249) rfl (hb hby at_222) rfl ((if0 _ _).trans (feq (show ¬ (r2328 = (0 : Int32)) from q2331)).2) (by decide) (by decide) ?_
      refine XS.iconst X2328.here hx rfl (hb hby at_249) ?_
      refine XS.istore X2328.here hx rfl (hb hby at_250) rfl (l' := #[sI p0, sI p1, sI p2, sI p3, sI p4, sI p5, sI xa, sI xb, sI xc, sI xd, sI xe, sI s1, sI s2, sI s3, sI x4, sI x5, sI x6, sI x7, sR o1, sR o2, sR o3, sI 0]) rfl ?_
      show Sg p e below (T2328.setTop (mkF m 252 #[sI p0, sI p1, sI p2, sI p3, sI p4, sI p5, sI xa, sI xb, sI xc, sI xd, sI xe, sI s1, sI s2, sI s3, sI x4, sI x5, sI x6, sI x7, sR o1, sR o2, sR o3, sI 0] [])) _
      exact k)
    exact ⟨T2328, h0, _, (0 : Int32), X2328.more (by omega) (by omega), e2328, N2329, (Keep.refl h0 []), by rw [← hr2328, if_neg q2331], P2338⟩
theorem pd__28II_29I : parseMethodDescriptor "(II)I" = some ⟨[.int, .int], some .int⟩ := by decide +kernel
theorem pd__28_5b_5bI_29V : parseMethodDescriptor "([[I)V" = some ⟨[(.array (.array .int))], none⟩ := by decide +kernel
theorem pd__28_29V : parseMethodDescriptor "()V" = some ⟨[], none⟩ := by decide +kernel
theorem pd__28_29Z : parseMethodDescriptor "()Z" = some ⟨[], some .boolean⟩ := by decide +kernel
theorem pd__28I_29V : parseMethodDescriptor "(I)V" = some ⟨[.int], none⟩ := by decide +kernel
theorem pd__28Lcom_2fexample_2fwhittle_2fwhittle_2fengine_2fWordSets_3bI_29V : parseMethodDescriptor "(Lcom/example/whittle/whittle/engine/WordSets;I)V" = some ⟨[(.object sW), .int], none⟩ := by decide +kernel
theorem ef_law (m : MethodId) (x0 : Int32) (x1 : Int32) (x2 : Int32) (x3 : Int32) (x4 : Int32) (x5 : Int32) : entryFrame m #[(.int x0), (.int x1), (.int x2), (.int x3), (.int x4), (.int x5)] maxLocals = mkF m 0 #[sI x0, sI x1, sI x2, sI x3, sI x4, sI x5, sU, sU, sU, sU, sU, sU, sU, sU, sU, sU, sU, sU, sU, sU, sU, sU] [] := by (first | (simp [entryFrame, mkF, argsToLocals, Value.category, maxLocals]; done) | rfl)
def Q_law  (h0 : Heap) (n0 : Nat) (v : Option Value) (h : Heap) (L : List Loc) : Prop := v = some (.int 1) ∧ Fr n0 L
set_option maxRecDepth 65536 in
set_option maxHeartbeats 40000000 in
theorem rm_law (l : Launch) (Z : State) (a0 : Array Value) (hw : ∀ d ∈ tables_1, d.before a0 Z = true) (ws : List Jvm.Cond) (p0 p1 p2 p3 p4 p5 : Int32) (h0 : Heap) (n0 : Nat) (Z0 : n0 ≤ h0.size) (Ol : Old Z n0 h0) :
    MetFree l x (head1 (Jvm.Cond.code x code maxLocals ret :: ws) room_1) (fun a U => a = #[(.int p0), (.int p1), (.int p2), (.int p3), (.int p4), (.int p5)] ∧ Z.Warmed39 U.vm ∧ U.heap = h0) (fun _ _ _ _ _ => True) (fun _ U o U' => ∃ v L, o = .returned v ∧ Q_law  h0 n0 v U'.heap L ∧ FrameEnd U o U' L 40 128) := by
  refine MetFree.of_bodySF (plainFor_of_name pn_com_example_whittle_whittle_engine_WordSetsIsEmptyPinLaw) hisR ?_
  intro p e s m args below meth c s₁ Bd hml0 hP hK
  obtain ⟨rfl, hZ, hh⟩ := hP
  have hx := Bd.exec
  have hby := Bd.bytes
  have hml : c.maxLocals = 22 := hml0
  have hown : s.vm.findClass "com/example/whittle/whittle/engine/WordSetsIsEmptyPinLaw" = some m.cls := findClass_of_methodNamed Bd.named
  have hnm := (name_of_methodNamed Bd.named Bd.method).1
  have X0 : Stand p l e room_1 s m #[(.int p0), (.int p1), (.int p2), (.int p3), (.int p4), (.int p5)] below meth c s₁ [] 0 0 := Stand.of_body Bd
  have e0 : s₁.heap = h0 := by rw [← hh, Bd.state]; rfl
  have N0 := Fr.nil n0
  have pre0 : ∀ t, Sg p e below (s₁.setTop (mkF m 0 #[sI p0, sI p1, sI p2, sI p3, sI p4, sI p5, sU, sU, sU, sU, sU, sU, sU, sU, sU, sU, sU, sU, sU, sU, sU, sU] [])) t → Steps p.tables e below (s₁.setTop (entryFrame m #[(.int p0), (.int p1), (.int p2), (.int p3), (.int p4), (.int p5)] maxLocals)) t := fun t k => castTop (ef_law m p0 p1 p2 p3 p4 p5) k
  have P0 : ∀ t, Sg p e below (s₁.setTop (mkF m 0 #[sI p0, sI p1, sI p2, sI p3, sI p4, sI p5, sU, sU, sU, sU, sU, sU, sU, sU, sU, sU, sU, sU, sU, sU, sU, sU] [])) t → Sg p e below (s₁.setTop (mkF m 0 #[sI p0, sI p1, sI p2, sI p3, sI p4, sI p5, sU, sU, sU, sU, sU, sU, sU, sU, sU, sU, sU, sU, sU, sU, sU, sU] [])) t := fun t k => k
  obtain ⟨B0, pre0, P0⟩ : ∃ B : State, (∀ t, Steps p.tables e below B t → Steps p.tables e below (s₁.setTop (entryFrame m #[(.int p0), (.int p1), (.int p2), (.int p3), (.int p4), (.int p5)] maxLocals)) t) ∧ Rg p e below (s₁.setTop (mkF m 0 #[sI p0, sI p1, sI p2, sI p3, sI p4, sI p5, sU, sU, sU, sU, sU, sU, sU, sU, sU, sU, sU, sU, sU, sU, sU, sU] [])) B := ⟨_, pre0, P0⟩
  obtain ⟨a, eq_a⟩ : ∃ z : Int32, z = (p0 &&& (2147483647 : Int32)) := ⟨_, rfl⟩
  have P2339 : Rg p e below (s₁.setTop (mkF m 6 #[sI p0, sI p1, sI p2, sI p3, sI p4, sI p5, .val (.int (p0 &&& (2147483647 : Int32))), sU, sU, sU, sU, sU, sU, sU, sU, sU, sU, sU, sU, sU, sU, sU] [])) B0 := fun t k => P0 t (by
    refine XS.iloadN X0.here hx rfl (hb hby at_0) rfl ?_
    show Sg p e below (s₁.setTop (mkF m 1 #[sI p0, sI p1, sI p2, sI p3, sI p4, sI p5, sU, sU, sU, sU, sU, sU, sU, sU, sU, sU, sU, sU, sU, sU, sU, sU] [(.int p0)])) _
    refine X0.ldcInt hx hown (mvT hZ (own_hw hw 0 rfl)) (g := (mkF m 1 #[sI p0, sI p1, sI p2, sI p3, sI p4, sI p5, sU, sU, sU, sU, sU, sU, sU, sU, sU, sU, sU, sU, sU, sU, sU, sU] [(.int p0)])) rfl (hb hby at_1) _ ?_
    show Sg p e below (s₁.setTop (mkF m 3 #[sI p0, sI p1, sI p2, sI p3, sI p4, sI p5, sU, sU, sU, sU, sU, sU, sU, sU, sU, sU, sU, sU, sU, sU, sU, sU] [(.int (2147483647 : Int32)), (.int p0)])) _
    refine XS.iand X0.here hx rfl (hb hby at_3) rfl ?_
    refine XS.istore X0.here hx rfl (hb hby at_4) rfl (l' := #[sI p0, sI p1, sI p2, sI p3, sI p4, sI p5, .val (.int (p0 &&& (2147483647 : Int32))), sU, sU, sU, sU, sU, sU, sU, sU, sU, sU, sU, sU, sU, sU, sU]) rfl ?_
    show Sg p e below (s₁.setTop (mkF m 6 #[sI p0, sI p1, sI p2, sI p3, sI p4, sI p5, .val (.int (p0 &&& (2147483647 : Int32))), sU, sU, sU, sU, sU, sU, sU, sU, sU, sU, sU, sU, sU, sU, sU] [])) _
    exact k)
  have P2340 : Rg p e below (s₁.setTop (mkF m 6 #[sI p0, sI p1, sI p2, sI p3, sI p4, sI p5, sI a, sU, sU, sU, sU, sU, sU, sU, sU, sU, sU, sU, sU, sU, sU, sU] [])) B0 := fun t k => P2339 t (by rw [eq_a] at k; exact k)
  have nn_a : 0 ≤ a := by rw [eq_a]; exact own_nn _
  obtain ⟨b, eq_b⟩ : ∃ z : Int32, z = (p1 &&& (2147483647 : Int32)) := ⟨_, rfl⟩
  have P2341 : Rg p e below (s₁.setTop (mkF m 12 #[sI p0, sI p1, sI p2, sI p3, sI p4, sI p5, sI a, .val (.int (p1 &&& (2147483647 : Int32))), sU, sU, sU, sU, sU, sU, sU, sU, sU, sU, sU, sU, sU, sU] [])) B0 := fun t k => P2340 t (by
    refine XS.iloadN X0.here hx rfl (hb hby at_6) rfl ?_
    show Sg p e below (s₁.setTop (mkF m 7 #[sI p0, sI p1, sI p2, sI p3, sI p4, sI p5, sI a, sU, sU, sU, sU, sU, sU, sU, sU, sU, sU, sU, sU, sU, sU, sU] [(.int p1)])) _
    refine X0.ldcInt hx hown (mvT hZ (own_hw hw 0 rfl)) (g := (mkF m 7 #[sI p0, sI p1, sI p2, sI p3, sI p4, sI p5, sI a, sU, sU, sU, sU, sU, sU, sU, sU, sU, sU, sU, sU, sU, sU, sU] [(.int p1)])) rfl (hb hby at_7) _ ?_
    show Sg p e below (s₁.setTop (mkF m 9 #[sI p0, sI p1, sI p2, sI p3, sI p4, sI p5, sI a, sU, sU, sU, sU, sU, sU, sU, sU, sU, sU, sU, sU, sU, sU, sU] [(.int (2147483647 : Int32)), (.int p1)])) _
    refine XS.iand X0.here hx rfl (hb hby at_9) rfl ?_
    refine XS.istore X0.here hx rfl (hb hby at_10) rfl (l' := #[sI p0, sI p1, sI p2, sI p3, sI p4, sI p5, sI a, .val (.int (p1 &&& (2147483647 : Int32))), sU, sU, sU, sU, sU, sU, sU, sU, sU, sU, sU, sU, sU, sU]) rfl ?_
    show Sg p e below (s₁.setTop (mkF m 12 #[sI p0, sI p1, sI p2, sI p3, sI p4, sI p5, sI a, .val (.int (p1 &&& (2147483647 : Int32))), sU, sU, sU, sU, sU, sU, sU, sU, sU, sU, sU, sU, sU, sU] [])) _
    exact k)
  have P2342 : Rg p e below (s₁.setTop (mkF m 12 #[sI p0, sI p1, sI p2, sI p3, sI p4, sI p5, sI a, sI b, sU, sU, sU, sU, sU, sU, sU, sU, sU, sU, sU, sU, sU, sU] [])) B0 := fun t k => P2341 t (by rw [eq_b] at k; exact k)
  have nn_b : 0 ≤ b := by rw [eq_b]; exact own_nn _
  obtain ⟨c, eq_c⟩ : ∃ z : Int32, z = (p2 &&& (2147483647 : Int32)) := ⟨_, rfl⟩
  have P2343 : Rg p e below (s₁.setTop (mkF m 18 #[sI p0, sI p1, sI p2, sI p3, sI p4, sI p5, sI a, sI b, .val (.int (p2 &&& (2147483647 : Int32))), sU, sU, sU, sU, sU, sU, sU, sU, sU, sU, sU, sU, sU] [])) B0 := fun t k => P2342 t (by
    refine XS.iloadN X0.here hx rfl (hb hby at_12) rfl ?_
    show Sg p e below (s₁.setTop (mkF m 13 #[sI p0, sI p1, sI p2, sI p3, sI p4, sI p5, sI a, sI b, sU, sU, sU, sU, sU, sU, sU, sU, sU, sU, sU, sU, sU, sU] [(.int p2)])) _
    refine X0.ldcInt hx hown (mvT hZ (own_hw hw 0 rfl)) (g := (mkF m 13 #[sI p0, sI p1, sI p2, sI p3, sI p4, sI p5, sI a, sI b, sU, sU, sU, sU, sU, sU, sU, sU, sU, sU, sU, sU, sU, sU] [(.int p2)])) rfl (hb hby at_13) _ ?_
    show Sg p e below (s₁.setTop (mkF m 15 #[sI p0, sI p1, sI p2, sI p3, sI p4, sI p5, sI a, sI b, sU, sU, sU, sU, sU, sU, sU, sU, sU, sU, sU, sU, sU, sU] [(.int (2147483647 : Int32)), (.int p2)])) _
    refine XS.iand X0.here hx rfl (hb hby at_15) rfl ?_
    refine XS.istore X0.here hx rfl (hb hby at_16) rfl (l' := #[sI p0, sI p1, sI p2, sI p3, sI p4, sI p5, sI a, sI b, .val (.int (p2 &&& (2147483647 : Int32))), sU, sU, sU, sU, sU, sU, sU, sU, sU, sU, sU, sU, sU]) rfl ?_
    show Sg p e below (s₁.setTop (mkF m 18 #[sI p0, sI p1, sI p2, sI p3, sI p4, sI p5, sI a, sI b, .val (.int (p2 &&& (2147483647 : Int32))), sU, sU, sU, sU, sU, sU, sU, sU, sU, sU, sU, sU, sU] [])) _
    exact k)
  have P2344 : Rg p e below (s₁.setTop (mkF m 18 #[sI p0, sI p1, sI p2, sI p3, sI p4, sI p5, sI a, sI b, sI c, sU, sU, sU, sU, sU, sU, sU, sU, sU, sU, sU, sU, sU] [])) B0 := fun t k => P2343 t (by rw [eq_c] at k; exact k)
  have nn_c : 0 ≤ c := by rw [eq_c]; exact own_nn _
  obtain ⟨d, eq_d⟩ : ∃ z : Int32, z = (p3 &&& (2147483647 : Int32)) := ⟨_, rfl⟩
  have P2345 : Rg p e below (s₁.setTop (mkF m 24 #[sI p0, sI p1, sI p2, sI p3, sI p4, sI p5, sI a, sI b, sI c, .val (.int (p3 &&& (2147483647 : Int32))), sU, sU, sU, sU, sU, sU, sU, sU, sU, sU, sU, sU] [])) B0 := fun t k => P2344 t (by
    refine XS.iloadN X0.here hx rfl (hb hby at_18) rfl ?_
    show Sg p e below (s₁.setTop (mkF m 19 #[sI p0, sI p1, sI p2, sI p3, sI p4, sI p5, sI a, sI b, sI c, sU, sU, sU, sU, sU, sU, sU, sU, sU, sU, sU, sU, sU] [(.int p3)])) _
    refine X0.ldcInt hx hown (mvT hZ (own_hw hw 0 rfl)) (g := (mkF m 19 #[sI p0, sI p1, sI p2, sI p3, sI p4, sI p5, sI a, sI b, sI c, sU, sU, sU, sU, sU, sU, sU, sU, sU, sU, sU, sU, sU] [(.int p3)])) rfl (hb hby at_19) _ ?_
    show Sg p e below (s₁.setTop (mkF m 21 #[sI p0, sI p1, sI p2, sI p3, sI p4, sI p5, sI a, sI b, sI c, sU, sU, sU, sU, sU, sU, sU, sU, sU, sU, sU, sU, sU] [(.int (2147483647 : Int32)), (.int p3)])) _
    refine XS.iand X0.here hx rfl (hb hby at_21) rfl ?_
    refine XS.istore X0.here hx rfl (hb hby at_22) rfl (l' := #[sI p0, sI p1, sI p2, sI p3, sI p4, sI p5, sI a, sI b, sI c, .val (.int (p3 &&& (2147483647 : Int32))), sU, sU, sU, sU, sU, sU, sU, sU, sU, sU, sU, sU]) rfl ?_
    show Sg p e below (s₁.setTop (mkF m 24 #[sI p0, sI p1, sI p2, sI p3, sI p4, sI p5, sI a, sI b, sI c, .val (.int (p3 &&& (2147483647 : Int32))), sU, sU, sU, sU, sU, sU, sU, sU, sU, sU, sU, sU] [])) _
    exact k)
  have P2346 : Rg p e below (s₁.setTop (mkF m 24 #[sI p0, sI p1, sI p2, sI p3, sI p4, sI p5, sI a, sI b, sI c, sI d, sU, sU, sU, sU, sU, sU, sU, sU, sU, sU, sU, sU] [])) B0 := fun t k => P2345 t (by rw [eq_d] at k; exact k)
  have nn_d : 0 ≤ d := by rw [eq_d]; exact own_nn _
  obtain ⟨e5, eq_e5⟩ : ∃ z : Int32, z = (p4 &&& (2147483647 : Int32)) := ⟨_, rfl⟩
  have P2347 : Rg p e below (s₁.setTop (mkF m 31 #[sI p0, sI p1, sI p2, sI p3, sI p4, sI p5, sI a, sI b, sI c, sI d, .val (.int (p4 &&& (2147483647 : Int32))), sU, sU, sU, sU, sU, sU, sU, sU, sU, sU, sU] [])) B0 := fun t k => P2346 t (by
    refine XS.iload X0.here hx rfl (hb hby at_24) rfl ?_
    show Sg p e below (s₁.setTop (mkF m 26 #[sI p0, sI p1, sI p2, sI p3, sI p4, sI p5, sI a, sI b, sI c, sI d, sU, sU, sU, sU, sU, sU, sU, sU, sU, sU, sU, sU] [(.int p4)])) _
    refine X0.ldcInt hx hown (mvT hZ (own_hw hw 0 rfl)) (g := (mkF m 26 #[sI p0, sI p1, sI p2, sI p3, sI p4, sI p5, sI a, sI b, sI c, sI d, sU, sU, sU, sU, sU, sU, sU, sU, sU, sU, sU, sU] [(.int p4)])) rfl (hb hby at_26) _ ?_
    show Sg p e below (s₁.setTop (mkF m 28 #[sI p0, sI p1, sI p2, sI p3, sI p4, sI p5, sI a, sI b, sI c, sI d, sU, sU, sU, sU, sU, sU, sU, sU, sU, sU, sU, sU] [(.int (2147483647 : Int32)), (.int p4)])) _
    refine XS.iand X0.here hx rfl (hb hby at_28) rfl ?_
    refine XS.istore X0.here hx rfl (hb hby at_29) rfl (l' := #[sI p0, sI p1, sI p2, sI p3, sI p4, sI p5, sI a, sI b, sI c, sI d, .val (.int (p4 &&& (2147483647 : Int32))), sU, sU, sU, sU, sU, sU, sU, sU, sU, sU, sU]) rfl ?_
    show Sg p e below (s₁.setTop (mkF m 31 #[sI p0, sI p1, sI p2, sI p3, sI p4, sI p5, sI a, sI b, sI c, sI d, .val (.int (p4 &&& (2147483647 : Int32))), sU, sU, sU, sU, sU, sU, sU, sU, sU, sU, sU] [])) _
    exact k)
  have P2348 : Rg p e below (s₁.setTop (mkF m 31 #[sI p0, sI p1, sI p2, sI p3, sI p4, sI p5, sI a, sI b, sI c, sI d, sI e5, sU, sU, sU, sU, sU, sU, sU, sU, sU, sU, sU] [])) B0 := fun t k => P2347 t (by rw [eq_e5] at k; exact k)
  have nn_e5 : 0 ≤ e5 := by rw [eq_e5]; exact own_nn _
  have P2349 : Rg p e below (s₁.setTop (mkF m 35 #[sI p0, sI p1, sI p2, sI p3, sI p4, sI p5, sI a, sI b, sI c, sI d, sI e5, sU, sU, sU, sU, sU, sU, sU, sU, sU, sU, sU] [(.int (p5 &&& (1 : Int32)))])) B0 := fun t k => P2348 t (by
    refine XS.iload X0.here hx rfl (hb hby at_31) rfl ?_
    refine XS.iconst X0.here hx rfl (hb hby at_33) ?_
    refine XS.iand X0.here hx rfl (hb hby at_34) rfl ?_
    show Sg p e below (s₁.setTop (mkF m 35 #[sI p0, sI p1, sI p2, sI p3, sI p4, sI p5, sI a, sI b, sI c, sI d, sI e5, sU, sU, sU, sU, sU, sU, sU, sU, sU, sU, sU] [(.int (p5 &&& (1 : Int32)))])) _
    exact k)
  obtain ⟨b2351, hb2351⟩ : ∃ z : Int32, z = (if (p5 &&& (1 : Int32)) = (0 : Int32) then (0 : Int32) else (1 : Int32)) := ⟨_, rfl⟩
  have P2352 : Rg p e below (s₁.setTop (mkF m 43 #[sI p0, sI p1, sI p2, sI p3, sI p4, sI p5, sI a, sI b, sI c, sI d, sI e5, sU, sU, sU, sU, sU, sU, sU, sU, sU, sU, sU] [(.int b2351)])) B0 := fun t k => P2349 t (by
    by_cases q2350 : (p5 &&& (1 : Int32)) = (0 : Int32)
    · skip
      refine XS.ifYes X0.here hx rfl (pc0 := 35) (pc' := 42) rfl (hb hby at_35) rfl ((if0 _ _).trans (teq (show (p5 &&& (1 : Int32)) = (0 : Int32) from q2350)).1) (by decide) (by decide) ?_
      refine XS.iconst X0.here hx rfl (hb hby at_42) ?_
      show Sg p e below (s₁.setTop (mkF m 43 #[sI p0, sI p1, sI p2, sI p3, sI p4, sI p5, sI a, sI b, sI c, sI d, sI e5, sU, sU, sU, sU, sU, sU, sU, sU, sU, sU, sU] [(.int (0 : Int32))])) _
      have eb2351 : b2351 = (0 : Int32) := by rw [hb2351, if_pos q2350]
      rw [eb2351] at k
      exact k
    · skip
      refine XS.ifNo X0.here hx rfl (hb hby at_35) rfl ((if0 _ _).trans (feq (show ¬ ((p5 &&& (1 : Int32)) = (0 : Int32)) from q2350)).1) ?_
      refine XS.iconst X0.here hx rfl (hb hby at_38) ?_
      refine XS.goto X0.here hx rfl (pc0 := 39) (pc' := 43) rfl (hb hby at_39) (by decide) (by decide) ?_
      show Sg p e below (s₁.setTop (mkF m 43 #[sI p0, sI p1, sI p2, sI p3, sI p4, sI p5, sI a, sI b, sI c, sI d, sI e5, sU, sU, sU, sU, sU, sU, sU, sU, sU, sU, sU] [(.int (1 : Int32))])) _
      have eb2351 : b2351 = (1 : Int32) := by rw [hb2351, if_neg q2350]
      rw [eb2351] at k
      exact k)
  have P2353 : Rg p e below (s₁.setTop (mkF m 49 #[sI p0, sI p1, sI p2, sI p3, sI p4, sI p5, sI a, sI b, sI c, sI d, sI e5, sI b2351, sU, sU, sU, sU, sU, sU, sU, sU, sU, sU] [(.int (p5 &&& (2 : Int32)))])) B0 := fun t k => P2352 t (by
    refine XS.istore X0.here hx rfl (hb hby at_43) rfl (l' := #[sI p0, sI p1, sI p2, sI p3, sI p4, sI p5, sI a, sI b, sI c, sI d, sI e5, sI b2351, sU, sU, sU, sU, sU, sU, sU, sU, sU, sU]) rfl ?_
    refine XS.iload X0.here hx rfl (hb hby at_45) rfl ?_
    refine XS.iconst X0.here hx rfl (hb hby at_47) ?_
    refine XS.iand X0.here hx rfl (hb hby at_48) rfl ?_
    show Sg p e below (s₁.setTop (mkF m 49 #[sI p0, sI p1, sI p2, sI p3, sI p4, sI p5, sI a, sI b, sI c, sI d, sI e5, sI b2351, sU, sU, sU, sU, sU, sU, sU, sU, sU, sU] [(.int (p5 &&& (2 : Int32)))])) _
    exact k)
  obtain ⟨b2355, hb2355⟩ : ∃ z : Int32, z = (if (p5 &&& (2 : Int32)) = (0 : Int32) then (0 : Int32) else (1 : Int32)) := ⟨_, rfl⟩
  have P2356 : Rg p e below (s₁.setTop (mkF m 57 #[sI p0, sI p1, sI p2, sI p3, sI p4, sI p5, sI a, sI b, sI c, sI d, sI e5, sI b2351, sU, sU, sU, sU, sU, sU, sU, sU, sU, sU] [(.int b2355)])) B0 := fun t k => P2353 t (by
    by_cases q2354 : (p5 &&& (2 : Int32)) = (0 : Int32)
    · skip
      refine XS.ifYes X0.here hx rfl (pc0 := 49) (pc' := 56) rfl (hb hby at_49) rfl ((if0 _ _).trans (teq (show (p5 &&& (2 : Int32)) = (0 : Int32) from q2354)).1) (by decide) (by decide) ?_
      refine XS.iconst X0.here hx rfl (hb hby at_56) ?_
      show Sg p e below (s₁.setTop (mkF m 57 #[sI p0, sI p1, sI p2, sI p3, sI p4, sI p5, sI a, sI b, sI c, sI d, sI e5, sI b2351, sU, sU, sU, sU, sU, sU, sU, sU, sU, sU] [(.int (0 : Int32))])) _
      have eb2355 : b2355 = (0 : Int32) := by rw [hb2355, if_pos q2354]
      rw [eb2355] at k
      exact k
    · skip
      refine XS.ifNo X0.here hx rfl (hb hby at_49) rfl ((if0 _ _).trans (feq (show ¬ ((p5 &&& (2 : Int32)) = (0 : Int32)) from q2354)).1) ?_
      refine XS.iconst X0.here hx rfl (hb hby at_52) ?_
      refine XS.goto X0.here hx rfl (pc0 := 53) (pc' := 57) rfl (hb hby at_53) (by decide) (by decide) ?_
      show Sg p e below (s₁.setTop (mkF m 57 #[sI p0, sI p1, sI p2, sI p3, sI p4, sI p5, sI a, sI b, sI c, sI d, sI e5, sI b2351, sU, sU, sU, sU, sU, sU, sU, sU, sU, sU] [(.int (1 : Int32))])) _
      have eb2355 : b2355 = (1 : Int32) := by rw [hb2355, if_neg q2354]
      rw [eb2355] at k
      exact k)
  have P2357 : Rg p e below (s₁.setTop (mkF m 63 #[sI p0, sI p1, sI p2, sI p3, sI p4, sI p5, sI a, sI b, sI c, sI d, sI e5, sI b2351, sI b2355, sU, sU, sU, sU, sU, sU, sU, sU, sU] [(.int (p5 &&& (4 : Int32)))])) B0 := fun t k => P2356 t (by
    refine XS.istore X0.here hx rfl (hb hby at_57) rfl (l' := #[sI p0, sI p1, sI p2, sI p3, sI p4, sI p5, sI a, sI b, sI c, sI d, sI e5, sI b2351, sI b2355, sU, sU, sU, sU, sU, sU, sU, sU, sU]) rfl ?_
    refine XS.iload X0.here hx rfl (hb hby at_59) rfl ?_
    refine XS.iconst X0.here hx rfl (hb hby at_61) ?_
    refine XS.iand X0.here hx rfl (hb hby at_62) rfl ?_
    show Sg p e below (s₁.setTop (mkF m 63 #[sI p0, sI p1, sI p2, sI p3, sI p4, sI p5, sI a, sI b, sI c, sI d, sI e5, sI b2351, sI b2355, sU, sU, sU, sU, sU, sU, sU, sU, sU] [(.int (p5 &&& (4 : Int32)))])) _
    exact k)
  obtain ⟨b2359, hb2359⟩ : ∃ z : Int32, z = (if (p5 &&& (4 : Int32)) = (0 : Int32) then (0 : Int32) else (1 : Int32)) := ⟨_, rfl⟩
  have P2360 : Rg p e below (s₁.setTop (mkF m 71 #[sI p0, sI p1, sI p2, sI p3, sI p4, sI p5, sI a, sI b, sI c, sI d, sI e5, sI b2351, sI b2355, sU, sU, sU, sU, sU, sU, sU, sU, sU] [(.int b2359)])) B0 := fun t k => P2357 t (by
    by_cases q2358 : (p5 &&& (4 : Int32)) = (0 : Int32)
    · skip
      refine XS.ifYes X0.here hx rfl (pc0 := 63) (pc' := 70) rfl (hb hby at_63) rfl ((if0 _ _).trans (teq (show (p5 &&& (4 : Int32)) = (0 : Int32) from q2358)).1) (by decide) (by decide) ?_
      refine XS.iconst X0.here hx rfl (hb hby at_70) ?_
      show Sg p e below (s₁.setTop (mkF m 71 #[sI p0, sI p1, sI p2, sI p3, sI p4, sI p5, sI a, sI b, sI c, sI d, sI e5, sI b2351, sI b2355, sU, sU, sU, sU, sU, sU, sU, sU, sU] [(.int (0 : Int32))])) _
      have eb2359 : b2359 = (0 : Int32) := by rw [hb2359, if_pos q2358]
      rw [eb2359] at k
      exact k
    · skip
      refine XS.ifNo X0.here hx rfl (hb hby at_63) rfl ((if0 _ _).trans (feq (show ¬ ((p5 &&& (4 : Int32)) = (0 : Int32)) from q2358)).1) ?_
      refine XS.iconst X0.here hx rfl (hb hby at_66) ?_
      refine XS.goto X0.here hx rfl (pc0 := 67) (pc' := 71) rfl (hb hby at_67) (by decide) (by decide) ?_
      show Sg p e below (s₁.setTop (mkF m 71 #[sI p0, sI p1, sI p2, sI p3, sI p4, sI p5, sI a, sI b, sI c, sI d, sI e5, sI b2351, sI b2355, sU, sU, sU, sU, sU, sU, sU, sU, sU] [(.int (1 : Int32))])) _
      have eb2359 : b2359 = (1 : Int32) := by rw [hb2359, if_neg q2358]
      rw [eb2359] at k
      exact k)
  obtain ⟨_, _, ⟨T2361, L2361, k2361, n2361⟩, -, X2361, ⟨Lc2361, hQ2361, l2361, y2361, z2361⟩, st2361⟩ := Jvm.LawKit.callS X0 hx (y := (⟨"java/lang/Math", "min", "(II)I"⟩ : MethodName)) hown (mvT hZ (own_hw hw 1 rfl)) (mvT hZ (own_hw hw 2 rfl)) (mvT hZ (own_hw hw 3 rfl)) (mvT hZ (own_hw hw 4 rfl)) (by decide) (backOf (W := 0) (rm_min l Z a0 hw [] a b h0 n0 Z0 ) hZ (own_hw hw 4 rfl) (own_hw hw 3 rfl) (by decide) (by decide)) (g := (mkF m 77 #[sI p0, sI p1, sI p2, sI p3, sI p4, sI p5, sI a, sI b, sI c, sI d, sI e5, sI b2351, sI b2355, sI b2359, sU, sU, sU, sU, sU, sU, sU, sU] [(.int b), (.int a)])) rfl (by rw [hml]; rfl) (argsL := [(.int a), (.int b)]) (rest := []) (lenOf pd__28II_29I rfl) rfl (by show 2 * 0 + _ ≤ _; exact Nat.le_of_eq rfl) (hb hby at_77) (fun _ _ => ⟨rfl, e0, (Nat.le_of_ble_eq_true rfl : 0 + 0 ≤ _), (Nat.le_of_ble_eq_true rfl : 0 + 0 ≤ _)⟩)
  dsimp only [Pt.U, Pt.locs, Pt.cells, Pt.slots] at X2361 l2361 y2361 z2361 st2361 hQ2361
  subst l2361 y2361 z2361
  obtain ⟨r2361, rfl, Nq2361, e2361, hr2361⟩ := hQ2361
  have N2362 := Fr.app N0 Nq2361
  have P2363 : Rg p e below (T2361.setTop (mkF m 80 #[sI p0, sI p1, sI p2, sI p3, sI p4, sI p5, sI a, sI b, sI c, sI d, sI e5, sI b2351, sI b2355, sI b2359, sU, sU, sU, sU, sU, sU, sU, sU] [(.int r2361)])) B0 := fun t k => P2360 t (by
    refine XS.istore X0.here hx rfl (hb hby at_71) rfl (l' := #[sI p0, sI p1, sI p2, sI p3, sI p4, sI p5, sI a, sI b, sI c, sI d, sI e5, sI b2351, sI b2355, sI b2359, sU, sU, sU, sU, sU, sU, sU, sU]) rfl ?_
    refine XS.iload X0.here hx rfl (hb hby at_73) rfl ?_
    refine XS.iload X0.here hx rfl (hb hby at_75) rfl ?_
    show Sg p e below (s₁.setTop (mkF m 77 #[sI p0, sI p1, sI p2, sI p3, sI p4, sI p5, sI a, sI b, sI c, sI d, sI e5, sI b2351, sI b2355, sI b2359, sU, sU, sU, sU, sU, sU, sU, sU] [(.int b), (.int a)])) _
    exact st2361 _ k)
  obtain ⟨_, _, ⟨T2364, L2364, k2364, n2364⟩, -, X2364, ⟨Lc2364, hQ2364, l2364, y2364, z2364⟩, st2364⟩ := Jvm.LawKit.callS X2361 hx (y := (⟨"java/lang/Math", "max", "(II)I"⟩ : MethodName)) hown (mvT hZ (own_hw hw 5 rfl)) (mvT hZ (own_hw hw 6 rfl)) (mvT hZ (own_hw hw 3 rfl)) (mvT hZ (own_hw hw 7 rfl)) (by decide) (backOf (W := 0) (rm_max l Z a0 hw [] a b h0 n0 Z0 ) hZ (own_hw hw 7 rfl) (own_hw hw 3 rfl) (by decide) (by decide)) (g := (mkF m 86 #[sI p0, sI p1, sI p2, sI p3, sI p4, sI p5, sI a, sI b, sI c, sI d, sI e5, sI b2351, sI b2355, sI b2359, sI r2361, sU, sU, sU, sU, sU, sU, sU] [(.int b), (.int a)])) rfl (by rw [hml]; rfl) (argsL := [(.int a), (.int b)]) (rest := []) (lenOf pd__28II_29I rfl) rfl (by show 2 * 0 + _ ≤ _; exact Nat.le_of_eq rfl) (hb hby at_86) (fun _ _ => ⟨rfl, e2361, (Nat.le_of_ble_eq_true rfl : 0 + 0 ≤ _), (Nat.le_of_ble_eq_true rfl : 0 + 0 ≤ _)⟩)
  dsimp only [Pt.U, Pt.locs, Pt.cells, Pt.slots] at X2364 l2364 y2364 z2364 st2364 hQ2364
  subst l2364 y2364 z2364
  obtain ⟨r2364, rfl, Nq2364, e2364, hr2364⟩ := hQ2364
  have N2365 := Fr.app N2362 Nq2364
  have P2366 : Rg p e below (T2364.setTop (mkF m 89 #[sI p0, sI p1, sI p2, sI p3, sI p4, sI p5, sI a, sI b, sI c, sI d, sI e5, sI b2351, sI b2355, sI b2359, sI r2361, sU, sU, sU, sU, sU, sU, sU] [(.int r2364)])) B0 := fun t k => P2363 t (by
    refine XS.istore X2361.here hx rfl (hb hby at_80) rfl (l' := #[sI p0, sI p1, sI p2, sI p3, sI p4, sI p5, sI a, sI b, sI c, sI d, sI e5, sI b2351, sI b2355, sI b2359, sI r2361, sU, sU, sU, sU, sU, sU, sU]) rfl ?_
    refine XS.iload X2361.here hx rfl (hb hby at_82) rfl ?_
    refine XS.iload X2361.here hx rfl (hb hby at_84) rfl ?_
    show Sg p e below (T2361.setTop (mkF m 86 #[sI p0, sI p1, sI p2, sI p3, sI p4, sI p5, sI a, sI b, sI c, sI d, sI e5, sI b2351, sI b2355, sI b2359, sI r2361, sU, sU, sU, sU, sU, sU, sU] [(.int b), (.int a)])) _
    exact st2364 _ k)
  obtain ⟨_, _, ⟨T2367, L2367, k2367, n2367⟩, -, X2367, ⟨Lc2367, hQ2367, l2367, y2367, z2367⟩, st2367⟩ := Jvm.LawKit.callS X2364 hx (y := (⟨"java/lang/Math", "min", "(II)I"⟩ : MethodName)) hown (mvT hZ (own_hw hw 1 rfl)) (mvT hZ (own_hw hw 2 rfl)) (mvT hZ (own_hw hw 3 rfl)) (mvT hZ (own_hw hw 4 rfl)) (by decide) (backOf (W := 0) (rm_min l Z a0 hw [] c d h0 n0 Z0 ) hZ (own_hw hw 4 rfl) (own_hw hw 3 rfl) (by decide) (by decide)) (g := (mkF m 95 #[sI p0, sI p1, sI p2, sI p3, sI p4, sI p5, sI a, sI b, sI c, sI d, sI e5, sI b2351, sI b2355, sI b2359, sI r2361, sI r2364, sU, sU, sU, sU, sU, sU] [(.int d), (.int c)])) rfl (by rw [hml]; rfl) (argsL := [(.int c), (.int d)]) (rest := []) (lenOf pd__28II_29I rfl) rfl (by show 2 * 0 + _ ≤ _; exact Nat.le_of_eq rfl) (hb hby at_95) (fun _ _ => ⟨rfl, e2364, (Nat.le_of_ble_eq_true rfl : 0 + 0 ≤ _), (Nat.le_of_ble_eq_true rfl : 0 + 0 ≤ _)⟩)
  dsimp only [Pt.U, Pt.locs, Pt.cells, Pt.slots] at X2367 l2367 y2367 z2367 st2367 hQ2367
  subst l2367 y2367 z2367
  obtain ⟨r2367, rfl, Nq2367, e2367, hr2367⟩ := hQ2367
  have N2368 := Fr.app N2365 Nq2367
  have P2369 : Rg p e below (T2367.setTop (mkF m 98 #[sI p0, sI p1, sI p2, sI p3, sI p4, sI p5, sI a, sI b, sI c, sI d, sI e5, sI b2351, sI b2355, sI b2359, sI r2361, sI r2364, sU, sU, sU, sU, sU, sU] [(.int r2367)])) B0 := fun t k => P2366 t (by
    refine XS.istore X2364.here hx rfl (hb hby at_89) rfl (l' := #[sI p0, sI p1, sI p2, sI p3, sI p4, sI p5, sI a, sI b, sI c, sI d, sI e5, sI b2351, sI b2355, sI b2359, sI r2361, sI r2364, sU, sU, sU, sU, sU, sU]) rfl ?_
    refine XS.iload X2364.here hx rfl (hb hby at_91) rfl ?_
    refine XS.iload X2364.here hx rfl (hb hby at_93) rfl ?_
    show Sg p e below (T2364.setTop (mkF m 95 #[sI p0, sI p1, sI p2, sI p3, sI p4, sI p5, sI a, sI b, sI c, sI d, sI e5, sI b2351, sI b2355, sI b2359, sI r2361, sI r2364, sU, sU, sU, sU, sU, sU] [(.int d), (.int c)])) _
    exact st2367 _ k)
  obtain ⟨_, _, ⟨T2370, L2370, k2370, n2370⟩, -, X2370, ⟨Lc2370, hQ2370, l2370, y2370, z2370⟩, st2370⟩ := Jvm.LawKit.callS X2367 hx (y := (⟨"java/lang/Math", "max", "(II)I"⟩ : MethodName)) hown (mvT hZ (own_hw hw 5 rfl)) (mvT hZ (own_hw hw 6 rfl)) (mvT hZ (own_hw hw 3 rfl)) (mvT hZ (own_hw hw 7 rfl)) (by decide) (backOf (W := 0) (rm_max l Z a0 hw [] c d h0 n0 Z0 ) hZ (own_hw hw 7 rfl) (own_hw hw 3 rfl) (by decide) (by decide)) (g := (mkF m 104 #[sI p0, sI p1, sI p2, sI p3, sI p4, sI p5, sI a, sI b, sI c, sI d, sI e5, sI b2351, sI b2355, sI b2359, sI r2361, sI r2364, sI r2367, sU, sU, sU, sU, sU] [(.int d), (.int c)])) rfl (by rw [hml]; rfl) (argsL := [(.int c), (.int d)]) (rest := []) (lenOf pd__28II_29I rfl) rfl (by show 2 * 0 + _ ≤ _; exact Nat.le_of_eq rfl) (hb hby at_104) (fun _ _ => ⟨rfl, e2367, (Nat.le_of_ble_eq_true rfl : 0 + 0 ≤ _), (Nat.le_of_ble_eq_true rfl : 0 + 0 ≤ _)⟩)
  dsimp only [Pt.U, Pt.locs, Pt.cells, Pt.slots] at X2370 l2370 y2370 z2370 st2370 hQ2370
  subst l2370 y2370 z2370
  obtain ⟨r2370, rfl, Nq2370, e2370, hr2370⟩ := hQ2370
  have N2371 := Fr.app N2368 Nq2370
  have P2372 : Rg p e below (T2370.setTop (mkF m 107 #[sI p0, sI p1, sI p2, sI p3, sI p4, sI p5, sI a, sI b, sI c, sI d, sI e5, sI b2351, sI b2355, sI b2359, sI r2361, sI r2364, sI r2367, sU, sU, sU, sU, sU] [(.int r2370)])) B0 := fun t k => P2369 t (by
    refine XS.istore X2367.here hx rfl (hb hby at_98) rfl (l' := #[sI p0, sI p1, sI p2, sI p3, sI p4, sI p5, sI a, sI b, sI c, sI d, sI e5, sI b2351, sI b2355, sI b2359, sI r2361, sI r2364, sI r2367, sU, sU, sU, sU, sU]) rfl ?_
    refine XS.iload X2367.here hx rfl (hb hby at_100) rfl ?_
    refine XS.iload X2367.here hx rfl (hb hby at_102) rfl ?_
    show Sg p e below (T2367.setTop (mkF m 104 #[sI p0, sI p1, sI p2, sI p3, sI p4, sI p5, sI a, sI b, sI c, sI d, sI e5, sI b2351, sI b2355, sI b2359, sI r2361, sI r2364, sI r2367, sU, sU, sU, sU, sU] [(.int d), (.int c)])) _
    exact st2370 _ k)
  obtain ⟨lz0, lq0, lm0⟩ := own_mm nn_a nn_b hr2361 hr2364
  obtain ⟨mM0, mP0, mL0, m20, m00, mN0, mZ0⟩ := own_M2 lz0 lq0
  obtain ⟨lz1, lq1, lm1⟩ := own_mm nn_c nn_d hr2367 hr2370
  obtain ⟨mM1, mP1, mL1, m21, m01, mN1, mZ1⟩ := own_M2 lz1 lq1
  obtain ⟨T2373, h2373, k2373, X2373, e2373, E2373, A2373, B2373, O2373, st2373⟩ := newRA X2370 hx hZ hown (C := "[I") (ty := .int) (by decide) (own_hw hw 8 rfl) (own_hw hw 9 rfl) e2370 (g := (mkF m 110 #[sI p0, sI p1, sI p2, sI p3, sI p4, sI p5, sI a, sI b, sI c, sI d, sI e5, sI b2351, sI b2355, sI b2359, sI r2361, sI r2364, sI r2367, sI r2370, sU, sU, sU, sU] [(.int (2 : Int32))])) rfl (hb hby at_110) rfl (by decide) (cap := 2) (by decide) (by decide) (by decide) (by decide) (ad := "[[I") (by decide)
  obtain ⟨b2373, g2373⟩ : ∃ z, z = h0.size := ⟨_, rfl⟩
  rw [← g2373] at A2373 B2373 st2373
  have g_b2373 : n0 ≤ b2373 := Nat.le_trans Z0 (Nat.le_of_eq g2373.symm)
  have sz_b2373 : h0.size ≤ b2373 := Nat.le_trans (Keep.refl h0 []).1 (Nat.le_of_eq g2373.symm)
  have P2374 : Rg p e below (T2373.setTop (mkF m 113 #[sI p0, sI p1, sI p2, sI p3, sI p4, sI p5, sI a, sI b, sI c, sI d, sI e5, sI b2351, sI b2355, sI b2359, sI r2361, sI r2364, sI r2367, sI r2370, sU, sU, sU, sU] [(.ref b2373)])) B0 := fun t k => P2372 t (by
    refine XS.istore X2370.here hx rfl (hb hby at_107) rfl (l' := #[sI p0, sI p1, sI p2, sI p3, sI p4, sI p5, sI a, sI b, sI c, sI d, sI e5, sI b2351, sI b2355, sI b2359, sI r2361, sI r2364, sI r2367, sI r2370, sU, sU, sU, sU]) rfl ?_
    refine XS.iconst X2370.here hx rfl (hb hby at_109) ?_
    show Sg p e below (T2370.setTop (mkF m 110 #[sI p0, sI p1, sI p2, sI p3, sI p4, sI p5, sI a, sI b, sI c, sI d, sI e5, sI b2351, sI b2355, sI b2359, sI r2361, sI r2364, sI r2367, sI r2370, sU, sU, sU, sU] [(.int (2 : Int32))])) _
    exact st2373 _ k)
  have Z2375 : n0 ≤ h2373.size := Nat.le_trans Z0 E2373.1
  have K2376 : Keep h0 h2373 [] := (Keep.refl h0 []).ext E2373
  have O2377 : Old Z n0 h2373 := Ol.ext E2373
  have v2378 : Arv Z h2373 b2373 k2373 (.array .int) (2 : Int32) [.null, .null] .null := (Arv.new A2373 (by decide)).pad (pad_rep [] .null 2)
  obtain ⟨T2379, h2379, k2379, X2379, e2379, E2379, A2379, B2379, st2379⟩ := newPE X2373 hx hZ (own_hw hw 10 rfl) e2373 (g := (mkF m 116 #[sI p0, sI p1, sI p2, sI p3, sI p4, sI p5, sI a, sI b, sI c, sI d, sI e5, sI b2351, sI b2355, sI b2359, sI r2361, sI r2364, sI r2367, sI r2370, sU, sU, sU, sU] [(.int (2 : Int32)), (.int (0 : Int32)), (.ref b2373), (.ref b2373)])) rfl (hb hby at_116) rfl (by decide) (cap := 2) (by decide) (by decide) (by decide) (by decide) (ad := "[I") (by decide)
  obtain ⟨b2379, g2379⟩ : ∃ z, z = h2373.size := ⟨_, rfl⟩
  rw [← g2379] at A2379 B2379 st2379
  have g_b2379 : n0 ≤ b2379 := Nat.le_trans Z2375 (Nat.le_of_eq g2379.symm)
  have sz_b2379 : h0.size ≤ b2379 := Nat.le_trans K2376.1 (Nat.le_of_eq g2379.symm)
  have P2380 : Rg p e below (T2379.setTop (mkF m 118 #[sI p0, sI p1, sI p2, sI p3, sI p4, sI p5, sI a, sI b, sI c, sI d, sI e5, sI b2351, sI b2355, sI b2359, sI r2361, sI r2364, sI r2367, sI r2370, sU, sU, sU, sU] [(.ref b2379), (.int (0 : Int32)), (.ref b2373), (.ref b2373)])) B0 := fun t k => P2374 t (by
    refine XS.dup X2373.here hx rfl (hb hby at_113) rfl rfl ?_
    refine XS.iconst X2373.here hx rfl (hb hby at_114) ?_
    refine XS.iconst X2373.here hx rfl (hb hby at_115) ?_
    show Sg p e below (T2373.setTop (mkF m 116 #[sI p0, sI p1, sI p2, sI p3, sI p4, sI p5, sI a, sI b, sI c, sI d, sI e5, sI b2351, sI b2355, sI b2359, sI r2361, sI r2364, sI r2367, sI r2370, sU, sU, sU, sU] [(.int (2 : Int32)), (.int (0 : Int32)), (.ref b2373), (.ref b2373)])) _
    exact st2379 _ k)
  have Z2381 : n0 ≤ h2379.size := Nat.le_trans Z2375 E2379.1
  have K2382 : Keep h0 h2379 [] := K2376.ext E2379
  have O2383 : Old Z n0 h2379 := O2377.ext E2379
  have v2384 : Arv Z h2379 b2379 k2379 .int (2 : Int32) [(.int (0 : Int32)), (.int (0 : Int32))] (.int (0 : Int32)) := (Arv.new A2379 (by decide)).pad (pad_rep [] (.int (0 : Int32)) 2)
  obtain ⟨cl2385, Ar2385, q2385, S2385, N2385, H2385, G2385⟩ := id v2384
  obtain ⟨T2385, h2385, X2385, e2385, W2385, st2385⟩ := stI X2379 hx hZ e2379 Ar2385 (j := (0 : Int32)) (inb_of S2385 ⟨by decide, by decide⟩) (g := (mkF m 122 #[sI p0, sI p1, sI p2, sI p3, sI p4, sI p5, sI a, sI b, sI c, sI d, sI e5, sI b2351, sI b2355, sI b2359, sI r2361, sI r2364, sI r2367, sI r2370, sU, sU, sU, sU] [(.int r2361), (.int (0 : Int32)), (.ref b2379), (.ref b2379), (.int (0 : Int32)), (.ref b2373), (.ref b2373)])) rfl rfl (hb hby at_122)
  have v2386 : Arv Z h2385 b2379 k2379 .int (2 : Int32) [(.int r2361), (.int (0 : Int32))] (.int (0 : Int32)) := Arv.set Ar2385 q2385 S2385 N2385 H2385 G2385 rfl W2385 0 rfl (Nat.le_of_ble_eq_true rfl)
  have P2387 : Rg p e below (T2385.setTop (mkF m 123 #[sI p0, sI p1, sI p2, sI p3, sI p4, sI p5, sI a, sI b, sI c, sI d, sI e5, sI b2351, sI b2355, sI b2359, sI r2361, sI r2364, sI r2367, sI r2370, sU, sU, sU, sU] [(.ref b2379), (.int (0 : Int32)), (.ref b2373), (.ref b2373)])) B0 := fun t k => P2380 t (by
    refine XS.dup X2379.here hx rfl (hb hby at_118) rfl rfl ?_
    refine XS.iconst X2379.here hx rfl (hb hby at_119) ?_
    refine XS.iload X2379.here hx rfl (hb hby at_120) rfl ?_
    show Sg p e below (T2379.setTop (mkF m 122 #[sI p0, sI p1, sI p2, sI p3, sI p4, sI p5, sI a, sI b, sI c, sI d, sI e5, sI b2351, sI b2355, sI b2359, sI r2361, sI r2364, sI r2367, sI r2370, sU, sU, sU, sU] [(.int r2361), (.int (0 : Int32)), (.ref b2379), (.ref b2379), (.int (0 : Int32)), (.ref b2373), (.ref b2373)])) _
    exact st2385 _ k)
  have N2388 := Fr.snoc X2385 N2371 g_b2379
  have Z2389 : n0 ≤ h2385.size := Nat.le_trans Z2381 (Keep.of_wr W2385).1
  have K2390 : Keep h0 h2385 [] := K2382.wr W2385 (Or.inr sz_b2379)
  have O2391 : Old Z n0 h2385 := O2383.wr W2385 g_b2379
  obtain ⟨cl2392, Ar2392, q2392, S2392, N2392, H2392, G2392⟩ := id v2386
  obtain ⟨T2392, h2392, X2392, e2392, W2392, st2392⟩ := stI X2385 hx hZ e2385 Ar2392 (j := (1 : Int32)) (inb_of S2392 ⟨by decide, by decide⟩) (g := (mkF m 127 #[sI p0, sI p1, sI p2, sI p3, sI p4, sI p5, sI a, sI b, sI c, sI d, sI e5, sI b2351, sI b2355, sI b2359, sI r2361, sI r2364, sI r2367, sI r2370, sU, sU, sU, sU] [(.int r2364), (.int (1 : Int32)), (.ref b2379), (.ref b2379), (.int (0 : Int32)), (.ref b2373), (.ref b2373)])) rfl rfl (hb hby at_127)
  have v2393 : Arv Z h2392 b2379 k2379 .int (2 : Int32) [(.int r2361), (.int r2364)] (.int (0 : Int32)) := Arv.set Ar2392 q2392 S2392 N2392 H2392 G2392 rfl W2392 1 rfl (Nat.le_of_ble_eq_true rfl)
  have P2394 : Rg p e below (T2392.setTop (mkF m 128 #[sI p0, sI p1, sI p2, sI p3, sI p4, sI p5, sI a, sI b, sI c, sI d, sI e5, sI b2351, sI b2355, sI b2359, sI r2361, sI r2364, sI r2367, sI r2370, sU, sU, sU, sU] [(.ref b2379), (.int (0 : Int32)), (.ref b2373), (.ref b2373)])) B0 := fun t k => P2387 t (by
    refine XS.dup X2385.here hx rfl (hb hby at_123) rfl rfl ?_
    refine XS.iconst X2385.here hx rfl (hb hby at_124) ?_
    refine XS.iload X2385.here hx rfl (hb hby at_125) rfl ?_
    show Sg p e below (T2385.setTop (mkF m 127 #[sI p0, sI p1, sI p2, sI p3, sI p4, sI p5, sI a, sI b, sI c, sI d, sI e5, sI b2351, sI b2355, sI b2359, sI r2361, sI r2364, sI r2367, sI r2370, sU, sU, sU, sU] [(.int r2364), (.int (1 : Int32)), (.ref b2379), (.ref b2379), (.int (0 : Int32)), (.ref b2373), (.ref b2373)])) _
    exact st2392 _ k)
  have N2395 := Fr.snoc X2392 N2388 g_b2379
  have Z2396 : n0 ≤ h2392.size := Nat.le_trans Z2389 (Keep.of_wr W2392).1
  have K2397 : Keep h0 h2392 [] := K2390.wr W2392 (Or.inr sz_b2379)
  have O2398 : Old Z n0 h2392 := O2391.wr W2392 g_b2379
  have f2399 := (((v2378.ext E2379).other W2385 (Nat.ne_of_lt (Nat.lt_of_lt_of_le v2378.lt (Nat.le_of_eq g2379.symm)))).other W2392 (Nat.ne_of_lt (Nat.lt_of_lt_of_le v2378.lt (Nat.le_of_eq g2379.symm))))
  have f2401 := ((B2379.wr W2385).wr W2392)
  obtain ⟨cl2400, Ar2400, q2400, S2400, N2400, H2400, G2400⟩ := id f2399
  obtain ⟨T2400, h2400, X2400, e2400, W2400, st2400⟩ := stR X2392 hx hZ e2392 Ar2400 (j := (0 : Int32)) (inb_of S2400 ⟨by decide, by decide⟩) rfl (Sto.ofVA Ar2400 q2400 O2373 (Ins.self f2401)) (g := (mkF m 128 #[sI p0, sI p1, sI p2, sI p3, sI p4, sI p5, sI a, sI b, sI c, sI d, sI e5, sI b2351, sI b2355, sI b2359, sI r2361, sI r2364, sI r2367, sI r2370, sU, sU, sU, sU] [(.ref b2379), (.int (0 : Int32)), (.ref b2373), (.ref b2373)])) rfl rfl (hb hby at_128)
  have v2402 : Arv Z h2400 b2373 k2373 (.array .int) (2 : Int32) [(.ref b2379), .null] .null := Arv.set Ar2400 q2400 S2400 N2400 H2400 G2400 rfl W2400 0 rfl (Nat.le_of_ble_eq_true rfl)
  have P2403 : Rg p e below (T2400.setTop (mkF m 129 #[sI p0, sI p1, sI p2, sI p3, sI p4, sI p5, sI a, sI b, sI c, sI d, sI e5, sI b2351, sI b2355, sI b2359, sI r2361, sI r2364, sI r2367, sI r2370, sU, sU, sU, sU] [(.ref b2373)])) B0 := fun t k => P2394 t (by
    exact st2400 _ k)
  have N2404 := Fr.snoc X2400 N2395 g_b2373
  have Z2405 : n0 ≤ h2400.size := Nat.le_trans Z2396 (Keep.of_wr W2400).1
  have K2406 : Keep h0 h2400 [] := K2397.wr W2400 (Or.inr sz_b2373)
  have O2407 : Old Z n0 h2400 := O2398.wr W2400 g_b2373
  obtain ⟨T2408, h2408, k2408, X2408, e2408, E2408, A2408, B2408, st2408⟩ := newPE X2400 hx hZ (own_hw hw 10 rfl) e2400 (g := (mkF m 132 #[sI p0, sI p1, sI p2, sI p3, sI p4, sI p5, sI a, sI b, sI c, sI d, sI e5, sI b2351, sI b2355, sI b2359, sI r2361, sI r2364, sI r2367, sI r2370, sU, sU, sU, sU] [(.int (2 : Int32)), (.int (1 : Int32)), (.ref b2373), (.ref b2373)])) rfl (hb hby at_132) rfl (by decide) (cap := 2) (by decide) (by decide) (by decide) (by decide) (ad := "[I") (by decide)
  obtain ⟨b2408, g2408⟩ : ∃ z, z = h2400.size := ⟨_, rfl⟩
  rw [← g2408] at A2408 B2408 st2408
  have g_b2408 : n0 ≤ b2408 := Nat.le_trans Z2405 (Nat.le_of_eq g2408.symm)
  have sz_b2408 : h0.size ≤ b2408 := Nat.le_trans K2406.1 (Nat.le_of_eq g2408.symm)
  have P2409 : Rg p e below (T2408.setTop (mkF m 134 #[sI p0, sI p1, sI p2, sI p3, sI p4, sI p5, sI a, sI b, sI c, sI d, sI e5, sI b2351, sI b2355, sI b2359, sI r2361, sI r2364, sI r2367, sI r2370, sU, sU, sU, sU] [(.ref b2408), (.int (1 : Int32)), (.ref b2373), (.ref b2373)])) B0 := fun t k => P2403 t (by
    refine XS.dup X2400.here hx rfl (hb hby at_129) rfl rfl ?_
    refine XS.iconst X2400.here hx rfl (hb hby at_130) ?_
    refine XS.iconst X2400.here hx rfl (hb hby at_131) ?_
    show Sg p e below (T2400.setTop (mkF m 132 #[sI p0, sI p1, sI p2, sI p3, sI p4, sI p5, sI a, sI b, sI c, sI d, sI e5, sI b2351, sI b2355, sI b2359, sI r2361, sI r2364, sI r2367, sI r2370, sU, sU, sU, sU] [(.int (2 : Int32)), (.int (1 : Int32)), (.ref b2373), (.ref b2373)])) _
    exact st2408 _ k)
  have Z2410 : n0 ≤ h2408.size := Nat.le_trans Z2405 E2408.1
  have K2411 : Keep h0 h2408 [] := K2406.ext E2408
  have O2412 : Old Z n0 h2408 := O2407.ext E2408
  have v2413 : Arv Z h2408 b2408 k2408 .int (2 : Int32) [(.int (0 : Int32)), (.int (0 : Int32))] (.int (0 : Int32)) := (Arv.new A2408 (by decide)).pad (pad_rep [] (.int (0 : Int32)) 2)
  obtain ⟨cl2414, Ar2414, q2414, S2414, N2414, H2414, G2414⟩ := id v2413
  obtain ⟨T2414, h2414, X2414, e2414, W2414, st2414⟩ := stI X2408 hx hZ e2408 Ar2414 (j := (0 : Int32)) (inb_of S2414 ⟨by decide, by decide⟩) (g := (mkF m 138 #[sI p0, sI p1, sI p2, sI p3, sI p4, sI p5, sI a, sI b, sI c, sI d, sI e5, sI b2351, sI b2355, sI b2359, sI r2361, sI r2364, sI r2367, sI r2370, sU, sU, sU, sU] [(.int r2367), (.int (0 : Int32)), (.ref b2408), (.ref b2408), (.int (1 : Int32)), (.ref b2373), (.ref b2373)])) rfl rfl (hb hby at_138)
  have v2415 : Arv Z h2414 b2408 k2408 .int (2 : Int32) [(.int r2367), (.int (0 : Int32))] (.int (0 : Int32)) := Arv.set Ar2414 q2414 S2414 N2414 H2414 G2414 rfl W2414 0 rfl (Nat.le_of_ble_eq_true rfl)
  have P2416 : Rg p e below (T2414.setTop (mkF m 139 #[sI p0, sI p1, sI p2, sI p3, sI p4, sI p5, sI a, sI b, sI c, sI d, sI e5, sI b2351, sI b2355, sI b2359, sI r2361, sI r2364, sI r2367, sI r2370, sU, sU, sU, sU] [(.ref b2408), (.int (1 : Int32)), (.ref b2373), (.ref b2373)])) B0 := fun t k => P2409 t (by
    refine XS.dup X2408.here hx rfl (hb hby at_134) rfl rfl ?_
    refine XS.iconst X2408.here hx rfl (hb hby at_135) ?_
    refine XS.iload X2408.here hx rfl (hb hby at_136) rfl ?_
    show Sg p e below (T2408.setTop (mkF m 138 #[sI p0, sI p1, sI p2, sI p3, sI p4, sI p5, sI a, sI b, sI c, sI d, sI e5, sI b2351, sI b2355, sI b2359, sI r2361, sI r2364, sI r2367, sI r2370, sU, sU, sU, sU] [(.int r2367), (.int (0 : Int32)), (.ref b2408), (.ref b2408), (.int (1 : Int32)), (.ref b2373), (.ref b2373)])) _
    exact st2414 _ k)
  have N2417 := Fr.snoc X2414 N2404 g_b2408
  have Z2418 : n0 ≤ h2414.size := Nat.le_trans Z2410 (Keep.of_wr W2414).1
  have K2419 : Keep h0 h2414 [] := K2411.wr W2414 (Or.inr sz_b2408)
  have O2420 : Old Z n0 h2414 := O2412.wr W2414 g_b2408
  obtain ⟨cl2421, Ar2421, q2421, S2421, N2421, H2421, G2421⟩ := id v2415
  obtain ⟨T2421, h2421, X2421, e2421, W2421, st2421⟩ := stI X2414 hx hZ e2414 Ar2421 (j := (1 : Int32)) (inb_of S2421 ⟨by decide, by decide⟩) (g := (mkF m 143 #[sI p0, sI p1, sI p2, sI p3, sI p4, sI p5, sI a, sI b, sI c, sI d, sI e5, sI b2351, sI b2355, sI b2359, sI r2361, sI r2364, sI r2367, sI r2370, sU, sU, sU, sU] [(.int r2370), (.int (1 : Int32)), (.ref b2408), (.ref b2408), (.int (1 : Int32)), (.ref b2373), (.ref b2373)])) rfl rfl (hb hby at_143)
  have v2422 : Arv Z h2421 b2408 k2408 .int (2 : Int32) [(.int r2367), (.int r2370)] (.int (0 : Int32)) := Arv.set Ar2421 q2421 S2421 N2421 H2421 G2421 rfl W2421 1 rfl (Nat.le_of_ble_eq_true rfl)
  have P2423 : Rg p e below (T2421.setTop (mkF m 144 #[sI p0, sI p1, sI p2, sI p3, sI p4, sI p5, sI a, sI b, sI c, sI d, sI e5, sI b2351, sI b2355, sI b2359, sI r2361, sI r2364, sI r2367, sI r2370, sU, sU, sU, sU] [(.ref b2408), (.int (1 : Int32)), (.ref b2373), (.ref b2373)])) B0 := fun t k => P2416 t (by
    refine XS.dup X2414.here hx rfl (hb hby at_139) rfl rfl ?_
    refine XS.iconst X2414.here hx rfl (hb hby at_140) ?_
    refine XS.iload X2414.here hx rfl (hb hby at_141) rfl ?_
    show Sg p e below (T2414.setTop (mkF m 143 #[sI p0, sI p1, sI p2, sI p3, sI p4, sI p5, sI a, sI b, sI c, sI d, sI e5, sI b2351, sI b2355, sI b2359, sI r2361, sI r2364, sI r2367, sI r2370, sU, sU, sU, sU] [(.int r2370), (.int (1 : Int32)), (.ref b2408), (.ref b2408), (.int (1 : Int32)), (.ref b2373), (.ref b2373)])) _
    exact st2421 _ k)
  have N2424 := Fr.snoc X2421 N2417 g_b2408
  have Z2425 : n0 ≤ h2421.size := Nat.le_trans Z2418 (Keep.of_wr W2421).1
  have K2426 : Keep h0 h2421 [] := K2419.wr W2421 (Or.inr sz_b2408)
  have O2427 : Old Z n0 h2421 := O2420.wr W2421 g_b2408
  have f2428 := (((v2402.ext E2408).other W2414 (Nat.ne_of_lt (Nat.lt_of_lt_of_le v2402.lt (Nat.le_of_eq g2408.symm)))).other W2421 (Nat.ne_of_lt (Nat.lt_of_lt_of_le v2402.lt (Nat.le_of_eq g2408.symm))))
  have f2430 := ((B2408.wr W2414).wr W2421)
  obtain ⟨cl2429, Ar2429, q2429, S2429, N2429, H2429, G2429⟩ := id f2428
  obtain ⟨T2429, h2429, X2429, e2429, W2429, st2429⟩ := stR X2421 hx hZ e2421 Ar2429 (j := (1 : Int32)) (inb_of S2429 ⟨by decide, by decide⟩) rfl (Sto.ofVA Ar2429 q2429 O2373 (Ins.self f2430)) (g := (mkF m 144 #[sI p0, sI p1, sI p2, sI p3, sI p4, sI p5, sI a, sI b, sI c, sI d, sI e5, sI b2351, sI b2355, sI b2359, sI r2361, sI r2364, sI r2367, sI r2370, sU, sU, sU, sU] [(.ref b2408), (.int (1 : Int32)), (.ref b2373), (.ref b2373)])) rfl rfl (hb hby at_144)
  have v2431 : Arv Z h2429 b2373 k2373 (.array .int) (2 : Int32) [(.ref b2379), (.ref b2408)] .null := Arv.set Ar2429 q2429 S2429 N2429 H2429 G2429 rfl W2429 1 rfl (Nat.le_of_ble_eq_true rfl)
  have P2432 : Rg p e below (T2429.setTop (mkF m 145 #[sI p0, sI p1, sI p2, sI p3, sI p4, sI p5, sI a, sI b, sI c, sI d, sI e5, sI b2351, sI b2355, sI b2359, sI r2361, sI r2364, sI r2367, sI r2370, sU, sU, sU, sU] [(.ref b2373)])) B0 := fun t k => P2423 t (by
    exact st2429 _ k)
  have N2433 := Fr.snoc X2429 N2424 g_b2373
  have Z2434 : n0 ≤ h2429.size := Nat.le_trans Z2425 (Keep.of_wr W2429).1
  have K2435 : Keep h0 h2429 [] := K2426.wr W2429 (Or.inr sz_b2373)
  have O2436 : Old Z n0 h2429 := O2427.wr W2429 g_b2373
  obtain ⟨T2437, h2437, X2437, e2437, E2437, A2437, D2437, -, st2437⟩ := newO X2429 hx hZ hown (own_hw hw 12 rfl) (own_hw hw 13 rfl) (own_hw hw 14 rfl) e2429 (g := (mkF m 147 #[sI p0, sI p1, sI p2, sI p3, sI p4, sI p5, sI a, sI b, sI c, sI d, sI e5, sI b2351, sI b2355, sI b2359, sI r2361, sI r2364, sI r2367, sI r2370, sR b2373, sU, sU, sU] [])) rfl (hb hby at_147) (by decide) (by decide)
  obtain ⟨b2437, g2437⟩ : ∃ z, z = h2429.size := ⟨_, rfl⟩
  rw [← g2437] at A2437 D2437 st2437
  have g_b2437 : n0 ≤ b2437 := Nat.le_trans Z2434 (Nat.le_of_eq g2437.symm)
  have sz_b2437 : h0.size ≤ b2437 := Nat.le_trans K2435.1 (Nat.le_of_eq g2437.symm)
  have P2438 : Rg p e below (T2437.setTop (mkF m 150 #[sI p0, sI p1, sI p2, sI p3, sI p4, sI p5, sI a, sI b, sI c, sI d, sI e5, sI b2351, sI b2355, sI b2359, sI r2361, sI r2364, sI r2367, sI r2370, sR b2373, sU, sU, sU] [(.ref b2437)])) B0 := fun t k => P2432 t (by
    refine XS.astore X2429.here hx rfl (hb hby at_145) rfl rfl (l' := #[sI p0, sI p1, sI p2, sI p3, sI p4, sI p5, sI a, sI b, sI c, sI d, sI e5, sI b2351, sI b2355, sI b2359, sI r2361, sI r2364, sI r2367, sI r2370, sR b2373, sU, sU, sU]) rfl ?_
    show Sg p e below (T2429.setTop (mkF m 147 #[sI p0, sI p1, sI p2, sI p3, sI p4, sI p5, sI a, sI b, sI c, sI d, sI e5, sI b2351, sI b2355, sI b2359, sI r2361, sI r2364, sI r2367, sI r2370, sR b2373, sU, sU, sU] [])) _
    exact st2437 _ k)
  have Z2439 : n0 ≤ h2437.size := Nat.le_trans Z2434 E2437.1
  have K2440 : Keep h0 h2437 [] := K2435.ext E2437
  have O2441 : Old Z n0 h2437 := O2436.ext E2437
  have f2442 : Fld Z h2437 b2437 sW "places" "[[I" .null := D2437 (Or.inr (own_hw hw 23 rfl)) (ty := (.array (.array .int))) (by decide)
  have f2443 : Fld Z h2437 b2437 sW "words" "[[J" .null := D2437 (Or.inr (own_hw hw 27 rfl)) (ty := (.array (.array .long))) (by decide)
  have f2444 := (v2431.ext E2437)
  have f2445 := ((((((v2393.other W2400 (Ne.symm (Nat.ne_of_lt (Nat.lt_of_lt_of_le v2378.lt (Nat.le_of_eq g2379.symm))))).ext E2408).other W2414 (Nat.ne_of_lt (Nat.lt_of_lt_of_le (f2401.wr W2400).lt (Nat.le_of_eq g2408.symm)))).other W2421 (Nat.ne_of_lt (Nat.lt_of_lt_of_le (f2401.wr W2400).lt (Nat.le_of_eq g2408.symm)))).other W2429 (Ne.symm (Nat.ne_of_lt (Nat.lt_of_lt_of_le v2378.lt (Nat.le_of_eq g2379.symm))))).ext E2437)
  have f2446 := ((v2422.other W2429 (Ne.symm (Nat.ne_of_lt (Nat.lt_of_lt_of_le v2402.lt (Nat.le_of_eq g2408.symm))))).ext E2437)
  obtain ⟨_, _, ⟨T2447, L2447, k2447, n2447⟩, -, X2447, ⟨Lc2447, hQ2447, l2447, y2447, z2447⟩, st2447⟩ := X2437.specialBack hx (y := (⟨"com/example/whittle/whittle/engine/WordSets", "<init>", "([[I)V"⟩ : MethodName)) rfl hown (mvT hZ (own_hw hw 15 rfl)) (mvT hZ (own_hw hw 16 rfl)) (mvT hZ (own_hw hw 17 rfl)) (by decide) (backOf (W := 1) (rm_wsInit l Z a0 hw [] b2437 b2373 k2373 b2379 b2408 k2379 k2408 (2 : Int32) (2 : Int32) [r2361, r2364] [r2367, r2370] h2437 n0 Z2439 g_b2437 A2437 f2442 f2443 f2444 f2445 rfl (Nat.le_refl _) f2446 rfl (Nat.le_refl _)) hZ (own_hw hw 17 rfl) (own_hw hw 14 rfl) (by decide) (by decide)) (g := (mkF m 153 #[sI p0, sI p1, sI p2, sI p3, sI p4, sI p5, sI a, sI b, sI c, sI d, sI e5, sI b2351, sI b2355, sI b2359, sI r2361, sI r2364, sI r2367, sI r2370, sR b2373, sU, sU, sU] [(.ref b2373), (.ref b2437), (.ref b2437)])) rfl (by rw [hml]; rfl) (Steps.refl _) (a := b2437) (argsL := [(.ref b2373)]) (rest := [(.ref b2437)]) (lenOf pd__28_5b_5bI_29V rfl) rfl (by show 2 * 0 + _ ≤ _; exact Nat.le_of_eq rfl) (hb hby at_153) (fun _ _ => ⟨rfl, e2437, (Nat.le_of_ble_eq_true rfl : 4 + 6 ≤ _), (Nat.le_of_ble_eq_true rfl : 8 + 12 ≤ _)⟩)
  dsimp only [Pt.U, Pt.locs, Pt.cells, Pt.slots] at X2447 l2447 y2447 z2447 st2447 hQ2447
  subst l2447 y2447 z2447
  obtain ⟨rfl, Nq2447, K2447, Ea2447, PP2447, WW2447, kPP2447, kWW2447, P02447, P12447, W02447, W12447, Fp2447, Fw2447, APP2447, AWW2447, s12447, s22447, ⟨kf02447, kg02447, pl0, wl0, N0, hpl0, hwl0, hN0, Af02447, Ag02447, Ef02447, Eg02447, s302447, s402447⟩, ⟨kf12447, kg12447, pl1, wl1, N1, hpl1, hwl1, hN1, Af12447, Ag12447, Ef12447, Eg12447, s312447, s412447⟩⟩ := hQ2447
  have N2448 := Fr.app N2433 Nq2447
  have P2449 : Rg p e below (T2447.setTop (mkF m 156 #[sI p0, sI p1, sI p2, sI p3, sI p4, sI p5, sI a, sI b, sI c, sI d, sI e5, sI b2351, sI b2355, sI b2359, sI r2361, sI r2364, sI r2367, sI r2370, sR b2373, sU, sU, sU] [(.ref b2437)])) B0 := fun t k => P2438 t (by
    refine XS.dup X2437.here hx rfl (hb hby at_150) rfl rfl ?_
    refine XS.aload X2437.here hx rfl (hb hby at_151) rfl rfl ?_
    show Sg p e below (T2437.setTop (mkF m 153 #[sI p0, sI p1, sI p2, sI p3, sI p4, sI p5, sI a, sI b, sI c, sI d, sI e5, sI b2351, sI b2355, sI b2359, sI r2361, sI r2364, sI r2367, sI r2370, sR b2373, sU, sU, sU] [(.ref b2373), (.ref b2437), (.ref b2437)])) _
    exact st2447.trans k)
  have Z2450 : n0 ≤ T2447.heap.size := Nat.le_trans Z2439 K2447.1
  have K2451 : Keep h0 T2447.heap [] := K2440.trans K2447 ((allS (Or.inr sz_b2437) all0))
  have O2452 : Old Z n0 T2447.heap := O2441.keep K2447 (allS g_b2437 all0)
  have g_PP2447 : n0 ≤ PP2447 := Nat.le_trans Z2439 s12447
  have sz_PP2447 : h0.size ≤ PP2447 := Nat.le_trans K2440.1 s12447
  have g_WW2447 : n0 ≤ WW2447 := Nat.le_trans Z2439 s22447
  have sz_WW2447 : h0.size ≤ WW2447 := Nat.le_trans K2440.1 s22447
  have g_P02447 : n0 ≤ P02447 := Nat.le_trans Z2439 s302447
  have sz_P02447 : h0.size ≤ P02447 := Nat.le_trans K2440.1 s302447
  have g_W02447 : n0 ≤ W02447 := Nat.le_trans Z2439 s402447
  have sz_W02447 : h0.size ≤ W02447 := Nat.le_trans K2440.1 s402447
  have g_P12447 : n0 ≤ P12447 := Nat.le_trans Z2439 s312447
  have sz_P12447 : h0.size ≤ P12447 := Nat.le_trans K2440.1 s312447
  have g_W12447 : n0 ≤ W12447 := Nat.le_trans Z2439 s412447
  have sz_W12447 : h0.size ≤ W12447 := Nat.le_trans K2440.1 s412447
  rw [← hpl0, ← hwl0] at mM0 mL0
  rw [← hpl0] at mP0 m20 m00 mZ0
  rw [← hwl0] at mN0
  have mS0 : ∀ x, own_M pl0 wl0 x ↔ (x = a ∨ x = b) := fun x => (mM0 x).trans (lm0 x)
  rw [← hpl1, ← hwl1] at mM1 mL1
  rw [← hpl1] at mP1 m21 m01 mZ1
  rw [← hwl1] at mN1
  have mS1 : ∀ x, own_M pl1 wl1 x ↔ (x = c ∨ x = d) := fun x => (mM1 x).trans (lm1 x)
  obtain ⟨T2453, h2453, X2453, e2453, E2453, A2453, D2453, -, st2453⟩ := newO X2447 hx hZ hown (own_hw hw 30 rfl) (own_hw hw 31 rfl) (own_hw hw 32 rfl) rfl (g := (mkF m 158 #[sI p0, sI p1, sI p2, sI p3, sI p4, sI p5, sI a, sI b, sI c, sI d, sI e5, sI b2351, sI b2355, sI b2359, sI r2361, sI r2364, sI r2367, sI r2370, sR b2373, sR b2437, sU, sU] [])) rfl (hb hby at_158) (by decide) (by decide)
  obtain ⟨b2453, g2453⟩ : ∃ z, z = T2447.heap.size := ⟨_, rfl⟩
  rw [← g2453] at A2453 D2453 st2453
  have g_b2453 : n0 ≤ b2453 := Nat.le_trans Z2450 (Nat.le_of_eq g2453.symm)
  have sz_b2453 : h0.size ≤ b2453 := Nat.le_trans K2451.1 (Nat.le_of_eq g2453.symm)
  have P2454 : Rg p e below (T2453.setTop (mkF m 161 #[sI p0, sI p1, sI p2, sI p3, sI p4, sI p5, sI a, sI b, sI c, sI d, sI e5, sI b2351, sI b2355, sI b2359, sI r2361, sI r2364, sI r2367, sI r2370, sR b2373, sR b2437, sU, sU] [(.ref b2453)])) B0 := fun t k => P2449 t (by
    refine XS.astore X2447.here hx rfl (hb hby at_156) rfl rfl (l' := #[sI p0, sI p1, sI p2, sI p3, sI p4, sI p5, sI a, sI b, sI c, sI d, sI e5, sI b2351, sI b2355, sI b2359, sI r2361, sI r2364, sI r2367, sI r2370, sR b2373, sR b2437, sU, sU]) rfl ?_
    show Sg p e below (T2447.setTop (mkF m 158 #[sI p0, sI p1, sI p2, sI p3, sI p4, sI p5, sI a, sI b, sI c, sI d, sI e5, sI b2351, sI b2355, sI b2359, sI r2361, sI r2364, sI r2367, sI r2370, sR b2373, sR b2437, sU, sU] [])) _
    exact st2453 _ k)
  have Z2455 : n0 ≤ h2453.size := Nat.le_trans Z2450 E2453.1
  have K2456 : Keep h0 h2453 [] := K2451.ext E2453
  have O2457 : Old Z n0 h2453 := O2452.ext E2453
  have f2458 : Fld Z h2453 b2453 sM "places" "[I" .null := D2453 (Or.inl (own_hw hw 38 rfl)) (ty := (.array .int)) (by decide)
  have f2459 : Fld Z h2453 b2453 sM "words" "[J" .null := D2453 (Or.inl (own_hw hw 40 rfl)) (ty := (.array .long)) (by decide)
  have f2460 : Fld Z h2453 b2453 sM "count" "I" (.int (0 : Int32)) := D2453 (Or.inl (own_hw hw 49 rfl)) (ty := .int) (by decide)
  obtain ⟨_, _, ⟨T2461, L2461, k2461, n2461⟩, -, X2461, ⟨Lc2461, hQ2461, l2461, y2461, z2461⟩, st2461⟩ := X2453.specialBack hx (y := (⟨"com/example/whittle/whittle/engine/WordSets$Meet", "<init>", "()V"⟩ : MethodName)) rfl hown (mvT hZ (own_hw hw 33 rfl)) (mvT hZ (own_hw hw 34 rfl)) (mvT hZ (own_hw hw 35 rfl)) (by decide) (backOf (W := 1) (rm_meInit l Z a0 hw [] b2453 h2453 n0 Z2455 g_b2453 A2453 f2458 f2459 f2460) hZ (own_hw hw 35 rfl) (own_hw hw 32 rfl) (by decide) (by decide)) (g := (mkF m 162 #[sI p0, sI p1, sI p2, sI p3, sI p4, sI p5, sI a, sI b, sI c, sI d, sI e5, sI b2351, sI b2355, sI b2359, sI r2361, sI r2364, sI r2367, sI r2370, sR b2373, sR b2437, sU, sU] [(.ref b2453), (.ref b2453)])) rfl (by rw [hml]; rfl) (Steps.refl _) (a := b2453) (argsL := []) (rest := [(.ref b2453)]) (lenOf pd__28_29V rfl) rfl (by show 2 * 0 + _ ≤ _; exact Nat.le_of_eq rfl) (hb hby at_162) (fun _ _ => ⟨rfl, e2453, (Nat.le_of_ble_eq_true rfl : 11 + 2 ≤ _), (Nat.le_of_ble_eq_true rfl : 23 + 0 ≤ _)⟩)
  dsimp only [Pt.U, Pt.locs, Pt.cells, Pt.slots] at X2461 l2461 y2461 z2461 st2461 hQ2461
  subst l2461 y2461 z2461
  obtain ⟨rfl, Nq2461, K2461, Ea2461, Fc2461, P2461, W2461, k2461, k22461, Fp2461, Fw2461, A12461, A22461, E12461, E22461, s12461, s22461⟩ := hQ2461
  have N2462 := Fr.app N2448 Nq2461
  have P2463 : Rg p e below (T2461.setTop (mkF m 165 #[sI p0, sI p1, sI p2, sI p3, sI p4, sI p5, sI a, sI b, sI c, sI d, sI e5, sI b2351, sI b2355, sI b2359, sI r2361, sI r2364, sI r2367, sI r2370, sR b2373, sR b2437, sU, sU] [(.ref b2453)])) B0 := fun t k => P2454 t (by
    refine XS.dup X2453.here hx rfl (hb hby at_161) rfl rfl ?_
    show Sg p e below (T2453.setTop (mkF m 162 #[sI p0, sI p1, sI p2, sI p3, sI p4, sI p5, sI a, sI b, sI c, sI d, sI e5, sI b2351, sI b2355, sI b2359, sI r2361, sI r2364, sI r2367, sI r2370, sR b2373, sR b2437, sU, sU] [(.ref b2453), (.ref b2453)])) _
    exact st2461.trans k)
  have Z2464 : n0 ≤ T2461.heap.size := Nat.le_trans Z2455 K2461.1
  have K2465 : Keep h0 T2461.heap [] := K2456.trans K2461 ((allS (Or.inr sz_b2453) all0))
  have O2466 : Old Z n0 T2461.heap := O2457.keep K2461 (allS g_b2453 all0)
  have g_P2461 : n0 ≤ P2461 := Nat.le_trans Z2455 s12461
  have sz_P2461 : h0.size ≤ P2461 := Nat.le_trans K2456.1 s12461
  have g_W2461 : n0 ≤ W2461 := Nat.le_trans Z2455 s22461
  have sz_W2461 : h0.size ≤ W2461 := Nat.le_trans K2456.1 s22461
  have bM : ∀ x, own_M ([] : List Int32) ([] : List Int64) x ↔ False := fun x => Iff.rfl
  by_cases q2467 : b2351 = (0 : Int32)
  · skip
    have P2468 : Rg p e below (T2461.setTop (mkF m 182 #[sI p0, sI p1, sI p2, sI p3, sI p4, sI p5, sI a, sI b, sI c, sI d, sI e5, sI b2351, sI b2355, sI b2359, sI r2361, sI r2364, sI r2367, sI r2370, sR b2373, sR b2437, sR b2453, sU] [(.int b2355)])) B0 := fun t k => P2463 t (by
      refine XS.astore X2461.here hx rfl (hb hby at_165) rfl rfl (l' := #[sI p0, sI p1, sI p2, sI p3, sI p4, sI p5, sI a, sI b, sI c, sI d, sI e5, sI b2351, sI b2355, sI b2359, sI r2361, sI r2364, sI r2367, sI r2370, sR b2373, sR b2437, sR b2453, sU]) rfl ?_
      refine XS.iload X2461.here hx rfl (hb hby at_167) rfl ?_
      refine XS.ifYes X2461.here hx rfl (pc0 := 169) (pc' := 180) rfl (hb hby at_169) rfl ((if0 _ _).trans (teq (show b2351 = (0 : Int32) from q2467)).1) (by decide) (by decide) ?_
      refine XS.iload X2461.here hx rfl (hb hby at_180) rfl ?_
      show Sg p e below (T2461.setTop (mkF m 182 #[sI p0, sI p1, sI p2, sI p3, sI p4, sI p5, sI a, sI b, sI c, sI d, sI e5, sI b2351, sI b2355, sI b2359, sI r2361, sI r2364, sI r2367, sI r2370, sR b2373, sR b2437, sR b2453, sU] [(.int b2355)])) _
      exact k)
    by_cases q2469 : b2355 = (0 : Int32)
    · skip
      by_cases q2470 : b2359 = (0 : Int32)
      · skip
        have P2471 : Rg p e below (T2461.setTop (mkF m 205 #[sI p0, sI p1, sI p2, sI p3, sI p4, sI p5, sI a, sI b, sI c, sI d, sI e5, sI b2351, sI b2355, sI b2359, sI r2361, sI r2364, sI r2367, sI r2370, sR b2373, sR b2437, sR b2453, sU] [])) B0 := fun t k => P2468 t (by
          refine XS.ifYes X2461.here hx rfl (pc0 := 182) (pc' := 193) rfl (hb hby at_182) rfl ((if0 _ _).trans (teq (show b2355 = (0 : Int32) from q2469)).1) (by decide) (by decide) ?_
          refine XS.iload X2461.here hx rfl (hb hby at_193) rfl ?_
          refine XS.ifYes X2461.here hx rfl (pc0 := 195) (pc' := 205) rfl (hb hby at_195) rfl ((if0 _ _).trans (teq (show b2359 = (0 : Int32) from q2470)).1) (by decide) (by decide) ?_
          show Sg p e below (T2461.setTop (mkF m 205 #[sI p0, sI p1, sI p2, sI p3, sI p4, sI p5, sI a, sI b, sI c, sI d, sI e5, sI b2351, sI b2355, sI b2359, sI r2361, sI r2364, sI r2367, sI r2370, sR b2373, sR b2437, sR b2453, sU] [])) _
          exact k)
        obtain ⟨T2472, h2472, L2472, z2472, X2472, e2472, Nq2472, K2472, u2472_0, st2472⟩ := pc_exq p0 p1 p2 p3 p4 p5 a b c d e5 b2351 b2355 b2359 r2361 r2364 r2367 r2370 b2373 b2437 b2453 X2461 hx hZ hw hby hml hown rfl N2462 Z2464 (Nat.le_of_ble_eq_true rfl) (Nat.le_of_ble_eq_true rfl) (by decide) (by decide) 
        have P2473 : Rg p e below (T2472.setTop (mkF m 252 #[sI p0, sI p1, sI p2, sI p3, sI p4, sI p5, sI a, sI b, sI c, sI d, sI e5, sI b2351, sI b2355, sI b2359, sI r2361, sI r2364, sI r2367, sI r2370, sR b2373, sR b2437, sR b2453, sI z2472] [])) B0 := fun t k => P2471 t (by
          exact st2472 _ k)
        have Z2474 : n0 ≤ h2472.size := Nat.le_trans Z2464 K2472.1
        have K2475 : Keep h0 h2472 [] := K2465.trans K2472 (all0)
        have O2476 : Old Z n0 h2472 := O2466.keep K2472 all0
        have f2477 := (Ea2461.keep K2472)
        have f2478 := (E12461.keep K2472)
        have f2479 := (E22461.keep K2472)
        have f2480 := (Fp2461.keep K2472 nin0)
        have f2481 := (Fw2461.keep K2472 nin0)
        have f2482 := (Fc2461.keep K2472 nin0)
        have f2483 := (A12461.keep K2472 nin0)
        have f2484 := (A22461.keep K2472 nin0)
        obtain ⟨cq2485, kq2485, q2485a, q2485b, q2485c⟩ := isOf hZ e2472 f2477
        obtain ⟨_, _, ⟨T2485, L2485, k2485, n2485⟩, -, X2485, ⟨Lc2485, hQ2485, l2485, y2485, z2485⟩, st2485⟩ := X2472.virtualBack hx (y := (⟨"com/example/whittle/whittle/engine/WordSets$Meet", "isEmpty", "()Z"⟩ : MethodName)) (z := (⟨"com/example/whittle/whittle/engine/WordSets$Meet", "isEmpty", "()Z"⟩ : MethodName)) hown (mvT hZ (own_hw hw 59 rfl)) (mvT hZ (own_hw hw 60 rfl)) (notFace_of_selects (args := #[]) (mvT hZ (own_hw hw 62 rfl))) (mvT hZ (own_hw hw 62 rfl)) (mvT hZ (own_hw hw 61 rfl)) (by decide) (backOf (W := 0) (rm_emp l Z a0 hw [] b2453 P2461 W2461 k2461 k22461 (0 : Int32) ([] : List Int32) ([] : List Int32) ([] : List Int64) ([] : List Int64) (0 : Int32) h2472 n0 Z2474 g_b2453 g_P2461 g_W2461 f2477 f2478 f2479 f2480 f2481 f2482 f2483 f2484 rfl (Nat.zero_le _) rfl rfl rfl (Nat.zero_le _)) hZ (own_hw hw 63 rfl) (own_hw hw 32 rfl) (by decide) (by decide)) q2485a q2485c (g := (mkF m 254 #[sI p0, sI p1, sI p2, sI p3, sI p4, sI p5, sI a, sI b, sI c, sI d, sI e5, sI b2351, sI b2355, sI b2359, sI r2361, sI r2364, sI r2367, sI r2370, sR b2373, sR b2437, sR b2453, sI z2472] [(.ref b2453)])) rfl (by rw [hml]; rfl) (Steps.refl _) (argsL := []) (rest := []) (lenOf pd__28_29Z rfl) rfl (by show 2 * 0 + _ ≤ _; exact Nat.le_of_eq rfl) (hb hby at_254) (fun _ _ => ⟨rfl, e2472, (Nat.le_of_ble_eq_true rfl : 13 + 0 ≤ _), (Nat.le_of_ble_eq_true rfl : 23 + 0 ≤ _)⟩)
        dsimp only [Pt.U, Pt.locs, Pt.cells, Pt.slots] at X2485 l2485 y2485 z2485 st2485 hQ2485
        subst l2485 y2485 z2485
        obtain ⟨rfl, Nq2485, e2485⟩ := hQ2485
        have N2486 := Fr.app Nq2472 Nq2485
        have P2487 : Rg p e below (T2485.setTop (mkF m 257 #[sI p0, sI p1, sI p2, sI p3, sI p4, sI p5, sI a, sI b, sI c, sI d, sI e5, sI b2351, sI b2355, sI b2359, sI r2361, sI r2364, sI r2367, sI r2370, sR b2373, sR b2437, sR b2453, sI z2472] [(.int (own_emp ([] : List Int64)))])) B0 := fun t k => P2473 t (by
          refine XS.aload X2472.here hx rfl (hb hby at_252) rfl rfl ?_
          show Sg p e below (T2472.setTop (mkF m 254 #[sI p0, sI p1, sI p2, sI p3, sI p4, sI p5, sI a, sI b, sI c, sI d, sI e5, sI b2351, sI b2355, sI b2359, sI r2361, sI r2364, sI r2367, sI r2370, sR b2373, sR b2437, sR b2453, sI z2472] [(.ref b2453)])) _
          exact st2485.trans k)
        have fin2485 : own_emp ([] : List Int64) = z2472 := own_fin1 rfl own_nilz (fun x => ((bM x).trans (by simp [q2467, q2469, q2470, and_assoc]))) u2472_0
        obtain ⟨fs2488, hr2488, hrun2488, hended2488, hW2488, hsame2488⟩ := X2485.leave (v := some (.int (1 : Int32))) (fun h => by rw [Bd.returns] at h; cases h)
        refine ⟨_, _, pre0 _ (P2487 _ ?_), hrun2488, hended2488, _, _, rfl, ?_, ⟨⟨_, rfl⟩, hW2488, hsame2488.mono (Nat.le_of_ble_eq_true rfl) (Nat.le_of_ble_eq_true rfl)⟩⟩
        · show Sg p e below (T2485.setTop (mkF m 257 #[sI p0, sI p1, sI p2, sI p3, sI p4, sI p5, sI a, sI b, sI c, sI d, sI e5, sI b2351, sI b2355, sI b2359, sI r2361, sI r2364, sI r2367, sI r2370, sR b2373, sR b2437, sR b2453, sI z2472] [(.int (own_emp ([] : List Int64)))])) _
          refine XS.iload X2485.here hx rfl (hb hby at_257) rfl ?_
          refine XS.icmpNo X2485.here hx rfl (hb hby at_259) rfl (teq (show (own_emp ([] : List Int64)) = z2472 from fin2485)).2 ?_
          refine XS.iconst X2485.here hx rfl (hb hby at_262) ?_
          refine XS.goto X2485.here hx rfl (pc0 := 263) (pc' := 267) rfl (hb hby at_263) (by decide) (by decide) ?_
          show Sg p e below (T2485.setTop (mkF m 267 #[sI p0, sI p1, sI p2, sI p3, sI p4, sI p5, sI a, sI b, sI c, sI d, sI e5, sI b2351, sI b2355, sI b2359, sI r2361, sI r2364, sI r2367, sI r2370, sR b2373, sR b2437, sR b2453, sI z2472] [(.int (1 : Int32))])) _
          exact retN X2485 hx (t := .boolean) Bd.returns (by simp) (hb hby at_267) hr2488
        · show Q_law  h0 n0 _ T2485.heap _
          rw [e2485]
          exact ⟨rfl, N2486⟩
      · skip
        obtain ⟨cq2489, kq2489, q2489a, q2489b, q2489c⟩ := isOf hZ rfl Ea2461
        obtain ⟨_, _, ⟨T2489, L2489, k2489, n2489⟩, -, X2489, ⟨Lc2489, hQ2489, l2489, y2489, z2489⟩, st2489⟩ := X2461.virtualBack hx (y := (⟨"com/example/whittle/whittle/engine/WordSets$Meet", "remove", "(I)V"⟩ : MethodName)) (z := (⟨"com/example/whittle/whittle/engine/WordSets$Meet", "remove", "(I)V"⟩ : MethodName)) hown (mvT hZ (own_hw hw 64 rfl)) (mvT hZ (own_hw hw 65 rfl)) (notFace_of_selects (args := #[]) (mvT hZ (own_hw hw 67 rfl))) (mvT hZ (own_hw hw 67 rfl)) (mvT hZ (own_hw hw 66 rfl)) (by decide) (backOf (W := 0) (rm_rmv l Z a0 hw [] b2453 P2461 W2461 k2461 k22461 (0 : Int32) ([] : List Int32) ([] : List Int32) ([] : List Int64) ([] : List Int64) (0 : Int32) e5 T2461.heap n0 Z2464 g_b2453 g_P2461 g_W2461 Ea2461 E12461 E22461 Fp2461 Fw2461 Fc2461 A12461 A22461 rfl (Nat.zero_le _) rfl rfl rfl List.Pairwise.nil (Nat.zero_le _)) hZ (own_hw hw 68 rfl) (own_hw hw 32 rfl) (by decide) (by decide)) q2489a q2489c (g := (mkF m 202 #[sI p0, sI p1, sI p2, sI p3, sI p4, sI p5, sI a, sI b, sI c, sI d, sI e5, sI b2351, sI b2355, sI b2359, sI r2361, sI r2364, sI r2367, sI r2370, sR b2373, sR b2437, sR b2453, sU] [(.int e5), (.ref b2453)])) rfl (by rw [hml]; rfl) (Steps.refl _) (argsL := [(.int e5)]) (rest := []) (lenOf pd__28I_29V rfl) rfl (by show 2 * 0 + _ ≤ _; exact Nat.le_of_eq rfl) (hb hby at_202) (fun _ _ => ⟨rfl, rfl, (Nat.le_of_ble_eq_true rfl : 13 + 0 ≤ _), (Nat.le_of_ble_eq_true rfl : 23 + 0 ≤ _)⟩)
        dsimp only [Pt.U, Pt.locs, Pt.cells, Pt.slots] at X2489 l2489 y2489 z2489 st2489 hQ2489
        subst l2489 y2489 z2489
        obtain ⟨rfl, Nq2489, K2489, A2489⟩ := hQ2489
        have N2490 := Fr.app N2462 Nq2489
        have P2491 : Rg p e below (T2489.setTop (mkF m 205 #[sI p0, sI p1, sI p2, sI p3, sI p4, sI p5, sI a, sI b, sI c, sI d, sI e5, sI b2351, sI b2355, sI b2359, sI r2361, sI r2364, sI r2367, sI r2370, sR b2373, sR b2437, sR b2453, sU] [])) B0 := fun t k => P2468 t (by
          refine XS.ifYes X2461.here hx rfl (pc0 := 182) (pc' := 193) rfl (hb hby at_182) rfl ((if0 _ _).trans (teq (show b2355 = (0 : Int32) from q2469)).1) (by decide) (by decide) ?_
          refine XS.iload X2461.here hx rfl (hb hby at_193) rfl ?_
          refine XS.ifNo X2461.here hx rfl (hb hby at_195) rfl ((if0 _ _).trans (feq (show ¬ (b2359 = (0 : Int32)) from q2470)).1) ?_
          refine XS.aload X2461.here hx rfl (hb hby at_198) rfl rfl ?_
          refine XS.iload X2461.here hx rfl (hb hby at_200) rfl ?_
          show Sg p e below (T2461.setTop (mkF m 202 #[sI p0, sI p1, sI p2, sI p3, sI p4, sI p5, sI a, sI b, sI c, sI d, sI e5, sI b2351, sI b2355, sI b2359, sI r2361, sI r2364, sI r2367, sI r2370, sR b2373, sR b2437, sR b2453, sU] [(.int e5), (.ref b2453)])) _
          exact st2489.trans k)
        have Z2492 : n0 ≤ T2489.heap.size := Nat.le_trans Z2464 K2489.1
        have K2493 : Keep h0 T2489.heap [] := K2465.trans K2489 ((allS (Or.inr sz_W2461) all0))
        have O2494 : Old Z n0 T2489.heap := O2466.keep K2489 (allS g_W2461 all0)
        obtain ⟨w2489, hw2489⟩ : ∃ z : List Int64, z = own_rem ([] : List Int32) ([] : List Int64) e5 := ⟨_, rfl⟩
        rw [← hw2489] at A2489
        have hl2489 : w2489.length = ([] : List Int32).length := by rw [hw2489, own_rem_len]; exact rfl
        have mem2489 := fun x => (own_Mrem (pl := ([] : List Int32)) (wv := ([] : List Int64)) (m := e5) (x := x)).trans (and_congr_left fun _ => bM x)
        rw [← hw2489] at mem2489
        obtain ⟨T2495, h2495, L2495, z2495, X2495, e2495, Nq2495, K2495, u2495_0, st2495⟩ := pc_exq p0 p1 p2 p3 p4 p5 a b c d e5 b2351 b2355 b2359 r2361 r2364 r2367 r2370 b2373 b2437 b2453 X2489 hx hZ hw hby hml hown rfl N2490 Z2492 (Nat.le_of_ble_eq_true rfl) (Nat.le_of_ble_eq_true rfl) (by decide) (by decide) 
        have P2496 : Rg p e below (T2495.setTop (mkF m 252 #[sI p0, sI p1, sI p2, sI p3, sI p4, sI p5, sI a, sI b, sI c, sI d, sI e5, sI b2351, sI b2355, sI b2359, sI r2361, sI r2364, sI r2367, sI r2370, sR b2373, sR b2437, sR b2453, sI z2495] [])) B0 := fun t k => P2491 t (by
          exact st2495 _ k)
        have Z2497 : n0 ≤ h2495.size := Nat.le_trans Z2492 K2495.1
        have K2498 : Keep h0 h2495 [] := K2493.trans K2495 (all0)
        have O2499 : Old Z n0 h2495 := O2494.keep K2495 all0
        have f2500 := ((Ea2461.keep K2489).keep K2495)
        have f2501 := ((E12461.keep K2489).keep K2495)
        have f2502 := ((E22461.keep K2489).keep K2495)
        have f2503 := ((Fp2461.keep K2489 (ninS (Nat.ne_of_lt (Nat.lt_of_lt_of_le f2460.lt s22461)) nin0)).keep K2495 nin0)
        have f2504 := ((Fw2461.keep K2489 (ninS (Nat.ne_of_lt (Nat.lt_of_lt_of_le f2460.lt s22461)) nin0)).keep K2495 nin0)
        have f2505 := ((Fc2461.keep K2489 (ninS (Nat.ne_of_lt (Nat.lt_of_lt_of_le f2460.lt s22461)) nin0)).keep K2495 nin0)
        have f2506 := ((A12461.keep K2489 (ninS (Exa.ne E12461 E22461 (by decide)) nin0)).keep K2495 nin0)
        have f2507 := (A2489.keep K2495 nin0)
        obtain ⟨cq2508, kq2508, q2508a, q2508b, q2508c⟩ := isOf hZ e2495 f2500
        obtain ⟨_, _, ⟨T2508, L2508, k2508, n2508⟩, -, X2508, ⟨Lc2508, hQ2508, l2508, y2508, z2508⟩, st2508⟩ := X2495.virtualBack hx (y := (⟨"com/example/whittle/whittle/engine/WordSets$Meet", "isEmpty", "()Z"⟩ : MethodName)) (z := (⟨"com/example/whittle/whittle/engine/WordSets$Meet", "isEmpty", "()Z"⟩ : MethodName)) hown (mvT hZ (own_hw hw 59 rfl)) (mvT hZ (own_hw hw 60 rfl)) (notFace_of_selects (args := #[]) (mvT hZ (own_hw hw 62 rfl))) (mvT hZ (own_hw hw 62 rfl)) (mvT hZ (own_hw hw 61 rfl)) (by decide) (backOf (W := 0) (rm_emp l Z a0 hw [] b2453 P2461 W2461 k2461 k22461 (0 : Int32) ([] : List Int32) ([] : List Int32) w2489 ([] : List Int64) (0 : Int32) h2495 n0 Z2497 g_b2453 g_P2461 g_W2461 f2500 f2501 f2502 f2503 f2504 f2505 f2506 f2507 rfl (Nat.zero_le _) rfl hl2489 rfl (Nat.zero_le _)) hZ (own_hw hw 63 rfl) (own_hw hw 32 rfl) (by decide) (by decide)) q2508a q2508c (g := (mkF m 254 #[sI p0, sI p1, sI p2, sI p3, sI p4, sI p5, sI a, sI b, sI c, sI d, sI e5, sI b2351, sI b2355, sI b2359, sI r2361, sI r2364, sI r2367, sI r2370, sR b2373, sR b2437, sR b2453, sI z2495] [(.ref b2453)])) rfl (by rw [hml]; rfl) (Steps.refl _) (argsL := []) (rest := []) (lenOf pd__28_29Z rfl) rfl (by show 2 * 0 + _ ≤ _; exact Nat.le_of_eq rfl) (hb hby at_254) (fun _ _ => ⟨rfl, e2495, (Nat.le_of_ble_eq_true rfl : 13 + 0 ≤ _), (Nat.le_of_ble_eq_true rfl : 23 + 0 ≤ _)⟩)
        dsimp only [Pt.U, Pt.locs, Pt.cells, Pt.slots] at X2508 l2508 y2508 z2508 st2508 hQ2508
        subst l2508 y2508 z2508
        obtain ⟨rfl, Nq2508, e2508⟩ := hQ2508
        have N2509 := Fr.app Nq2495 Nq2508
        have P2510 : Rg p e below (T2508.setTop (mkF m 257 #[sI p0, sI p1, sI p2, sI p3, sI p4, sI p5, sI a, sI b, sI c, sI d, sI e5, sI b2351, sI b2355, sI b2359, sI r2361, sI r2364, sI r2367, sI r2370, sR b2373, sR b2437, sR b2453, sI z2495] [(.int (own_emp w2489))])) B0 := fun t k => P2496 t (by
          refine XS.aload X2495.here hx rfl (hb hby at_252) rfl rfl ?_
          show Sg p e below (T2495.setTop (mkF m 254 #[sI p0, sI p1, sI p2, sI p3, sI p4, sI p5, sI a, sI b, sI c, sI d, sI e5, sI b2351, sI b2355, sI b2359, sI r2361, sI r2364, sI r2367, sI r2370, sR b2373, sR b2437, sR b2453, sI z2495] [(.ref b2453)])) _
          exact st2508.trans k)
        have fin2508 : own_emp w2489 = z2495 := own_fin1 hl2489 own_nilz (fun x => ((mem2489 x).trans (by simp [q2467, q2469, q2470, and_assoc]))) u2495_0
        obtain ⟨fs2511, hr2511, hrun2511, hended2511, hW2511, hsame2511⟩ := X2508.leave (v := some (.int (1 : Int32))) (fun h => by rw [Bd.returns] at h; cases h)
        refine ⟨_, _, pre0 _ (P2510 _ ?_), hrun2511, hended2511, _, _, rfl, ?_, ⟨⟨_, rfl⟩, hW2511, hsame2511.mono (Nat.le_of_ble_eq_true rfl) (Nat.le_of_ble_eq_true rfl)⟩⟩
        · show Sg p e below (T2508.setTop (mkF m 257 #[sI p0, sI p1, sI p2, sI p3, sI p4, sI p5, sI a, sI b, sI c, sI d, sI e5, sI b2351, sI b2355, sI b2359, sI r2361, sI r2364, sI r2367, sI r2370, sR b2373, sR b2437, sR b2453, sI z2495] [(.int (own_emp w2489))])) _
          refine XS.iload X2508.here hx rfl (hb hby at_257) rfl ?_
          refine XS.icmpNo X2508.here hx rfl (hb hby at_259) rfl (teq (show (own_emp w2489) = z2495 from fin2508)).2 ?_
          refine XS.iconst X2508.here hx rfl (hb hby at_262) ?_
          refine XS.goto X2508.here hx rfl (pc0 := 263) (pc' := 267) rfl (hb hby at_263) (by decide) (by decide) ?_
          show Sg p e below (T2508.setTop (mkF m 267 #[sI p0, sI p1, sI p2, sI p3, sI p4, sI p5, sI a, sI b, sI c, sI d, sI e5, sI b2351, sI b2355, sI b2359, sI r2361, sI r2364, sI r2367, sI r2370, sR b2373, sR b2437, sR b2453, sI z2495] [(.int (1 : Int32))])) _
          exact retN X2508 hx (t := .boolean) Bd.returns (by simp) (hb hby at_267) hr2511
        · show Q_law  h0 n0 _ T2508.heap _
          rw [e2508]
          exact ⟨rfl, N2509⟩
    · skip
      have f2512 := ((Ea2447.ext E2453).keep K2461)
      have f2513 := ((Fp2447.ext E2453).keep K2461 (ninS (Nat.ne_of_lt (Nat.lt_of_lt_of_le Fw2447.lt (Nat.le_of_eq g2453.symm))) nin0))
      have f2514 := ((Fw2447.ext E2453).keep K2461 (ninS (Nat.ne_of_lt (Nat.lt_of_lt_of_le Fw2447.lt (Nat.le_of_eq g2453.symm))) nin0))
      have f2515 := ((APP2447.ext E2453).keep K2461 (ninS (Nat.ne_of_lt (Nat.lt_of_lt_of_le APP2447.lt (Nat.le_of_eq g2453.symm))) nin0))
      have f2516 := ((AWW2447.ext E2453).keep K2461 (ninS (Nat.ne_of_lt (Nat.lt_of_lt_of_le AWW2447.lt (Nat.le_of_eq g2453.symm))) nin0))
      have f2517 := ((Af12447.ext E2453).keep K2461 (ninS (Nat.ne_of_lt (Nat.lt_of_lt_of_le Ef12447.lt (Nat.le_of_eq g2453.symm))) nin0))
      have f2518 := ((Ag12447.ext E2453).keep K2461 (ninS (Nat.ne_of_lt (Nat.lt_of_lt_of_le Eg12447.lt (Nat.le_of_eq g2453.symm))) nin0))
      have f2519 := ((Ef12447.ext E2453).keep K2461)
      have f2520 := ((Eg12447.ext E2453).keep K2461)
      obtain ⟨cq2521, kq2521, q2521a, q2521b, q2521c⟩ := isOf hZ rfl Ea2461
      obtain ⟨_, _, ⟨T2521, L2521, k2521, n2521⟩, -, X2521, ⟨Lc2521, hQ2521, l2521, y2521, z2521⟩, st2521⟩ := X2461.virtualBack hx (y := (⟨"com/example/whittle/whittle/engine/WordSets$Meet", "retain", "(Lcom/example/whittle/whittle/engine/WordSets;I)V"⟩ : MethodName)) (z := (⟨"com/example/whittle/whittle/engine/WordSets$Meet", "retain", "(Lcom/example/whittle/whittle/engine/WordSets;I)V"⟩ : MethodName)) hown (mvT hZ (own_hw hw 50 rfl)) (mvT hZ (own_hw hw 51 rfl)) (notFace_of_selects (args := #[]) (mvT hZ (own_hw hw 53 rfl))) (mvT hZ (own_hw hw 53 rfl)) (mvT hZ (own_hw hw 52 rfl)) (by decide) (backOf (W := 0) (rm_ret l Z a0 hw [] b2453 P2461 W2461 k2461 k22461 (0 : Int32) ([] : List Int32) ([] : List Int32) ([] : List Int64) ([] : List Int64) (0 : Int32) b2437 PP2447 WW2447 P02447 P12447 W02447 W12447 kPP2447 kWW2447 kf12447 kg12447 N1 pl1 wl1 T2461.heap n0 Z2464 g_b2453 g_P2461 g_W2461 Ea2461 E12461 E22461 Fp2461 Fw2461 Fc2461 A12461 A22461 rfl (Nat.zero_le _) rfl rfl rfl List.Pairwise.nil (Nat.zero_le _) f2512 f2513 f2514 f2515 f2516 f2517 f2518 f2519 f2520 hN1 m21 mL1 mP1 (Nat.ne_of_lt (Nat.lt_of_lt_of_le (Ef12447.ext E2453).lt s12461)) (Nat.ne_of_lt (Nat.lt_of_lt_of_le (Eg12447.ext E2453).lt s22461))) hZ (own_hw hw 54 rfl) (own_hw hw 32 rfl) (by decide) (by decide)) q2521a q2521c (g := (mkF m 190 #[sI p0, sI p1, sI p2, sI p3, sI p4, sI p5, sI a, sI b, sI c, sI d, sI e5, sI b2351, sI b2355, sI b2359, sI r2361, sI r2364, sI r2367, sI r2370, sR b2373, sR b2437, sR b2453, sU] [(.int (1 : Int32)), (.ref b2437), (.ref b2453)])) rfl (by rw [hml]; rfl) (Steps.refl _) (argsL := [(.ref b2437), (.int (1 : Int32))]) (rest := []) (lenOf pd__28Lcom_2fexample_2fwhittle_2fwhittle_2fengine_2fWordSets_3bI_29V rfl) rfl (by show 2 * 0 + _ ≤ _; exact Nat.le_of_eq rfl) (hb hby at_190) (fun _ _ => ⟨rfl, rfl, (Nat.le_of_ble_eq_true rfl : 13 + 0 ≤ _), (Nat.le_of_ble_eq_true rfl : 23 + 0 ≤ _)⟩)
      dsimp only [Pt.U, Pt.locs, Pt.cells, Pt.slots] at X2521 l2521 y2521 z2521 st2521 hQ2521
      subst l2521 y2521 z2521
      obtain ⟨rfl, Nq2521, K2521, pr2521, ur2521, wr2521, vr2521, cn2521, hp2521, hw2521, hc2521, hq2521, hl2521, hv2521, Fc2521, Fp2521, Fw2521, A12521, A22521⟩ := hQ2521
      have N2522 := Fr.app N2462 Nq2521
      have P2523 : Rg p e below (T2521.setTop (mkF m 193 #[sI p0, sI p1, sI p2, sI p3, sI p4, sI p5, sI a, sI b, sI c, sI d, sI e5, sI b2351, sI b2355, sI b2359, sI r2361, sI r2364, sI r2367, sI r2370, sR b2373, sR b2437, sR b2453, sU] [])) B0 := fun t k => P2468 t (by
        refine XS.ifNo X2461.here hx rfl (hb hby at_182) rfl ((if0 _ _).trans (feq (show ¬ (b2355 = (0 : Int32)) from q2469)).1) ?_
        refine XS.aload X2461.here hx rfl (hb hby at_185) rfl rfl ?_
        refine XS.aload X2461.here hx rfl (hb hby at_187) rfl rfl ?_
        refine XS.iconst X2461.here hx rfl (hb hby at_189) ?_
        show Sg p e below (T2461.setTop (mkF m 190 #[sI p0, sI p1, sI p2, sI p3, sI p4, sI p5, sI a, sI b, sI c, sI d, sI e5, sI b2351, sI b2355, sI b2359, sI r2361, sI r2364, sI r2367, sI r2370, sR b2373, sR b2437, sR b2453, sU] [(.int (1 : Int32)), (.ref b2437), (.ref b2453)])) _
        exact st2521.trans k)
      have Z2524 : n0 ≤ T2521.heap.size := Nat.le_trans Z2464 K2521.1
      have K2525 : Keep h0 T2521.heap [] := K2465.trans K2521 ((allS (Or.inr sz_b2453) (allS (Or.inr sz_P2461) (allS (Or.inr sz_W2461) all0))))
      have O2526 : Old Z n0 T2521.heap := O2466.keep K2521 (allS g_b2453 (allS g_P2461 (allS g_W2461 all0)))
      have hM2521 : (0 : Int32) = Int32.ofNat (pr2521 ++ ur2521).length := by rw [hq2521]; exact rfl
      have hm2521 : (pr2521 ++ ur2521).length ≤ 3 := by rw [hq2521]; exact (Nat.zero_le _)
      have hsb2521 : pr2521.Sublist ([] : List Int32) := by rw [hp2521]; exact own_rsub
      have hs2521 : pr2521.Pairwise (· < ·) := List.Pairwise.sublist hsb2521 List.Pairwise.nil
      have h22521 : pr2521.length ≤ 2 := Nat.le_trans hsb2521.length_le (Nat.zero_le _)
      have hz2521 : ∀ p ∈ pr2521, ∃ z, p = own_sh z := fun p hp => own_nilz p (hsb2521.subset hp)
      have mem2521 : ∀ x, own_M pr2521 wr2521 x ↔ (own_M ([] : List Int32) ([] : List Int64) x ∧ own_M pl1 wl1 x) := fun x => by rw [hp2521, hw2521]; exact own_Mret mP1
      have memb2521 := fun x => (mem2521 x).trans (and_congr (bM x) (mS1 x))
      by_cases q2527 : b2359 = (0 : Int32)
      · skip
        have P2528 : Rg p e below (T2521.setTop (mkF m 205 #[sI p0, sI p1, sI p2, sI p3, sI p4, sI p5, sI a, sI b, sI c, sI d, sI e5, sI b2351, sI b2355, sI b2359, sI r2361, sI r2364, sI r2367, sI r2370, sR b2373, sR b2437, sR b2453, sU] [])) B0 := fun t k => P2523 t (by
          refine XS.iload X2521.here hx rfl (hb hby at_193) rfl ?_
          refine XS.ifYes X2521.here hx rfl (pc0 := 195) (pc' := 205) rfl (hb hby at_195) rfl ((if0 _ _).trans (teq (show b2359 = (0 : Int32) from q2527)).1) (by decide) (by decide) ?_
          show Sg p e below (T2521.setTop (mkF m 205 #[sI p0, sI p1, sI p2, sI p3, sI p4, sI p5, sI a, sI b, sI c, sI d, sI e5, sI b2351, sI b2355, sI b2359, sI r2361, sI r2364, sI r2367, sI r2370, sR b2373, sR b2437, sR b2453, sU] [])) _
          exact k)
        obtain ⟨T2529, h2529, L2529, z2529, X2529, e2529, Nq2529, K2529, u2529_0, st2529⟩ := pc_exq p0 p1 p2 p3 p4 p5 a b c d e5 b2351 b2355 b2359 r2361 r2364 r2367 r2370 b2373 b2437 b2453 X2521 hx hZ hw hby hml hown rfl N2522 Z2524 (Nat.le_of_ble_eq_true rfl) (Nat.le_of_ble_eq_true rfl) (by decide) (by decide) 
        have P2530 : Rg p e below (T2529.setTop (mkF m 252 #[sI p0, sI p1, sI p2, sI p3, sI p4, sI p5, sI a, sI b, sI c, sI d, sI e5, sI b2351, sI b2355, sI b2359, sI r2361, sI r2364, sI r2367, sI r2370, sR b2373, sR b2437, sR b2453, sI z2529] [])) B0 := fun t k => P2528 t (by
          exact st2529 _ k)
        have Z2531 : n0 ≤ h2529.size := Nat.le_trans Z2524 K2529.1
        have K2532 : Keep h0 h2529 [] := K2525.trans K2529 (all0)
        have O2533 : Old Z n0 h2529 := O2526.keep K2529 all0
        have f2534 := ((Ea2461.keep K2521).keep K2529)
        have f2535 := ((E12461.keep K2521).keep K2529)
        have f2536 := ((E22461.keep K2521).keep K2529)
        have f2537 := (Fp2521.keep K2529 nin0)
        have f2538 := (Fw2521.keep K2529 nin0)
        have f2539 := (Fc2521.keep K2529 nin0)
        have f2540 := (A12521.keep K2529 nin0)
        have f2541 := (A22521.keep K2529 nin0)
        obtain ⟨cq2542, kq2542, q2542a, q2542b, q2542c⟩ := isOf hZ e2529 f2534
        obtain ⟨_, _, ⟨T2542, L2542, k2542, n2542⟩, -, X2542, ⟨Lc2542, hQ2542, l2542, y2542, z2542⟩, st2542⟩ := X2529.virtualBack hx (y := (⟨"com/example/whittle/whittle/engine/WordSets$Meet", "isEmpty", "()Z"⟩ : MethodName)) (z := (⟨"com/example/whittle/whittle/engine/WordSets$Meet", "isEmpty", "()Z"⟩ : MethodName)) hown (mvT hZ (own_hw hw 59 rfl)) (mvT hZ (own_hw hw 60 rfl)) (notFace_of_selects (args := #[]) (mvT hZ (own_hw hw 62 rfl))) (mvT hZ (own_hw hw 62 rfl)) (mvT hZ (own_hw hw 61 rfl)) (by decide) (backOf (W := 0) (rm_emp l Z a0 hw [] b2453 P2461 W2461 k2461 k22461 (0 : Int32) pr2521 ur2521 wr2521 vr2521 cn2521 h2529 n0 Z2531 g_b2453 g_P2461 g_W2461 f2534 f2535 f2536 f2537 f2538 f2539 f2540 f2541 hM2521 hm2521 hc2521 hl2521 hv2521 h22521) hZ (own_hw hw 63 rfl) (own_hw hw 32 rfl) (by decide) (by decide)) q2542a q2542c (g := (mkF m 254 #[sI p0, sI p1, sI p2, sI p3, sI p4, sI p5, sI a, sI b, sI c, sI d, sI e5, sI b2351, sI b2355, sI b2359, sI r2361, sI r2364, sI r2367, sI r2370, sR b2373, sR b2437, sR b2453, sI z2529] [(.ref b2453)])) rfl (by rw [hml]; rfl) (Steps.refl _) (argsL := []) (rest := []) (lenOf pd__28_29Z rfl) rfl (by show 2 * 0 + _ ≤ _; exact Nat.le_of_eq rfl) (hb hby at_254) (fun _ _ => ⟨rfl, e2529, (Nat.le_of_ble_eq_true rfl : 13 + 0 ≤ _), (Nat.le_of_ble_eq_true rfl : 23 + 0 ≤ _)⟩)
        dsimp only [Pt.U, Pt.locs, Pt.cells, Pt.slots] at X2542 l2542 y2542 z2542 st2542 hQ2542
        subst l2542 y2542 z2542
        obtain ⟨rfl, Nq2542, e2542⟩ := hQ2542
        have N2543 := Fr.app Nq2529 Nq2542
        have P2544 : Rg p e below (T2542.setTop (mkF m 257 #[sI p0, sI p1, sI p2, sI p3, sI p4, sI p5, sI a, sI b, sI c, sI d, sI e5, sI b2351, sI b2355, sI b2359, sI r2361, sI r2364, sI r2367, sI r2370, sR b2373, sR b2437, sR b2453, sI z2529] [(.int (own_emp wr2521))])) B0 := fun t k => P2530 t (by
          refine XS.aload X2529.here hx rfl (hb hby at_252) rfl rfl ?_
          show Sg p e below (T2529.setTop (mkF m 254 #[sI p0, sI p1, sI p2, sI p3, sI p4, sI p5, sI a, sI b, sI c, sI d, sI e5, sI b2351, sI b2355, sI b2359, sI r2361, sI r2364, sI r2367, sI r2370, sR b2373, sR b2437, sR b2453, sI z2529] [(.ref b2453)])) _
          exact st2542.trans k)
        have fin2542 : own_emp wr2521 = z2529 := own_fin1 hl2521 hz2521 (fun x => ((memb2521 x).trans (by simp [q2467, q2469, q2527, and_assoc]))) u2529_0
        obtain ⟨fs2545, hr2545, hrun2545, hended2545, hW2545, hsame2545⟩ := X2542.leave (v := some (.int (1 : Int32))) (fun h => by rw [Bd.returns] at h; cases h)
        refine ⟨_, _, pre0 _ (P2544 _ ?_), hrun2545, hended2545, _, _, rfl, ?_, ⟨⟨_, rfl⟩, hW2545, hsame2545.mono (Nat.le_of_ble_eq_true rfl) (Nat.le_of_ble_eq_true rfl)⟩⟩
        · show Sg p e below (T2542.setTop (mkF m 257 #[sI p0, sI p1, sI p2, sI p3, sI p4, sI p5, sI a, sI b, sI c, sI d, sI e5, sI b2351, sI b2355, sI b2359, sI r2361, sI r2364, sI r2367, sI r2370, sR b2373, sR b2437, sR b2453, sI z2529] [(.int (own_emp wr2521))])) _
          refine XS.iload X2542.here hx rfl (hb hby at_257) rfl ?_
          refine XS.icmpNo X2542.here hx rfl (hb hby at_259) rfl (teq (show (own_emp wr2521) = z2529 from fin2542)).2 ?_
          refine XS.iconst X2542.here hx rfl (hb hby at_262) ?_
          refine XS.goto X2542.here hx rfl (pc0 := 263) (pc' := 267) rfl (hb hby at_263) (by decide) (by decide) ?_
          show Sg p e below (T2542.setTop (mkF m 267 #[sI p0, sI p1, sI p2, sI p3, sI p4, sI p5, sI a, sI b, sI c, sI d, sI e5, sI b2351, sI b2355, sI b2359, sI r2361, sI r2364, sI r2367, sI r2370, sR b2373, sR b2437, sR b2453, sI z2529] [(.int (1 : Int32))])) _
          exact retN X2542 hx (t := .boolean) Bd.returns (by simp) (hb hby at_267) hr2545
        · show Q_law  h0 n0 _ T2542.heap _
          rw [e2542]
          exact ⟨rfl, N2543⟩
      · skip
        have f2546 := (Ea2461.keep K2521)
        have f2547 := (E12461.keep K2521)
        have f2548 := (E22461.keep K2521)
        obtain ⟨cq2549, kq2549, q2549a, q2549b, q2549c⟩ := isOf hZ rfl f2546
        obtain ⟨_, _, ⟨T2549, L2549, k2549, n2549⟩, -, X2549, ⟨Lc2549, hQ2549, l2549, y2549, z2549⟩, st2549⟩ := X2521.virtualBack hx (y := (⟨"com/example/whittle/whittle/engine/WordSets$Meet", "remove", "(I)V"⟩ : MethodName)) (z := (⟨"com/example/whittle/whittle/engine/WordSets$Meet", "remove", "(I)V"⟩ : MethodName)) hown (mvT hZ (own_hw hw 64 rfl)) (mvT hZ (own_hw hw 65 rfl)) (notFace_of_selects (args := #[]) (mvT hZ (own_hw hw 67 rfl))) (mvT hZ (own_hw hw 67 rfl)) (mvT hZ (own_hw hw 66 rfl)) (by decide) (backOf (W := 0) (rm_rmv l Z a0 hw [] b2453 P2461 W2461 k2461 k22461 (0 : Int32) pr2521 ur2521 wr2521 vr2521 cn2521 e5 T2521.heap n0 Z2524 g_b2453 g_P2461 g_W2461 f2546 f2547 f2548 Fp2521 Fw2521 Fc2521 A12521 A22521 hM2521 hm2521 hc2521 hl2521 hv2521 hs2521 h22521) hZ (own_hw hw 68 rfl) (own_hw hw 32 rfl) (by decide) (by decide)) q2549a q2549c (g := (mkF m 202 #[sI p0, sI p1, sI p2, sI p3, sI p4, sI p5, sI a, sI b, sI c, sI d, sI e5, sI b2351, sI b2355, sI b2359, sI r2361, sI r2364, sI r2367, sI r2370, sR b2373, sR b2437, sR b2453, sU] [(.int e5), (.ref b2453)])) rfl (by rw [hml]; rfl) (Steps.refl _) (argsL := [(.int e5)]) (rest := []) (lenOf pd__28I_29V rfl) rfl (by show 2 * 0 + _ ≤ _; exact Nat.le_of_eq rfl) (hb hby at_202) (fun _ _ => ⟨rfl, rfl, (Nat.le_of_ble_eq_true rfl : 13 + 0 ≤ _), (Nat.le_of_ble_eq_true rfl : 23 + 0 ≤ _)⟩)
        dsimp only [Pt.U, Pt.locs, Pt.cells, Pt.slots] at X2549 l2549 y2549 z2549 st2549 hQ2549
        subst l2549 y2549 z2549
        obtain ⟨rfl, Nq2549, K2549, A2549⟩ := hQ2549
        have N2550 := Fr.app N2522 Nq2549
        have P2551 : Rg p e below (T2549.setTop (mkF m 205 #[sI p0, sI p1, sI p2, sI p3, sI p4, sI p5, sI a, sI b, sI c, sI d, sI e5, sI b2351, sI b2355, sI b2359, sI r2361, sI r2364, sI r2367, sI r2370, sR b2373, sR b2437, sR b2453, sU] [])) B0 := fun t k => P2523 t (by
          refine XS.iload X2521.here hx rfl (hb hby at_193) rfl ?_
          refine XS.ifNo X2521.here hx rfl (hb hby at_195) rfl ((if0 _ _).trans (feq (show ¬ (b2359 = (0 : Int32)) from q2527)).1) ?_
          refine XS.aload X2521.here hx rfl (hb hby at_198) rfl rfl ?_
          refine XS.iload X2521.here hx rfl (hb hby at_200) rfl ?_
          show Sg p e below (T2521.setTop (mkF m 202 #[sI p0, sI p1, sI p2, sI p3, sI p4, sI p5, sI a, sI b, sI c, sI d, sI e5, sI b2351, sI b2355, sI b2359, sI r2361, sI r2364, sI r2367, sI r2370, sR b2373, sR b2437, sR b2453, sU] [(.int e5), (.ref b2453)])) _
          exact st2549.trans k)
        have Z2552 : n0 ≤ T2549.heap.size := Nat.le_trans Z2524 K2549.1
        have K2553 : Keep h0 T2549.heap [] := K2525.trans K2549 ((allS (Or.inr sz_W2461) all0))
        have O2554 : Old Z n0 T2549.heap := O2526.keep K2549 (allS g_W2461 all0)
        obtain ⟨w2549, hw2549⟩ : ∃ z : List Int64, z = own_rem pr2521 wr2521 e5 := ⟨_, rfl⟩
        rw [← hw2549] at A2549
        have hl2549 : w2549.length = pr2521.length := by rw [hw2549, own_rem_len]; exact hl2521
        have mem2549 := fun x => (own_Mrem (pl := pr2521) (wv := wr2521) (m := e5) (x := x)).trans (and_congr_left fun _ => memb2521 x)
        rw [← hw2549] at mem2549
        obtain ⟨T2555, h2555, L2555, z2555, X2555, e2555, Nq2555, K2555, u2555_0, st2555⟩ := pc_exq p0 p1 p2 p3 p4 p5 a b c d e5 b2351 b2355 b2359 r2361 r2364 r2367 r2370 b2373 b2437 b2453 X2549 hx hZ hw hby hml hown rfl N2550 Z2552 (Nat.le_of_ble_eq_true rfl) (Nat.le_of_ble_eq_true rfl) (by decide) (by decide) 
        have P2556 : Rg p e below (T2555.setTop (mkF m 252 #[sI p0, sI p1, sI p2, sI p3, sI p4, sI p5, sI a, sI b, sI c, sI d, sI e5, sI b2351, sI b2355, sI b2359, sI r2361, sI r2364, sI r2367, sI r2370, sR b2373, sR b2437, sR b2453, sI z2555] [])) B0 := fun t k => P2551 t (by
          exact st2555 _ k)
        have Z2557 : n0 ≤ h2555.size := Nat.le_trans Z2552 K2555.1
        have K2558 : Keep h0 h2555 [] := K2553.trans K2555 (all0)
        have O2559 : Old Z n0 h2555 := O2554.keep K2555 all0
        have f2560 := ((f2546.keep K2549).keep K2555)
        have f2561 := ((f2547.keep K2549).keep K2555)
        have f2562 := ((f2548.keep K2549).keep K2555)
        have f2563 := ((Fp2521.keep K2549 (ninS (Nat.ne_of_lt (Nat.lt_of_lt_of_le f2460.lt s22461)) nin0)).keep K2555 nin0)
        have f2564 := ((Fw2521.keep K2549 (ninS (Nat.ne_of_lt (Nat.lt_of_lt_of_le f2460.lt s22461)) nin0)).keep K2555 nin0)
        have f2565 := ((Fc2521.keep K2549 (ninS (Nat.ne_of_lt (Nat.lt_of_lt_of_le f2460.lt s22461)) nin0)).keep K2555 nin0)
        have f2566 := ((A12521.keep K2549 (ninS (Exa.ne E12461 E22461 (by decide)) nin0)).keep K2555 nin0)
        have f2567 := (A2549.keep K2555 nin0)
        obtain ⟨cq2568, kq2568, q2568a, q2568b, q2568c⟩ := isOf hZ e2555 f2560
        obtain ⟨_, _, ⟨T2568, L2568, k2568, n2568⟩, -, X2568, ⟨Lc2568, hQ2568, l2568, y2568, z2568⟩, st2568⟩ := X2555.virtualBack hx (y := (⟨"com/example/whittle/whittle/engine/WordSets$Meet", "isEmpty", "()Z"⟩ : MethodName)) (z := (⟨"com/example/whittle/whittle/engine/WordSets$Meet", "isEmpty", "()Z"⟩ : MethodName)) hown (mvT hZ (own_hw hw 59 rfl)) (mvT hZ (own_hw hw 60 rfl)) (notFace_of_selects (args := #[]) (mvT hZ (own_hw hw 62 rfl))) (mvT hZ (own_hw hw 62 rfl)) (mvT hZ (own_hw hw 61 rfl)) (by decide) (backOf (W := 0) (rm_emp l Z a0 hw [] b2453 P2461 W2461 k2461 k22461 (0 : Int32) pr2521 ur2521 w2549 vr2521 cn2521 h2555 n0 Z2557 g_b2453 g_P2461 g_W2461 f2560 f2561 f2562 f2563 f2564 f2565 f2566 f2567 hM2521 hm2521 hc2521 hl2549 hv2521 h22521) hZ (own_hw hw 63 rfl) (own_hw hw 32 rfl) (by decide) (by decide)) q2568a q2568c (g := (mkF m 254 #[sI p0, sI p1, sI p2, sI p3, sI p4, sI p5, sI a, sI b, sI c, sI d, sI e5, sI b2351, sI b2355, sI b2359, sI r2361, sI r2364, sI r2367, sI r2370, sR b2373, sR b2437, sR b2453, sI z2555] [(.ref b2453)])) rfl (by rw [hml]; rfl) (Steps.refl _) (argsL := []) (rest := []) (lenOf pd__28_29Z rfl) rfl (by show 2 * 0 + _ ≤ _; exact Nat.le_of_eq rfl) (hb hby at_254) (fun _ _ => ⟨rfl, e2555, (Nat.le_of_ble_eq_true rfl : 13 + 0 ≤ _), (Nat.le_of_ble_eq_true rfl : 23 + 0 ≤ _)⟩)
        dsimp only [Pt.U, Pt.locs, Pt.cells, Pt.slots] at X2568 l2568 y2568 z2568 st2568 hQ2568
        subst l2568 y2568 z2568
        obtain ⟨rfl, Nq2568, e2568⟩ := hQ2568
        have N2569 := Fr.app Nq2555 Nq2568
        have P2570 : Rg p e below (T2568.setTop (mkF m 257 #[sI p0, sI p1, sI p2, sI p3, sI p4, sI p5, sI a, sI b, sI c, sI d, sI e5, sI b2351, sI b2355, sI b2359, sI r2361, sI r2364, sI r2367, sI r2370, sR b2373, sR b2437, sR b2453, sI z2555] [(.int (own_emp w2549))])) B0 := fun t k => P2556 t (by
          refine XS.aload X2555.here hx rfl (hb hby at_252) rfl rfl ?_
          show Sg p e below (T2555.setTop (mkF m 254 #[sI p0, sI p1, sI p2, sI p3, sI p4, sI p5, sI a, sI b, sI c, sI d, sI e5, sI b2351, sI b2355, sI b2359, sI r2361, sI r2364, sI r2367, sI r2370, sR b2373, sR b2437, sR b2453, sI z2555] [(.ref b2453)])) _
          exact st2568.trans k)
        have fin2568 : own_emp w2549 = z2555 := own_fin1 hl2549 hz2521 (fun x => ((mem2549 x).trans (by simp [q2467, q2469, q2527, and_assoc]))) u2555_0
        obtain ⟨fs2571, hr2571, hrun2571, hended2571, hW2571, hsame2571⟩ := X2568.leave (v := some (.int (1 : Int32))) (fun h => by rw [Bd.returns] at h; cases h)
        refine ⟨_, _, pre0 _ (P2570 _ ?_), hrun2571, hended2571, _, _, rfl, ?_, ⟨⟨_, rfl⟩, hW2571, hsame2571.mono (Nat.le_of_ble_eq_true rfl) (Nat.le_of_ble_eq_true rfl)⟩⟩
        · show Sg p e below (T2568.setTop (mkF m 257 #[sI p0, sI p1, sI p2, sI p3, sI p4, sI p5, sI a, sI b, sI c, sI d, sI e5, sI b2351, sI b2355, sI b2359, sI r2361, sI r2364, sI r2367, sI r2370, sR b2373, sR b2437, sR b2453, sI z2555] [(.int (own_emp w2549))])) _
          refine XS.iload X2568.here hx rfl (hb hby at_257) rfl ?_
          refine XS.icmpNo X2568.here hx rfl (hb hby at_259) rfl (teq (show (own_emp w2549) = z2555 from fin2568)).2 ?_
          refine XS.iconst X2568.here hx rfl (hb hby at_262) ?_
          refine XS.goto X2568.here hx rfl (pc0 := 263) (pc' := 267) rfl (hb hby at_263) (by decide) (by decide) ?_
          show Sg p e below (T2568.setTop (mkF m 267 #[sI p0, sI p1, sI p2, sI p3, sI p4, sI p5, sI a, sI b, sI c, sI d, sI e5, sI b2351, sI b2355, sI b2359, sI r2361, sI r2364, sI r2367, sI r2370, sR b2373, sR b2437, sR b2453, sI z2555] [(.int (1 : Int32))])) _
          exact retN X2568 hx (t := .boolean) Bd.returns (by simp) (hb hby at_267) hr2571
        · show Q_law  h0 n0 _ T2568.heap _
          rw [e2568]
          exact ⟨rfl, N2569⟩
  · skip
    have f2572 := ((Ea2447.ext E2453).keep K2461)
    have f2573 := ((Fp2447.ext E2453).keep K2461 (ninS (Nat.ne_of_lt (Nat.lt_of_lt_of_le Fw2447.lt (Nat.le_of_eq g2453.symm))) nin0))
    have f2574 := ((Fw2447.ext E2453).keep K2461 (ninS (Nat.ne_of_lt (Nat.lt_of_lt_of_le Fw2447.lt (Nat.le_of_eq g2453.symm))) nin0))
    have f2575 := ((APP2447.ext E2453).keep K2461 (ninS (Nat.ne_of_lt (Nat.lt_of_lt_of_le APP2447.lt (Nat.le_of_eq g2453.symm))) nin0))
    have f2576 := ((AWW2447.ext E2453).keep K2461 (ninS (Nat.ne_of_lt (Nat.lt_of_lt_of_le AWW2447.lt (Nat.le_of_eq g2453.symm))) nin0))
    have f2577 := ((Af02447.ext E2453).keep K2461 (ninS (Nat.ne_of_lt (Nat.lt_of_lt_of_le Ef02447.lt (Nat.le_of_eq g2453.symm))) nin0))
    have f2578 := ((Ag02447.ext E2453).keep K2461 (ninS (Nat.ne_of_lt (Nat.lt_of_lt_of_le Eg02447.lt (Nat.le_of_eq g2453.symm))) nin0))
    have f2579 := ((Ef02447.ext E2453).keep K2461)
    have f2580 := ((Eg02447.ext E2453).keep K2461)
    obtain ⟨cq2581, kq2581, q2581a, q2581b, q2581c⟩ := isOf hZ rfl Ea2461
    obtain ⟨_, _, ⟨T2581, L2581, k2581, n2581⟩, -, X2581, ⟨Lc2581, hQ2581, l2581, y2581, z2581⟩, st2581⟩ := X2461.virtualBack hx (y := (⟨"com/example/whittle/whittle/engine/WordSets$Meet", "start", "(Lcom/example/whittle/whittle/engine/WordSets;I)V"⟩ : MethodName)) (z := (⟨"com/example/whittle/whittle/engine/WordSets$Meet", "start", "(Lcom/example/whittle/whittle/engine/WordSets;I)V"⟩ : MethodName)) hown (mvT hZ (own_hw hw 41 rfl)) (mvT hZ (own_hw hw 42 rfl)) (notFace_of_selects (args := #[]) (mvT hZ (own_hw hw 44 rfl))) (mvT hZ (own_hw hw 44 rfl)) (mvT hZ (own_hw hw 43 rfl)) (by decide) (backOf (W := 0) (rm_stf l Z a0 hw [] b2453 P2461 W2461 k2461 b2437 PP2447 WW2447 P02447 P12447 W02447 W12447 kPP2447 kWW2447 kf02447 kg02447 N0 pl0 wl0 T2461.heap n0 Z2464 g_b2453 Ea2461 Fp2461 Fw2461 Fc2461 f2572 f2573 f2574 f2575 f2576 f2577 f2578 f2579 f2580 hN0 m20 mL0 A12461 m00 mN0) hZ (own_hw hw 45 rfl) (own_hw hw 32 rfl) (by decide) (by decide)) q2581a q2581c (g := (mkF m 177 #[sI p0, sI p1, sI p2, sI p3, sI p4, sI p5, sI a, sI b, sI c, sI d, sI e5, sI b2351, sI b2355, sI b2359, sI r2361, sI r2364, sI r2367, sI r2370, sR b2373, sR b2437, sR b2453, sU] [(.int (0 : Int32)), (.ref b2437), (.ref b2453)])) rfl (by rw [hml]; rfl) (Steps.refl _) (argsL := [(.ref b2437), (.int (0 : Int32))]) (rest := []) (lenOf pd__28Lcom_2fexample_2fwhittle_2fwhittle_2fengine_2fWordSets_3bI_29V rfl) rfl (by show 2 * 0 + _ ≤ _; exact Nat.le_of_eq rfl) (hb hby at_177) (fun _ _ => ⟨rfl, rfl, (Nat.le_of_ble_eq_true rfl : 13 + 2 ≤ _), (Nat.le_of_ble_eq_true rfl : 23 + 4 ≤ _)⟩)
    dsimp only [Pt.U, Pt.locs, Pt.cells, Pt.slots] at X2581 l2581 y2581 z2581 st2581 hQ2581
    subst l2581 y2581 z2581
    obtain ⟨rfl, Nq2581, K2581, Ea2581, Fc2581, P2581, W2581, k2581, k22581, Fp2581, Fw2581, A12581, A22581, E12581, E22581, s12581, s22581⟩ := hQ2581
    have N2582 := Fr.app N2462 Nq2581
    have P2583 : Rg p e below (T2581.setTop (mkF m 180 #[sI p0, sI p1, sI p2, sI p3, sI p4, sI p5, sI a, sI b, sI c, sI d, sI e5, sI b2351, sI b2355, sI b2359, sI r2361, sI r2364, sI r2367, sI r2370, sR b2373, sR b2437, sR b2453, sU] [])) B0 := fun t k => P2463 t (by
      refine XS.astore X2461.here hx rfl (hb hby at_165) rfl rfl (l' := #[sI p0, sI p1, sI p2, sI p3, sI p4, sI p5, sI a, sI b, sI c, sI d, sI e5, sI b2351, sI b2355, sI b2359, sI r2361, sI r2364, sI r2367, sI r2370, sR b2373, sR b2437, sR b2453, sU]) rfl ?_
      refine XS.iload X2461.here hx rfl (hb hby at_167) rfl ?_
      refine XS.ifNo X2461.here hx rfl (hb hby at_169) rfl ((if0 _ _).trans (feq (show ¬ (b2351 = (0 : Int32)) from q2467)).1) ?_
      refine XS.aload X2461.here hx rfl (hb hby at_172) rfl rfl ?_
      refine XS.aload X2461.here hx rfl (hb hby at_174) rfl rfl ?_
      refine XS.iconst X2461.here hx rfl (hb hby at_176) ?_
      show Sg p e below (T2461.setTop (mkF m 177 #[sI p0, sI p1, sI p2, sI p3, sI p4, sI p5, sI a, sI b, sI c, sI d, sI e5, sI b2351, sI b2355, sI b2359, sI r2361, sI r2364, sI r2367, sI r2370, sR b2373, sR b2437, sR b2453, sU] [(.int (0 : Int32)), (.ref b2437), (.ref b2453)])) _
      exact st2581.trans k)
    have Z2584 : n0 ≤ T2581.heap.size := Nat.le_trans Z2464 K2581.1
    have K2585 : Keep h0 T2581.heap [] := K2465.trans K2581 ((allS (Or.inr sz_b2453) all0))
    have O2586 : Old Z n0 T2581.heap := O2466.keep K2581 (allS g_b2453 all0)
    have g_P2581 : n0 ≤ P2581 := Nat.le_trans Z2464 s12581
    have sz_P2581 : h0.size ≤ P2581 := Nat.le_trans K2465.1 s12581
    have g_W2581 : n0 ≤ W2581 := Nat.le_trans Z2464 s22581
    have sz_W2581 : h0.size ≤ W2581 := Nat.le_trans K2465.1 s22581
    have AP9 : Arv Z T2581.heap P2581 k2581 .int N0 ((pl0 ++ []).map Value.int) (.int (0 : Int32)) := by rw [List.append_nil]; exact A12581
    have AW9 : Arv Z T2581.heap W2581 k22581 .long N0 ((wl0 ++ []).map Value.long) (.long (0 : Int64)) := by rw [List.append_nil]; exact A22581
    have hM9 : N0 = Int32.ofNat (pl0 ++ ([] : List Int32)).length := by rw [List.append_nil]; exact hN0
    have hm9 : (pl0 ++ ([] : List Int32)).length ≤ 3 := by rw [List.append_nil]; exact Nat.le_succ_of_le m20
    by_cases q2587 : b2355 = (0 : Int32)
    · skip
      have P2588 : Rg p e below (T2581.setTop (mkF m 195 #[sI p0, sI p1, sI p2, sI p3, sI p4, sI p5, sI a, sI b, sI c, sI d, sI e5, sI b2351, sI b2355, sI b2359, sI r2361, sI r2364, sI r2367, sI r2370, sR b2373, sR b2437, sR b2453, sU] [(.int b2359)])) B0 := fun t k => P2583 t (by
        refine XS.iload X2581.here hx rfl (hb hby at_180) rfl ?_
        refine XS.ifYes X2581.here hx rfl (pc0 := 182) (pc' := 193) rfl (hb hby at_182) rfl ((if0 _ _).trans (teq (show b2355 = (0 : Int32) from q2587)).1) (by decide) (by decide) ?_
        refine XS.iload X2581.here hx rfl (hb hby at_193) rfl ?_
        show Sg p e below (T2581.setTop (mkF m 195 #[sI p0, sI p1, sI p2, sI p3, sI p4, sI p5, sI a, sI b, sI c, sI d, sI e5, sI b2351, sI b2355, sI b2359, sI r2361, sI r2364, sI r2367, sI r2370, sR b2373, sR b2437, sR b2453, sU] [(.int b2359)])) _
        exact k)
      by_cases q2589 : b2359 = (0 : Int32)
      · skip
        have P2590 : Rg p e below (T2581.setTop (mkF m 205 #[sI p0, sI p1, sI p2, sI p3, sI p4, sI p5, sI a, sI b, sI c, sI d, sI e5, sI b2351, sI b2355, sI b2359, sI r2361, sI r2364, sI r2367, sI r2370, sR b2373, sR b2437, sR b2453, sU] [])) B0 := fun t k => P2588 t (by
          refine XS.ifYes X2581.here hx rfl (pc0 := 195) (pc' := 205) rfl (hb hby at_195) rfl ((if0 _ _).trans (teq (show b2359 = (0 : Int32) from q2589)).1) (by decide) (by decide) ?_
          show Sg p e below (T2581.setTop (mkF m 205 #[sI p0, sI p1, sI p2, sI p3, sI p4, sI p5, sI a, sI b, sI c, sI d, sI e5, sI b2351, sI b2355, sI b2359, sI r2361, sI r2364, sI r2367, sI r2370, sR b2373, sR b2437, sR b2453, sU] [])) _
          exact k)
        obtain ⟨T2591, h2591, L2591, z2591, X2591, e2591, Nq2591, K2591, u2591_0, st2591⟩ := pc_exq p0 p1 p2 p3 p4 p5 a b c d e5 b2351 b2355 b2359 r2361 r2364 r2367 r2370 b2373 b2437 b2453 X2581 hx hZ hw hby hml hown rfl N2582 Z2584 (Nat.le_of_ble_eq_true rfl) (Nat.le_of_ble_eq_true rfl) (by decide) (by decide) 
        have P2592 : Rg p e below (T2591.setTop (mkF m 252 #[sI p0, sI p1, sI p2, sI p3, sI p4, sI p5, sI a, sI b, sI c, sI d, sI e5, sI b2351, sI b2355, sI b2359, sI r2361, sI r2364, sI r2367, sI r2370, sR b2373, sR b2437, sR b2453, sI z2591] [])) B0 := fun t k => P2590 t (by
          exact st2591 _ k)
        have Z2593 : n0 ≤ h2591.size := Nat.le_trans Z2584 K2591.1
        have K2594 : Keep h0 h2591 [] := K2585.trans K2591 (all0)
        have O2595 : Old Z n0 h2591 := O2586.keep K2591 all0
        have f2596 := (Ea2581.keep K2591)
        have f2597 := (E12581.keep K2591)
        have f2598 := (E22581.keep K2591)
        have f2599 := (Fp2581.keep K2591 nin0)
        have f2600 := (Fw2581.keep K2591 nin0)
        have f2601 := (Fc2581.keep K2591 nin0)
        have f2602 := (AP9.keep K2591 nin0)
        have f2603 := (AW9.keep K2591 nin0)
        obtain ⟨cq2604, kq2604, q2604a, q2604b, q2604c⟩ := isOf hZ e2591 f2596
        obtain ⟨_, _, ⟨T2604, L2604, k2604, n2604⟩, -, X2604, ⟨Lc2604, hQ2604, l2604, y2604, z2604⟩, st2604⟩ := X2591.virtualBack hx (y := (⟨"com/example/whittle/whittle/engine/WordSets$Meet", "isEmpty", "()Z"⟩ : MethodName)) (z := (⟨"com/example/whittle/whittle/engine/WordSets$Meet", "isEmpty", "()Z"⟩ : MethodName)) hown (mvT hZ (own_hw hw 59 rfl)) (mvT hZ (own_hw hw 60 rfl)) (notFace_of_selects (args := #[]) (mvT hZ (own_hw hw 62 rfl))) (mvT hZ (own_hw hw 62 rfl)) (mvT hZ (own_hw hw 61 rfl)) (by decide) (backOf (W := 0) (rm_emp l Z a0 hw [] b2453 P2581 W2581 k2581 k22581 N0 pl0 [] wl0 [] N0 h2591 n0 Z2593 g_b2453 g_P2581 g_W2581 f2596 f2597 f2598 f2599 f2600 f2601 f2602 f2603 hM9 hm9 hN0 mL0 rfl m20) hZ (own_hw hw 63 rfl) (own_hw hw 32 rfl) (by decide) (by decide)) q2604a q2604c (g := (mkF m 254 #[sI p0, sI p1, sI p2, sI p3, sI p4, sI p5, sI a, sI b, sI c, sI d, sI e5, sI b2351, sI b2355, sI b2359, sI r2361, sI r2364, sI r2367, sI r2370, sR b2373, sR b2437, sR b2453, sI z2591] [(.ref b2453)])) rfl (by rw [hml]; rfl) (Steps.refl _) (argsL := []) (rest := []) (lenOf pd__28_29Z rfl) rfl (by show 2 * 0 + _ ≤ _; exact Nat.le_of_eq rfl) (hb hby at_254) (fun _ _ => ⟨rfl, e2591, (Nat.le_of_ble_eq_true rfl : 15 + 0 ≤ _), (Nat.le_of_ble_eq_true rfl : 27 + 0 ≤ _)⟩)
        dsimp only [Pt.U, Pt.locs, Pt.cells, Pt.slots] at X2604 l2604 y2604 z2604 st2604 hQ2604
        subst l2604 y2604 z2604
        obtain ⟨rfl, Nq2604, e2604⟩ := hQ2604
        have N2605 := Fr.app Nq2591 Nq2604
        have P2606 : Rg p e below (T2604.setTop (mkF m 257 #[sI p0, sI p1, sI p2, sI p3, sI p4, sI p5, sI a, sI b, sI c, sI d, sI e5, sI b2351, sI b2355, sI b2359, sI r2361, sI r2364, sI r2367, sI r2370, sR b2373, sR b2437, sR b2453, sI z2591] [(.int (own_emp wl0))])) B0 := fun t k => P2592 t (by
          refine XS.aload X2591.here hx rfl (hb hby at_252) rfl rfl ?_
          show Sg p e below (T2591.setTop (mkF m 254 #[sI p0, sI p1, sI p2, sI p3, sI p4, sI p5, sI a, sI b, sI c, sI d, sI e5, sI b2351, sI b2355, sI b2359, sI r2361, sI r2364, sI r2367, sI r2370, sR b2373, sR b2437, sR b2453, sI z2591] [(.ref b2453)])) _
          exact st2604.trans k)
        have fin2604 : own_emp wl0 = z2591 := own_fin1 mL0 mZ0 (fun x => ((mS0 x).trans (by simp [q2467, q2587, q2589, and_assoc]))) u2591_0
        obtain ⟨fs2607, hr2607, hrun2607, hended2607, hW2607, hsame2607⟩ := X2604.leave (v := some (.int (1 : Int32))) (fun h => by rw [Bd.returns] at h; cases h)
        refine ⟨_, _, pre0 _ (P2606 _ ?_), hrun2607, hended2607, _, _, rfl, ?_, ⟨⟨_, rfl⟩, hW2607, hsame2607.mono (Nat.le_of_ble_eq_true rfl) (Nat.le_of_ble_eq_true rfl)⟩⟩
        · show Sg p e below (T2604.setTop (mkF m 257 #[sI p0, sI p1, sI p2, sI p3, sI p4, sI p5, sI a, sI b, sI c, sI d, sI e5, sI b2351, sI b2355, sI b2359, sI r2361, sI r2364, sI r2367, sI r2370, sR b2373, sR b2437, sR b2453, sI z2591] [(.int (own_emp wl0))])) _
          refine XS.iload X2604.here hx rfl (hb hby at_257) rfl ?_
          refine XS.icmpNo X2604.here hx rfl (hb hby at_259) rfl (teq (show (own_emp wl0) = z2591 from fin2604)).2 ?_
          refine XS.iconst X2604.here hx rfl (hb hby at_262) ?_
          refine XS.goto X2604.here hx rfl (pc0 := 263) (pc' := 267) rfl (hb hby at_263) (by decide) (by decide) ?_
          show Sg p e below (T2604.setTop (mkF m 267 #[sI p0, sI p1, sI p2, sI p3, sI p4, sI p5, sI a, sI b, sI c, sI d, sI e5, sI b2351, sI b2355, sI b2359, sI r2361, sI r2364, sI r2367, sI r2370, sR b2373, sR b2437, sR b2453, sI z2591] [(.int (1 : Int32))])) _
          exact retN X2604 hx (t := .boolean) Bd.returns (by simp) (hb hby at_267) hr2607
        · show Q_law  h0 n0 _ T2604.heap _
          rw [e2604]
          exact ⟨rfl, N2605⟩
      · skip
        obtain ⟨cq2608, kq2608, q2608a, q2608b, q2608c⟩ := isOf hZ rfl Ea2581
        obtain ⟨_, _, ⟨T2608, L2608, k2608, n2608⟩, -, X2608, ⟨Lc2608, hQ2608, l2608, y2608, z2608⟩, st2608⟩ := X2581.virtualBack hx (y := (⟨"com/example/whittle/whittle/engine/WordSets$Meet", "remove", "(I)V"⟩ : MethodName)) (z := (⟨"com/example/whittle/whittle/engine/WordSets$Meet", "remove", "(I)V"⟩ : MethodName)) hown (mvT hZ (own_hw hw 64 rfl)) (mvT hZ (own_hw hw 65 rfl)) (notFace_of_selects (args := #[]) (mvT hZ (own_hw hw 67 rfl))) (mvT hZ (own_hw hw 67 rfl)) (mvT hZ (own_hw hw 66 rfl)) (by decide) (backOf (W := 0) (rm_rmv l Z a0 hw [] b2453 P2581 W2581 k2581 k22581 N0 pl0 [] wl0 [] N0 e5 T2581.heap n0 Z2584 g_b2453 g_P2581 g_W2581 Ea2581 E12581 E22581 Fp2581 Fw2581 Fc2581 AP9 AW9 hM9 hm9 hN0 mL0 rfl mP0 m20) hZ (own_hw hw 68 rfl) (own_hw hw 32 rfl) (by decide) (by decide)) q2608a q2608c (g := (mkF m 202 #[sI p0, sI p1, sI p2, sI p3, sI p4, sI p5, sI a, sI b, sI c, sI d, sI e5, sI b2351, sI b2355, sI b2359, sI r2361, sI r2364, sI r2367, sI r2370, sR b2373, sR b2437, sR b2453, sU] [(.int e5), (.ref b2453)])) rfl (by rw [hml]; rfl) (Steps.refl _) (argsL := [(.int e5)]) (rest := []) (lenOf pd__28I_29V rfl) rfl (by show 2 * 0 + _ ≤ _; exact Nat.le_of_eq rfl) (hb hby at_202) (fun _ _ => ⟨rfl, rfl, (Nat.le_of_ble_eq_true rfl : 15 + 0 ≤ _), (Nat.le_of_ble_eq_true rfl : 27 + 0 ≤ _)⟩)
        dsimp only [Pt.U, Pt.locs, Pt.cells, Pt.slots] at X2608 l2608 y2608 z2608 st2608 hQ2608
        subst l2608 y2608 z2608
        obtain ⟨rfl, Nq2608, K2608, A2608⟩ := hQ2608
        have N2609 := Fr.app N2582 Nq2608
        have P2610 : Rg p e below (T2608.setTop (mkF m 205 #[sI p0, sI p1, sI p2, sI p3, sI p4, sI p5, sI a, sI b, sI c, sI d, sI e5, sI b2351, sI b2355, sI b2359, sI r2361, sI r2364, sI r2367, sI r2370, sR b2373, sR b2437, sR b2453, sU] [])) B0 := fun t k => P2588 t (by
          refine XS.ifNo X2581.here hx rfl (hb hby at_195) rfl ((if0 _ _).trans (feq (show ¬ (b2359 = (0 : Int32)) from q2589)).1) ?_
          refine XS.aload X2581.here hx rfl (hb hby at_198) rfl rfl ?_
          refine XS.iload X2581.here hx rfl (hb hby at_200) rfl ?_
          show Sg p e below (T2581.setTop (mkF m 202 #[sI p0, sI p1, sI p2, sI p3, sI p4, sI p5, sI a, sI b, sI c, sI d, sI e5, sI b2351, sI b2355, sI b2359, sI r2361, sI r2364, sI r2367, sI r2370, sR b2373, sR b2437, sR b2453, sU] [(.int e5), (.ref b2453)])) _
          exact st2608.trans k)
        have Z2611 : n0 ≤ T2608.heap.size := Nat.le_trans Z2584 K2608.1
        have K2612 : Keep h0 T2608.heap [] := K2585.trans K2608 ((allS (Or.inr sz_W2581) all0))
        have O2613 : Old Z n0 T2608.heap := O2586.keep K2608 (allS g_W2581 all0)
        obtain ⟨w2608, hw2608⟩ : ∃ z : List Int64, z = own_rem pl0 wl0 e5 := ⟨_, rfl⟩
        rw [← hw2608] at A2608
        have hl2608 : w2608.length = pl0.length := by rw [hw2608, own_rem_len]; exact mL0
        have mem2608 := fun x => (own_Mrem (pl := pl0) (wv := wl0) (m := e5) (x := x)).trans (and_congr_left fun _ => mS0 x)
        rw [← hw2608] at mem2608
        obtain ⟨T2614, h2614, L2614, z2614, X2614, e2614, Nq2614, K2614, u2614_0, st2614⟩ := pc_exq p0 p1 p2 p3 p4 p5 a b c d e5 b2351 b2355 b2359 r2361 r2364 r2367 r2370 b2373 b2437 b2453 X2608 hx hZ hw hby hml hown rfl N2609 Z2611 (Nat.le_of_ble_eq_true rfl) (Nat.le_of_ble_eq_true rfl) (by decide) (by decide) 
        have P2615 : Rg p e below (T2614.setTop (mkF m 252 #[sI p0, sI p1, sI p2, sI p3, sI p4, sI p5, sI a, sI b, sI c, sI d, sI e5, sI b2351, sI b2355, sI b2359, sI r2361, sI r2364, sI r2367, sI r2370, sR b2373, sR b2437, sR b2453, sI z2614] [])) B0 := fun t k => P2610 t (by
          exact st2614 _ k)
        have Z2616 : n0 ≤ h2614.size := Nat.le_trans Z2611 K2614.1
        have K2617 : Keep h0 h2614 [] := K2612.trans K2614 (all0)
        have O2618 : Old Z n0 h2614 := O2613.keep K2614 all0
        have f2619 := ((Ea2581.keep K2608).keep K2614)
        have f2620 := ((E12581.keep K2608).keep K2614)
        have f2621 := ((E22581.keep K2608).keep K2614)
        have f2622 := ((Fp2581.keep K2608 (ninS (Nat.ne_of_lt (Nat.lt_of_lt_of_le Fw2461.lt s22581)) nin0)).keep K2614 nin0)
        have f2623 := ((Fw2581.keep K2608 (ninS (Nat.ne_of_lt (Nat.lt_of_lt_of_le Fw2461.lt s22581)) nin0)).keep K2614 nin0)
        have f2624 := ((Fc2581.keep K2608 (ninS (Nat.ne_of_lt (Nat.lt_of_lt_of_le Fw2461.lt s22581)) nin0)).keep K2614 nin0)
        have f2625 := ((AP9.keep K2608 (ninS (Exa.ne E12581 E22581 (by decide)) nin0)).keep K2614 nin0)
        have f2626 := (A2608.keep K2614 nin0)
        obtain ⟨cq2627, kq2627, q2627a, q2627b, q2627c⟩ := isOf hZ e2614 f2619
        obtain ⟨_, _, ⟨T2627, L2627, k2627, n2627⟩, -, X2627, ⟨Lc2627, hQ2627, l2627, y2627, z2627⟩, st2627⟩ := X2614.virtualBack hx (y := (⟨"com/example/whittle/whittle/engine/WordSets$Meet", "isEmpty", "()Z"⟩ : MethodName)) (z := (⟨"com/example/whittle/whittle/engine/WordSets$Meet", "isEmpty", "()Z"⟩ : MethodName)) hown (mvT hZ (own_hw hw 59 rfl)) (mvT hZ (own_hw hw 60 rfl)) (notFace_of_selects (args := #[]) (mvT hZ (own_hw hw 62 rfl))) (mvT hZ (own_hw hw 62 rfl)) (mvT hZ (own_hw hw 61 rfl)) (by decide) (backOf (W := 0) (rm_emp l Z a0 hw [] b2453 P2581 W2581 k2581 k22581 N0 pl0 [] w2608 [] N0 h2614 n0 Z2616 g_b2453 g_P2581 g_W2581 f2619 f2620 f2621 f2622 f2623 f2624 f2625 f2626 hM9 hm9 hN0 hl2608 rfl m20) hZ (own_hw hw 63 rfl) (own_hw hw 32 rfl) (by decide) (by decide)) q2627a q2627c (g := (mkF m 254 #[sI p0, sI p1, sI p2, sI p3, sI p4, sI p5, sI a, sI b, sI c, sI d, sI e5, sI b2351, sI b2355, sI b2359, sI r2361, sI r2364, sI r2367, sI r2370, sR b2373, sR b2437, sR b2453, sI z2614] [(.ref b2453)])) rfl (by rw [hml]; rfl) (Steps.refl _) (argsL := []) (rest := []) (lenOf pd__28_29Z rfl) rfl (by show 2 * 0 + _ ≤ _; exact Nat.le_of_eq rfl) (hb hby at_254) (fun _ _ => ⟨rfl, e2614, (Nat.le_of_ble_eq_true rfl : 15 + 0 ≤ _), (Nat.le_of_ble_eq_true rfl : 27 + 0 ≤ _)⟩)
        dsimp only [Pt.U, Pt.locs, Pt.cells, Pt.slots] at X2627 l2627 y2627 z2627 st2627 hQ2627
        subst l2627 y2627 z2627
        obtain ⟨rfl, Nq2627, e2627⟩ := hQ2627
        have N2628 := Fr.app Nq2614 Nq2627
        have P2629 : Rg p e below (T2627.setTop (mkF m 257 #[sI p0, sI p1, sI p2, sI p3, sI p4, sI p5, sI a, sI b, sI c, sI d, sI e5, sI b2351, sI b2355, sI b2359, sI r2361, sI r2364, sI r2367, sI r2370, sR b2373, sR b2437, sR b2453, sI z2614] [(.int (own_emp w2608))])) B0 := fun t k => P2615 t (by
          refine XS.aload X2614.here hx rfl (hb hby at_252) rfl rfl ?_
          show Sg p e below (T2614.setTop (mkF m 254 #[sI p0, sI p1, sI p2, sI p3, sI p4, sI p5, sI a, sI b, sI c, sI d, sI e5, sI b2351, sI b2355, sI b2359, sI r2361, sI r2364, sI r2367, sI r2370, sR b2373, sR b2437, sR b2453, sI z2614] [(.ref b2453)])) _
          exact st2627.trans k)
        have fin2627 : own_emp w2608 = z2614 := own_fin1 hl2608 mZ0 (fun x => ((mem2608 x).trans (by simp [q2467, q2587, q2589, and_assoc]))) u2614_0
        obtain ⟨fs2630, hr2630, hrun2630, hended2630, hW2630, hsame2630⟩ := X2627.leave (v := some (.int (1 : Int32))) (fun h => by rw [Bd.returns] at h; cases h)
        refine ⟨_, _, pre0 _ (P2629 _ ?_), hrun2630, hended2630, _, _, rfl, ?_, ⟨⟨_, rfl⟩, hW2630, hsame2630.mono (Nat.le_of_ble_eq_true rfl) (Nat.le_of_ble_eq_true rfl)⟩⟩
        · show Sg p e below (T2627.setTop (mkF m 257 #[sI p0, sI p1, sI p2, sI p3, sI p4, sI p5, sI a, sI b, sI c, sI d, sI e5, sI b2351, sI b2355, sI b2359, sI r2361, sI r2364, sI r2367, sI r2370, sR b2373, sR b2437, sR b2453, sI z2614] [(.int (own_emp w2608))])) _
          refine XS.iload X2627.here hx rfl (hb hby at_257) rfl ?_
          refine XS.icmpNo X2627.here hx rfl (hb hby at_259) rfl (teq (show (own_emp w2608) = z2614 from fin2627)).2 ?_
          refine XS.iconst X2627.here hx rfl (hb hby at_262) ?_
          refine XS.goto X2627.here hx rfl (pc0 := 263) (pc' := 267) rfl (hb hby at_263) (by decide) (by decide) ?_
          show Sg p e below (T2627.setTop (mkF m 267 #[sI p0, sI p1, sI p2, sI p3, sI p4, sI p5, sI a, sI b, sI c, sI d, sI e5, sI b2351, sI b2355, sI b2359, sI r2361, sI r2364, sI r2367, sI r2370, sR b2373, sR b2437, sR b2453, sI z2614] [(.int (1 : Int32))])) _
          exact retN X2627 hx (t := .boolean) Bd.returns (by simp) (hb hby at_267) hr2630
        · show Q_law  h0 n0 _ T2627.heap _
          rw [e2627]
          exact ⟨rfl, N2628⟩
    · skip
      have f2631 := (f2572.keep K2581)
      have f2632 := (f2573.keep K2581 (ninS (Nat.ne_of_lt (Nat.lt_of_lt_of_le Fw2447.lt (Nat.le_of_eq g2453.symm))) nin0))
      have f2633 := (f2574.keep K2581 (ninS (Nat.ne_of_lt (Nat.lt_of_lt_of_le Fw2447.lt (Nat.le_of_eq g2453.symm))) nin0))
      have f2634 := (f2575.keep K2581 (ninS (Nat.ne_of_lt (Nat.lt_of_lt_of_le APP2447.lt (Nat.le_of_eq g2453.symm))) nin0))
      have f2635 := (f2576.keep K2581 (ninS (Nat.ne_of_lt (Nat.lt_of_lt_of_le AWW2447.lt (Nat.le_of_eq g2453.symm))) nin0))
      have f2636 := (((Af12447.ext E2453).keep K2461 (ninS (Nat.ne_of_lt (Nat.lt_of_lt_of_le Ef12447.lt (Nat.le_of_eq g2453.symm))) nin0)).keep K2581 (ninS (Nat.ne_of_lt (Nat.lt_of_lt_of_le Ef12447.lt (Nat.le_of_eq g2453.symm))) nin0))
      have f2637 := (((Ag12447.ext E2453).keep K2461 (ninS (Nat.ne_of_lt (Nat.lt_of_lt_of_le Eg12447.lt (Nat.le_of_eq g2453.symm))) nin0)).keep K2581 (ninS (Nat.ne_of_lt (Nat.lt_of_lt_of_le Eg12447.lt (Nat.le_of_eq g2453.symm))) nin0))
      have f2638 := (((Ef12447.ext E2453).keep K2461).keep K2581)
      have f2639 := (((Eg12447.ext E2453).keep K2461).keep K2581)
      obtain ⟨cq2640, kq2640, q2640a, q2640b, q2640c⟩ := isOf hZ rfl Ea2581
      obtain ⟨_, _, ⟨T2640, L2640, k2640, n2640⟩, -, X2640, ⟨Lc2640, hQ2640, l2640, y2640, z2640⟩, st2640⟩ := X2581.virtualBack hx (y := (⟨"com/example/whittle/whittle/engine/WordSets$Meet", "retain", "(Lcom/example/whittle/whittle/engine/WordSets;I)V"⟩ : MethodName)) (z := (⟨"com/example/whittle/whittle/engine/WordSets$Meet", "retain", "(Lcom/example/whittle/whittle/engine/WordSets;I)V"⟩ : MethodName)) hown (mvT hZ (own_hw hw 50 rfl)) (mvT hZ (own_hw hw 51 rfl)) (notFace_of_selects (args := #[]) (mvT hZ (own_hw hw 53 rfl))) (mvT hZ (own_hw hw 53 rfl)) (mvT hZ (own_hw hw 52 rfl)) (by decide) (backOf (W := 0) (rm_ret l Z a0 hw [] b2453 P2581 W2581 k2581 k22581 N0 pl0 [] wl0 [] N0 b2437 PP2447 WW2447 P02447 P12447 W02447 W12447 kPP2447 kWW2447 kf12447 kg12447 N1 pl1 wl1 T2581.heap n0 Z2584 g_b2453 g_P2581 g_W2581 Ea2581 E12581 E22581 Fp2581 Fw2581 Fc2581 AP9 AW9 hM9 hm9 hN0 mL0 rfl mP0 m20 f2631 f2632 f2633 f2634 f2635 f2636 f2637 f2638 f2639 hN1 m21 mL1 mP1 (Nat.ne_of_lt (Nat.lt_of_lt_of_le ((Ef12447.ext E2453).keep K2461).lt s12581)) (Nat.ne_of_lt (Nat.lt_of_lt_of_le ((Eg12447.ext E2453).keep K2461).lt s22581))) hZ (own_hw hw 54 rfl) (own_hw hw 32 rfl) (by decide) (by decide)) q2640a q2640c (g := (mkF m 190 #[sI p0, sI p1, sI p2, sI p3, sI p4, sI p5, sI a, sI b, sI c, sI d, sI e5, sI b2351, sI b2355, sI b2359, sI r2361, sI r2364, sI r2367, sI r2370, sR b2373, sR b2437, sR b2453, sU] [(.int (1 : Int32)), (.ref b2437), (.ref b2453)])) rfl (by rw [hml]; rfl) (Steps.refl _) (argsL := [(.ref b2437), (.int (1 : Int32))]) (rest := []) (lenOf pd__28Lcom_2fexample_2fwhittle_2fwhittle_2fengine_2fWordSets_3bI_29V rfl) rfl (by show 2 * 0 + _ ≤ _; exact Nat.le_of_eq rfl) (hb hby at_190) (fun _ _ => ⟨rfl, rfl, (Nat.le_of_ble_eq_true rfl : 15 + 0 ≤ _), (Nat.le_of_ble_eq_true rfl : 27 + 0 ≤ _)⟩)
      dsimp only [Pt.U, Pt.locs, Pt.cells, Pt.slots] at X2640 l2640 y2640 z2640 st2640 hQ2640
      subst l2640 y2640 z2640
      obtain ⟨rfl, Nq2640, K2640, pr2640, ur2640, wr2640, vr2640, cn2640, hp2640, hw2640, hc2640, hq2640, hl2640, hv2640, Fc2640, Fp2640, Fw2640, A12640, A22640⟩ := hQ2640
      have N2641 := Fr.app N2582 Nq2640
      have P2642 : Rg p e below (T2640.setTop (mkF m 193 #[sI p0, sI p1, sI p2, sI p3, sI p4, sI p5, sI a, sI b, sI c, sI d, sI e5, sI b2351, sI b2355, sI b2359, sI r2361, sI r2364, sI r2367, sI r2370, sR b2373, sR b2437, sR b2453, sU] [])) B0 := fun t k => P2583 t (by
        refine XS.iload X2581.here hx rfl (hb hby at_180) rfl ?_
        refine XS.ifNo X2581.here hx rfl (hb hby at_182) rfl ((if0 _ _).trans (feq (show ¬ (b2355 = (0 : Int32)) from q2587)).1) ?_
        refine XS.aload X2581.here hx rfl (hb hby at_185) rfl rfl ?_
        refine XS.aload X2581.here hx rfl (hb hby at_187) rfl rfl ?_
        refine XS.iconst X2581.here hx rfl (hb hby at_189) ?_
        show Sg p e below (T2581.setTop (mkF m 190 #[sI p0, sI p1, sI p2, sI p3, sI p4, sI p5, sI a, sI b, sI c, sI d, sI e5, sI b2351, sI b2355, sI b2359, sI r2361, sI r2364, sI r2367, sI r2370, sR b2373, sR b2437, sR b2453, sU] [(.int (1 : Int32)), (.ref b2437), (.ref b2453)])) _
        exact st2640.trans k)
      have Z2643 : n0 ≤ T2640.heap.size := Nat.le_trans Z2584 K2640.1
      have K2644 : Keep h0 T2640.heap [] := K2585.trans K2640 ((allS (Or.inr sz_b2453) (allS (Or.inr sz_P2581) (allS (Or.inr sz_W2581) all0))))
      have O2645 : Old Z n0 T2640.heap := O2586.keep K2640 (allS g_b2453 (allS g_P2581 (allS g_W2581 all0)))
      have hM2640 : N0 = Int32.ofNat (pr2640 ++ ur2640).length := by rw [hq2640]; exact hM9
      have hm2640 : (pr2640 ++ ur2640).length ≤ 3 := by rw [hq2640]; exact hm9
      have hsb2640 : pr2640.Sublist pl0 := by rw [hp2640]; exact own_rsub
      have hs2640 : pr2640.Pairwise (· < ·) := List.Pairwise.sublist hsb2640 mP0
      have h22640 : pr2640.length ≤ 2 := Nat.le_trans hsb2640.length_le m20
      have hz2640 : ∀ p ∈ pr2640, ∃ z, p = own_sh z := fun p hp => mZ0 p (hsb2640.subset hp)
      have mem2640 : ∀ x, own_M pr2640 wr2640 x ↔ (own_M pl0 wl0 x ∧ own_M pl1 wl1 x) := fun x => by rw [hp2640, hw2640]; exact own_Mret mP1
      have memb2640 := fun x => (mem2640 x).trans (and_congr (mS0 x) (mS1 x))
      by_cases q2646 : b2359 = (0 : Int32)
      · skip
        have P2647 : Rg p e below (T2640.setTop (mkF m 205 #[sI p0, sI p1, sI p2, sI p3, sI p4, sI p5, sI a, sI b, sI c, sI d, sI e5, sI b2351, sI b2355, sI b2359, sI r2361, sI r2364, sI r2367, sI r2370, sR b2373, sR b2437, sR b2453, sU] [])) B0 := fun t k => P2642 t (by
          refine XS.iload X2640.here hx rfl (hb hby at_193) rfl ?_
          refine XS.ifYes X2640.here hx rfl (pc0 := 195) (pc' := 205) rfl (hb hby at_195) rfl ((if0 _ _).trans (teq (show b2359 = (0 : Int32) from q2646)).1) (by decide) (by decide) ?_
          show Sg p e below (T2640.setTop (mkF m 205 #[sI p0, sI p1, sI p2, sI p3, sI p4, sI p5, sI a, sI b, sI c, sI d, sI e5, sI b2351, sI b2355, sI b2359, sI r2361, sI r2364, sI r2367, sI r2370, sR b2373, sR b2437, sR b2453, sU] [])) _
          exact k)
        obtain ⟨T2648, h2648, L2648, z2648, X2648, e2648, Nq2648, K2648, u2648_0, st2648⟩ := pc_exq p0 p1 p2 p3 p4 p5 a b c d e5 b2351 b2355 b2359 r2361 r2364 r2367 r2370 b2373 b2437 b2453 X2640 hx hZ hw hby hml hown rfl N2641 Z2643 (Nat.le_of_ble_eq_true rfl) (Nat.le_of_ble_eq_true rfl) (by decide) (by decide) 
        have P2649 : Rg p e below (T2648.setTop (mkF m 252 #[sI p0, sI p1, sI p2, sI p3, sI p4, sI p5, sI a, sI b, sI c, sI d, sI e5, sI b2351, sI b2355, sI b2359, sI r2361, sI r2364, sI r2367, sI r2370, sR b2373, sR b2437, sR b2453, sI z2648] [])) B0 := fun t k => P2647 t (by
          exact st2648 _ k)
        have Z2650 : n0 ≤ h2648.size := Nat.le_trans Z2643 K2648.1
        have K2651 : Keep h0 h2648 [] := K2644.trans K2648 (all0)
        have O2652 : Old Z n0 h2648 := O2645.keep K2648 all0
        have f2653 := ((Ea2581.keep K2640).keep K2648)
        have f2654 := ((E12581.keep K2640).keep K2648)
        have f2655 := ((E22581.keep K2640).keep K2648)
        have f2656 := (Fp2640.keep K2648 nin0)
        have f2657 := (Fw2640.keep K2648 nin0)
        have f2658 := (Fc2640.keep K2648 nin0)
        have f2659 := (A12640.keep K2648 nin0)
        have f2660 := (A22640.keep K2648 nin0)
        obtain ⟨cq2661, kq2661, q2661a, q2661b, q2661c⟩ := isOf hZ e2648 f2653
        obtain ⟨_, _, ⟨T2661, L2661, k2661, n2661⟩, -, X2661, ⟨Lc2661, hQ2661, l2661, y2661, z2661⟩, st2661⟩ := X2648.virtualBack hx (y := (⟨"com/example/whittle/whittle/engine/WordSets$Meet", "isEmpty", "()Z"⟩ : MethodName)) (z := (⟨"com/example/whittle/whittle/engine/WordSets$Meet", "isEmpty", "()Z"⟩ : MethodName)) hown (mvT hZ (own_hw hw 59 rfl)) (mvT hZ (own_hw hw 60 rfl)) (notFace_of_selects (args := #[]) (mvT hZ (own_hw hw 62 rfl))) (mvT hZ (own_hw hw 62 rfl)) (mvT hZ (own_hw hw 61 rfl)) (by decide) (backOf (W := 0) (rm_emp l Z a0 hw [] b2453 P2581 W2581 k2581 k22581 N0 pr2640 ur2640 wr2640 vr2640 cn2640 h2648 n0 Z2650 g_b2453 g_P2581 g_W2581 f2653 f2654 f2655 f2656 f2657 f2658 f2659 f2660 hM2640 hm2640 hc2640 hl2640 hv2640 h22640) hZ (own_hw hw 63 rfl) (own_hw hw 32 rfl) (by decide) (by decide)) q2661a q2661c (g := (mkF m 254 #[sI p0, sI p1, sI p2, sI p3, sI p4, sI p5, sI a, sI b, sI c, sI d, sI e5, sI b2351, sI b2355, sI b2359, sI r2361, sI r2364, sI r2367, sI r2370, sR b2373, sR b2437, sR b2453, sI z2648] [(.ref b2453)])) rfl (by rw [hml]; rfl) (Steps.refl _) (argsL := []) (rest := []) (lenOf pd__28_29Z rfl) rfl (by show 2 * 0 + _ ≤ _; exact Nat.le_of_eq rfl) (hb hby at_254) (fun _ _ => ⟨rfl, e2648, (Nat.le_of_ble_eq_true rfl : 15 + 0 ≤ _), (Nat.le_of_ble_eq_true rfl : 27 + 0 ≤ _)⟩)
        dsimp only [Pt.U, Pt.locs, Pt.cells, Pt.slots] at X2661 l2661 y2661 z2661 st2661 hQ2661
        subst l2661 y2661 z2661
        obtain ⟨rfl, Nq2661, e2661⟩ := hQ2661
        have N2662 := Fr.app Nq2648 Nq2661
        have P2663 : Rg p e below (T2661.setTop (mkF m 257 #[sI p0, sI p1, sI p2, sI p3, sI p4, sI p5, sI a, sI b, sI c, sI d, sI e5, sI b2351, sI b2355, sI b2359, sI r2361, sI r2364, sI r2367, sI r2370, sR b2373, sR b2437, sR b2453, sI z2648] [(.int (own_emp wr2640))])) B0 := fun t k => P2649 t (by
          refine XS.aload X2648.here hx rfl (hb hby at_252) rfl rfl ?_
          show Sg p e below (T2648.setTop (mkF m 254 #[sI p0, sI p1, sI p2, sI p3, sI p4, sI p5, sI a, sI b, sI c, sI d, sI e5, sI b2351, sI b2355, sI b2359, sI r2361, sI r2364, sI r2367, sI r2370, sR b2373, sR b2437, sR b2453, sI z2648] [(.ref b2453)])) _
          exact st2661.trans k)
        have fin2661 : own_emp wr2640 = z2648 := own_fin1 hl2640 hz2640 (fun x => ((memb2640 x).trans (by simp [q2467, q2587, q2646, and_assoc]))) u2648_0
        obtain ⟨fs2664, hr2664, hrun2664, hended2664, hW2664, hsame2664⟩ := X2661.leave (v := some (.int (1 : Int32))) (fun h => by rw [Bd.returns] at h; cases h)
        refine ⟨_, _, pre0 _ (P2663 _ ?_), hrun2664, hended2664, _, _, rfl, ?_, ⟨⟨_, rfl⟩, hW2664, hsame2664.mono (Nat.le_of_ble_eq_true rfl) (Nat.le_of_ble_eq_true rfl)⟩⟩
        · show Sg p e below (T2661.setTop (mkF m 257 #[sI p0, sI p1, sI p2, sI p3, sI p4, sI p5, sI a, sI b, sI c, sI d, sI e5, sI b2351, sI b2355, sI b2359, sI r2361, sI r2364, sI r2367, sI r2370, sR b2373, sR b2437, sR b2453, sI z2648] [(.int (own_emp wr2640))])) _
          refine XS.iload X2661.here hx rfl (hb hby at_257) rfl ?_
          refine XS.icmpNo X2661.here hx rfl (hb hby at_259) rfl (teq (show (own_emp wr2640) = z2648 from fin2661)).2 ?_
          refine XS.iconst X2661.here hx rfl (hb hby at_262) ?_
          refine XS.goto X2661.here hx rfl (pc0 := 263) (pc' := 267) rfl (hb hby at_263) (by decide) (by decide) ?_
          show Sg p e below (T2661.setTop (mkF m 267 #[sI p0, sI p1, sI p2, sI p3, sI p4, sI p5, sI a, sI b, sI c, sI d, sI e5, sI b2351, sI b2355, sI b2359, sI r2361, sI r2364, sI r2367, sI r2370, sR b2373, sR b2437, sR b2453, sI z2648] [(.int (1 : Int32))])) _
          exact retN X2661 hx (t := .boolean) Bd.returns (by simp) (hb hby at_267) hr2664
        · show Q_law  h0 n0 _ T2661.heap _
          rw [e2661]
          exact ⟨rfl, N2662⟩
      · skip
        have f2665 := (Ea2581.keep K2640)
        have f2666 := (E12581.keep K2640)
        have f2667 := (E22581.keep K2640)
        obtain ⟨cq2668, kq2668, q2668a, q2668b, q2668c⟩ := isOf hZ rfl f2665
        obtain ⟨_, _, ⟨T2668, L2668, k2668, n2668⟩, -, X2668, ⟨Lc2668, hQ2668, l2668, y2668, z2668⟩, st2668⟩ := X2640.virtualBack hx (y := (⟨"com/example/whittle/whittle/engine/WordSets$Meet", "remove", "(I)V"⟩ : MethodName)) (z := (⟨"com/example/whittle/whittle/engine/WordSets$Meet", "remove", "(I)V"⟩ : MethodName)) hown (mvT hZ (own_hw hw 64 rfl)) (mvT hZ (own_hw hw 65 rfl)) (notFace_of_selects (args := #[]) (mvT hZ (own_hw hw 67 rfl))) (mvT hZ (own_hw hw 67 rfl)) (mvT hZ (own_hw hw 66 rfl)) (by decide) (backOf (W := 0) (rm_rmv l Z a0 hw [] b2453 P2581 W2581 k2581 k22581 N0 pr2640 ur2640 wr2640 vr2640 cn2640 e5 T2640.heap n0 Z2643 g_b2453 g_P2581 g_W2581 f2665 f2666 f2667 Fp2640 Fw2640 Fc2640 A12640 A22640 hM2640 hm2640 hc2640 hl2640 hv2640 hs2640 h22640) hZ (own_hw hw 68 rfl) (own_hw hw 32 rfl) (by decide) (by decide)) q2668a q2668c (g := (mkF m 202 #[sI p0, sI p1, sI p2, sI p3, sI p4, sI p5, sI a, sI b, sI c, sI d, sI e5, sI b2351, sI b2355, sI b2359, sI r2361, sI r2364, sI r2367, sI r2370, sR b2373, sR b2437, sR b2453, sU] [(.int e5), (.ref b2453)])) rfl (by rw [hml]; rfl) (Steps.refl _) (argsL := [(.int e5)]) (rest := []) (lenOf pd__28I_29V rfl) rfl (by show 2 * 0 + _ ≤ _; exact Nat.le_of_eq rfl) (hb hby at_202) (fun _ _ => ⟨rfl, rfl, (Nat.le_of_ble_eq_true rfl : 15 + 0 ≤ _), (Nat.le_of_ble_eq_true rfl : 27 + 0 ≤ _)⟩)
        dsimp only [Pt.U, Pt.locs, Pt.cells, Pt.slots] at X2668 l2668 y2668 z2668 st2668 hQ2668
        subst l2668 y2668 z2668
        obtain ⟨rfl, Nq2668, K2668, A2668⟩ := hQ2668
        have N2669 := Fr.app N2641 Nq2668
        have P2670 : Rg p e below (T2668.setTop (mkF m 205 #[sI p0, sI p1, sI p2, sI p3, sI p4, sI p5, sI a, sI b, sI c, sI d, sI e5, sI b2351, sI b2355, sI b2359, sI r2361, sI r2364, sI r2367, sI r2370, sR b2373, sR b2437, sR b2453, sU] [])) B0 := fun t k => P2642 t (by
          refine XS.iload X2640.here hx rfl (hb hby at_193) rfl ?_
          refine XS.ifNo X2640.here hx rfl (hb hby at_195) rfl ((if0 _ _).trans (feq (show ¬ (b2359 = (0 : Int32)) from q2646)).1) ?_
          refine XS.aload X2640.here hx rfl (hb hby at_198) rfl rfl ?_
          refine XS.iload X2640.here hx rfl (hb hby at_200) rfl ?_
          show Sg p e below (T2640.setTop (mkF m 202 #[sI p0, sI p1, sI p2, sI p3, sI p4, sI p5, sI a, sI b, sI c, sI d, sI e5, sI b2351, sI b2355, sI b2359, sI r2361, sI r2364, sI r2367, sI r2370, sR b2373, sR b2437, sR b2453, sU] [(.int e5), (.ref b2453)])) _
          exact st2668.trans k)
        have Z2671 : n0 ≤ T2668.heap.size := Nat.le_trans Z2643 K2668.1
        have K2672 : Keep h0 T2668.heap [] := K2644.trans K2668 ((allS (Or.inr sz_W2581) all0))
        have O2673 : Old Z n0 T2668.heap := O2645.keep K2668 (allS g_W2581 all0)
        obtain ⟨w2668, hw2668⟩ : ∃ z : List Int64, z = own_rem pr2640 wr2640 e5 := ⟨_, rfl⟩
        rw [← hw2668] at A2668
        have hl2668 : w2668.length = pr2640.length := by rw [hw2668, own_rem_len]; exact hl2640
        have mem2668 := fun x => (own_Mrem (pl := pr2640) (wv := wr2640) (m := e5) (x := x)).trans (and_congr_left fun _ => memb2640 x)
        rw [← hw2668] at mem2668
        obtain ⟨T2674, h2674, L2674, z2674, X2674, e2674, Nq2674, K2674, u2674_0, st2674⟩ := pc_exq p0 p1 p2 p3 p4 p5 a b c d e5 b2351 b2355 b2359 r2361 r2364 r2367 r2370 b2373 b2437 b2453 X2668 hx hZ hw hby hml hown rfl N2669 Z2671 (Nat.le_of_ble_eq_true rfl) (Nat.le_of_ble_eq_true rfl) (by decide) (by decide) 
        have P2675 : Rg p e below (T2674.setTop (mkF m 252 #[sI p0, sI p1, sI p2, sI p3, sI p4, sI p5, sI a, sI b, sI c, sI d, sI e5, sI b2351, sI b2355, sI b2359, sI r2361, sI r2364, sI r2367, sI r2370, sR b2373, sR b2437, sR b2453, sI z2674] [])) B0 := fun t k => P2670 t (by
          exact st2674 _ k)
        have Z2676 : n0 ≤ h2674.size := Nat.le_trans Z2671 K2674.1
        have K2677 : Keep h0 h2674 [] := K2672.trans K2674 (all0)
        have O2678 : Old Z n0 h2674 := O2673.keep K2674 all0
        have f2679 := ((f2665.keep K2668).keep K2674)
        have f2680 := ((f2666.keep K2668).keep K2674)
        have f2681 := ((f2667.keep K2668).keep K2674)
        have f2682 := ((Fp2640.keep K2668 (ninS (Nat.ne_of_lt (Nat.lt_of_lt_of_le Fw2461.lt s22581)) nin0)).keep K2674 nin0)
        have f2683 := ((Fw2640.keep K2668 (ninS (Nat.ne_of_lt (Nat.lt_of_lt_of_le Fw2461.lt s22581)) nin0)).keep K2674 nin0)
        have f2684 := ((Fc2640.keep K2668 (ninS (Nat.ne_of_lt (Nat.lt_of_lt_of_le Fw2461.lt s22581)) nin0)).keep K2674 nin0)
        have f2685 := ((A12640.keep K2668 (ninS (Exa.ne E12581 E22581 (by decide)) nin0)).keep K2674 nin0)
        have f2686 := (A2668.keep K2674 nin0)
        obtain ⟨cq2687, kq2687, q2687a, q2687b, q2687c⟩ := isOf hZ e2674 f2679
        obtain ⟨_, _, ⟨T2687, L2687, k2687, n2687⟩, -, X2687, ⟨Lc2687, hQ2687, l2687, y2687, z2687⟩, st2687⟩ := X2674.virtualBack hx (y := (⟨"com/example/whittle/whittle/engine/WordSets$Meet", "isEmpty", "()Z"⟩ : MethodName)) (z := (⟨"com/example/whittle/whittle/engine/WordSets$Meet", "isEmpty", "()Z"⟩ : MethodName)) hown (mvT hZ (own_hw hw 59 rfl)) (mvT hZ (own_hw hw 60 rfl)) (notFace_of_selects (args := #[]) (mvT hZ (own_hw hw 62 rfl))) (mvT hZ (own_hw hw 62 rfl)) (mvT hZ (own_hw hw 61 rfl)) (by decide) (backOf (W := 0) (rm_emp l Z a0 hw [] b2453 P2581 W2581 k2581 k22581 N0 pr2640 ur2640 w2668 vr2640 cn2640 h2674 n0 Z2676 g_b2453 g_P2581 g_W2581 f2679 f2680 f2681 f2682 f2683 f2684 f2685 f2686 hM2640 hm2640 hc2640 hl2668 hv2640 h22640) hZ (own_hw hw 63 rfl) (own_hw hw 32 rfl) (by decide) (by decide)) q2687a q2687c (g := (mkF m 254 #[sI p0, sI p1, sI p2, sI p3, sI p4, sI p5, sI a, sI b, sI c, sI d, sI e5, sI b2351, sI b2355, sI b2359, sI r2361, sI r2364, sI r2367, sI r2370, sR b2373, sR b2437, sR b2453, sI z2674] [(.ref b2453)])) rfl (by rw [hml]; rfl) (Steps.refl _) (argsL := []) (rest := []) (lenOf pd__28_29Z rfl) rfl (by show 2 * 0 + _ ≤ _; exact Nat.le_of_eq rfl) (hb hby at_254) (fun _ _ => ⟨rfl, e2674, (Nat.le_of_ble_eq_true rfl : 15 + 0 ≤ _), (Nat.le_of_ble_eq_true rfl : 27 + 0 ≤ _)⟩)
        dsimp only [Pt.U, Pt.locs, Pt.cells, Pt.slots] at X2687 l2687 y2687 z2687 st2687 hQ2687
        subst l2687 y2687 z2687
        obtain ⟨rfl, Nq2687, e2687⟩ := hQ2687
        have N2688 := Fr.app Nq2674 Nq2687
        have P2689 : Rg p e below (T2687.setTop (mkF m 257 #[sI p0, sI p1, sI p2, sI p3, sI p4, sI p5, sI a, sI b, sI c, sI d, sI e5, sI b2351, sI b2355, sI b2359, sI r2361, sI r2364, sI r2367, sI r2370, sR b2373, sR b2437, sR b2453, sI z2674] [(.int (own_emp w2668))])) B0 := fun t k => P2675 t (by
          refine XS.aload X2674.here hx rfl (hb hby at_252) rfl rfl ?_
          show Sg p e below (T2674.setTop (mkF m 254 #[sI p0, sI p1, sI p2, sI p3, sI p4, sI p5, sI a, sI b, sI c, sI d, sI e5, sI b2351, sI b2355, sI b2359, sI r2361, sI r2364, sI r2367, sI r2370, sR b2373, sR b2437, sR b2453, sI z2674] [(.ref b2453)])) _
          exact st2687.trans k)
        have fin2687 : own_emp w2668 = z2674 := own_fin1 hl2668 hz2640 (fun x => ((mem2668 x).trans (by simp [q2467, q2587, q2646, and_assoc]))) u2674_0
        obtain ⟨fs2690, hr2690, hrun2690, hended2690, hW2690, hsame2690⟩ := X2687.leave (v := some (.int (1 : Int32))) (fun h => by rw [Bd.returns] at h; cases h)
        refine ⟨_, _, pre0 _ (P2689 _ ?_), hrun2690, hended2690, _, _, rfl, ?_, ⟨⟨_, rfl⟩, hW2690, hsame2690.mono (Nat.le_of_ble_eq_true rfl) (Nat.le_of_ble_eq_true rfl)⟩⟩
        · show Sg p e below (T2687.setTop (mkF m 257 #[sI p0, sI p1, sI p2, sI p3, sI p4, sI p5, sI a, sI b, sI c, sI d, sI e5, sI b2351, sI b2355, sI b2359, sI r2361, sI r2364, sI r2367, sI r2370, sR b2373, sR b2437, sR b2453, sI z2674] [(.int (own_emp w2668))])) _
          refine XS.iload X2687.here hx rfl (hb hby at_257) rfl ?_
          refine XS.icmpNo X2687.here hx rfl (hb hby at_259) rfl (teq (show (own_emp w2668) = z2674 from fin2687)).2 ?_
          refine XS.iconst X2687.here hx rfl (hb hby at_262) ?_
          refine XS.goto X2687.here hx rfl (pc0 := 263) (pc' := 267) rfl (hb hby at_263) (by decide) (by decide) ?_
          show Sg p e below (T2687.setTop (mkF m 267 #[sI p0, sI p1, sI p2, sI p3, sI p4, sI p5, sI a, sI b, sI c, sI d, sI e5, sI b2351, sI b2355, sI b2359, sI r2361, sI r2364, sI r2367, sI r2370, sR b2373, sR b2437, sR b2453, sI z2674] [(.int (1 : Int32))])) _
          exact retN X2687 hx (t := .boolean) Bd.returns (by simp) (hb hby at_267) hr2690
        · show Q_law  h0 n0 _ T2687.heap _
          rw [e2687]
          exact ⟨rfl, N2688⟩
set_option maxRecDepth 65536 in
set_option maxHeartbeats 40000000 in
theorem comes_1 {Post : Tables → Env → Array Value → State → Outcome → State → Prop} (hpost : ∀ tb e args s v u, (limb_1_1.after args s (.returned v) u = true ∧ limb_1_2.after args s (.returned v) u = true ∧ True) → FrameEnd s (.returned v) u (Jvm.fieldLocs frame_1_writes args s ++ Jvm.arrayLocs frame_1_arrays args s ++ Jvm.staticLocs frame_1_statics s) 40 128 → Post tb e args s (.returned v) u) :
    ArmFor flags0 classFile x code maxLocals ret World_1 tables_1 room_1 Calls_1 rest_1 Pre_1 Post := by
  intro l hfl _ _ p e ha hc hk s m args below hf hA hF happ hP
  obtain ⟨hcalls, hrest, hpre⟩ := hP
  obtain ⟨-, -, -, hnamed, -, -, -, hat⟩ := (Spec.applies_iff hf).mp happ
  obtain ⟨hg, hn⟩ := and_e (Cond.before_iff.mp (show (Jvm.Cond.and given_1 narrow_1).before args s = true from hpre))
  obtain ⟨hcnt, hg0⟩ := and_e hg
  obtain ⟨ga0, hg1⟩ := and_e hg0
  obtain ⟨ga1, hg2⟩ := and_e hg1
  obtain ⟨ga2, hg3⟩ := and_e hg2
  obtain ⟨ga3, hg4⟩ := and_e hg3
  obtain ⟨ga4, hg5⟩ := and_e hg4
  obtain ⟨w0, w1, w2, w3, w4, w5, rfl⟩ : ∃ w0 w1 w2 w3 w4 w5 : Value, args = #[w0, w1, w2, w3, w4, w5] := by
    have hs : args.size = 6 := by simpa [Cond.value, given_1] using hcnt
    obtain ⟨L⟩ := args
    match L, hs with
    | [w0, w1, w2, w3, w4, w5], _ => exact ⟨w0, w1, w2, w3, w4, w5, rfl⟩
  have hw := fun d (hd : d ∈ tables_1) => atoms_spec (ws := Jvm.Cond.code x code maxLocals ret :: tables_1) hat d (List.mem_cons_of_mem _ hd)
  have hfit : Fit s := fun {y c} hc i hi => by
    obtain ⟨ha, rfl⟩ := Array.getElem?_eq_some_iff.mp hc
    have q := List.all_eq_true.mp ((Array.all_eq_true_iff_forall_mem.mp hF) _ (Array.getElem_mem ha)) i (List.mem_range.mpr hi)
    simpa [Array.getElem?_eq_getElem hi] using q
  obtain ⟨i0, ei0⟩ := is_v ga0
  obtain rfl : w0 = (.int i0) := Option.some.inj ei0
  obtain ⟨i1, ei1⟩ := is_v ga1
  obtain rfl : w1 = (.int i1) := Option.some.inj ei1
  obtain ⟨i2, ei2⟩ := is_v ga2
  obtain rfl : w2 = (.int i2) := Option.some.inj ei2
  obtain ⟨i3, ei3⟩ := is_v ga3
  obtain rfl : w3 = (.int i3) := Option.some.inj ei3
  obtain ⟨i4, ei4⟩ := is_v ga4
  obtain rfl : w4 = (.int i4) := Option.some.inj ei4
  obtain ⟨i5, ei5⟩ := is_v hg5
  obtain rfl : w5 = (.int i5) := Option.some.inj ei5
  obtain ⟨n, o, h1, h2, h3, _, L, rfl, ⟨rfl, N⟩, hq⟩ := rm_law l s _ hw tables_1 i0 i1 i2 i3 i4 i5  s.heap s.heap.size (Nat.le_refl _) (Old.start s)  p e ha hc hk s m _ below hf ((Spec.applies_iff_loose hf).mp happ).1 ⟨rfl, State.Warmed39.refl s, rfl⟩ trivial
  refine ⟨n, _, h1, h2, h3, hpost _ _ _ _ _ _ ⟨Cond.after_iff.mpr rfl, Cond.after_iff.mpr (eq_i res_at (Term.int_eval (1)) rfl), trivial⟩ ⟨hq.1, hq.2.1, (hq.2.2.sift fun y hy => Or.inr (N y hy)).mono (Nat.le_of_ble_eq_true rfl) (Nat.le_of_ble_eq_true rfl)⟩⟩
theorem main_1_1 : Claimed_1_1 := comes_1 fun _ _ _ _ _ _ h hF => ⟨h.1, hF⟩
theorem main_1_2 : Claimed_1_2 := comes_1 fun _ _ _ _ _ _ h hF => ⟨h.2.1, hF⟩
end Jvm.Pilot.@@N@@
namespace Jvm.Pilot.@@N@@
open Jvm Jvm.ClassFile Sem Op Lib Jvm.Free Jvm.Stand Jvm.Pilot.@@N@@.Jvm.D
/-! MADE BY PROGRAM (witnessworld.py) out of the Statement's table words and the real class files: 14 classes; the members and pool entries that the words name. The judged class is class 1, her method 2. -/
namespace start1
open Jvm.ClassFile
def u (s : String) : CpInfo := .utf8 (stringToUtf16 s)
/-- a pool by its gaps: so many unusable entries, then the entry; so many at the end -/
def gap : Nat → List CpInfo → List CpInfo
  | 0, r => r
  | n + 1, r => .unusable :: gap n r
def poolList (es : List (Nat × CpInfo)) (last : Nat) : List CpInfo := es.foldr (fun e r => gap e.1 (e.2 :: r)) (gap last [])
def pool (es : List (Nat × CpInfo)) (last : Nat) : Array CpInfo := ⟨poolList es last⟩
def fileOf (pool : Array CpInfo) (this : Nat) (attrs : Array Attribute := #[]) (ms : Array MethodInfo := #[]) (fl : Nat := 33) (sup : Nat := 0) (ifs : Array Nat := #[]) (fds : Array FieldInfo := #[]) : ClassFile where
  minorVersion := 0
  majorVersion := 65
  constantPool := pool
  accessFlags := fl
  thisClass := this
  superClass := sup
  interfaces := ifs
  fields := fds
  methods := ms
  attributes := attrs
def plain (name : String) (sup : Option ClassId) : Class where
  name := name
  kind := .ordinary
  loader := none
  accessFlags := 33
  super := sup
  interfaces := #[]
  cf := none
  fields := #[]
  methods := #[]
  instanceTypes := #[]
  staticTypes := #[]
  resolved := #[]
  callSites := []
  init := .initialized
  statics := none
  mirror := none

def pool0 : Array CpInfo := pool [(5, u "<init>"), (0, u "()V"), (1, .class_ 10), (1, u "java/lang/Object")] 113

def k0c0 : Code := { maxStack := 0, maxLocals := 1, code := object_method_1_code, exceptionTable := #[], attributes := #[] }
def k0m0 : Method := { name := "<init>", desc := "()V", sig := { parameters := [], returnType := none }, accessFlags := 1, code := some k0c0 }
/-- java/lang/Object -/
def k0 : Class := { plain "java/lang/Object" none with
  accessFlags := 33
  interfaces := #[]
  cf := some (fileOf pool0 8 #[] #[{ accessFlags := 1, nameIndex := 5, descriptorIndex := 6, attributes := #[] }] 33 0 #[] #[])
  fields := #[]
  methods := #[k0m0]
  instanceTypes := #[]
  staticTypes := #[]
  resolved := Array.replicate 124 none
  statics := none }

def pool1 : Array CpInfo := pool [(2, .class_ 4), (0, .nameAndType 5 6), (0, u "java/lang/Object"), (0, u "<init>"), (0, u "()V"), (0, .integer 2147483647), (0, .methodref 9 10), (0, .class_ 11), (0, .nameAndType 12 13), (0, u "java/lang/Math"), (0, u "min"), (0, u "(II)I"), (0, .methodref 9 15), (0, .nameAndType 16 13), (0, u "max"), (0, .class_ 18), (0, u "[I"), (0, .class_ 20), (0, u "com/example/whittle/whittle/engine/WordSets"), (0, .methodref 19 22), (0, .nameAndType 5 23), (0, u "([[I)V"), (0, .class_ 25), (0, u "com/example/whittle/whittle/engine/WordSets$Meet"), (0, .methodref 24 3), (0, .methodref 24 28), (0, .nameAndType 29 30), (0, u "start"), (0, u "(Lcom/example/whittle/whittle/engine/WordSets;I)V"), (0, .methodref 24 32), (0, .nameAndType 33 30), (0, u "retain"), (0, .methodref 24 35), (0, .nameAndType 36 37), (0, u "remove"), (0, u "(I)V"), (0, .methodref 39 40), (0, .class_ 41), (0, .nameAndType 42 43), (0, u "com/example/whittle/whittle/engine/WordSetsIsEmptyPinLaw"), (0, u "survives"), (0, u "(IIIIZZZ)Z"), (0, .methodref 24 45), (0, .nameAndType 46 47), (0, u "isEmpty"), (0, u "()Z"), (3, u "law"), (0, u "(IIIIII)Z")] 6

def k1m0 : Method := { name := "<init>", desc := "()V", sig := { parameters := [], returnType := none }, accessFlags := 1, code := none }
def k1c1 : Code := { maxStack := 2, maxLocals := 7, code := method_2_code, exceptionTable := #[], attributes := #[] }
def k1m1 : Method := { name := "survives", desc := "(IIIIZZZ)Z", sig := { parameters := [.int, .int, .int, .int, .boolean, .boolean, .boolean], returnType := some .boolean }, accessFlags := 10, code := some k1c1 }
def k1c2 : Code := { maxStack := 7, maxLocals := 22, code := code, exceptionTable := #[], attributes := #[] }
def k1m2 : Method := { name := "law", desc := "(IIIIII)Z", sig := { parameters := [.int, .int, .int, .int, .int, .int], returnType := some .boolean }, accessFlags := 9, code := some k1c2 }
/-- com/example/whittle/whittle/engine/WordSetsIsEmptyPinLaw -/
def k1 : Class := { plain "com/example/whittle/whittle/engine/WordSetsIsEmptyPinLaw" (some 0) with
  accessFlags := 49
  interfaces := #[]
  cf := some (fileOf pool1 39 #[] #[{ accessFlags := 1, nameIndex := 5, descriptorIndex := 6, attributes := #[] }, { accessFlags := 10, nameIndex := 42, descriptorIndex := 43, attributes := #[] }, { accessFlags := 9, nameIndex := 51, descriptorIndex := 52, attributes := #[] }] 49 2 #[] #[])
  fields := #[]
  methods := #[k1m0, k1m1, k1m2]
  instanceTypes := #[]
  staticTypes := #[]
  resolved := Array.replicate 59 none
  statics := none }

def pool2 : Array CpInfo := pool [(1, .class_ 2), (0, u "java/lang/Math"), (1, .class_ 6), (1, u "java/lang/Object"), (0, u "<init>"), (0, u "()V"), (89, .class_ 100), (1, u "java/lang/Math$RandomNumberGeneratorHolder"), (71, u "negativeZeroFloatBits"), (0, u "J"), (2, u "negativeZeroDoubleBits"), (21, u "max"), (2, u "min"), (43, u "$assertionsDisabled"), (0, u "Z"), (88, u "(II)I"), (2, u "twoToTheDoubleScaleDown"), (0, u "D"), (4, u "twoToTheDoubleScaleUp"), (9, u "E"), (3, u "PI"), (2, u "TAU"), (2, u "DEGREES_TO_RADIANS"), (0, u "RADIANS_TO_DEGREES")] 94

def k2m0 : Method := { name := "<init>", desc := "()V", sig := { parameters := [], returnType := none }, accessFlags := 2, code := none }
def k2c1 : Code := { maxStack := 2, maxLocals := 2, code := jdk_29_method_65_code, exceptionTable := #[], attributes := #[] }
def k2m1 : Method := { name := "max", desc := "(II)I", sig := { parameters := [.int, .int], returnType := some .int }, accessFlags := 9, code := some k2c1 }
def k2c2 : Code := { maxStack := 2, maxLocals := 2, code := jdk_29_method_69_code, exceptionTable := #[], attributes := #[] }
def k2m2 : Method := { name := "min", desc := "(II)I", sig := { parameters := [.int, .int], returnType := some .int }, accessFlags := 9, code := some k2c2 }
/-- java/lang/Math -/
def k2 : Class := { plain "java/lang/Math" (some 0) with
  accessFlags := 49
  interfaces := #[]
  cf := some (fileOf pool2 1 #[.nestMembers #[98]] #[{ accessFlags := 2, nameIndex := 7, descriptorIndex := 8, attributes := #[] }, { accessFlags := 9, nameIndex := 198, descriptorIndex := 335, attributes := #[] }, { accessFlags := 9, nameIndex := 201, descriptorIndex := 335, attributes := #[] }] 49 4 #[] #[{ accessFlags := 25, nameIndex := 354, descriptorIndex := 339, attributes := #[] }, { accessFlags := 25, nameIndex := 358, descriptorIndex := 339, attributes := #[] }, { accessFlags := 25, nameIndex := 361, descriptorIndex := 339, attributes := #[] }, { accessFlags := 26, nameIndex := 364, descriptorIndex := 339, attributes := #[] }, { accessFlags := 26, nameIndex := 365, descriptorIndex := 339, attributes := #[] }, { accessFlags := 26, nameIndex := 172, descriptorIndex := 173, attributes := #[] }, { accessFlags := 26, nameIndex := 176, descriptorIndex := 173, attributes := #[] }, { accessFlags := 8, nameIndex := 344, descriptorIndex := 339, attributes := #[] }, { accessFlags := 8, nameIndex := 338, descriptorIndex := 339, attributes := #[] }, { accessFlags := 4120, nameIndex := 245, descriptorIndex := 246, attributes := #[] }])
  fields := #[{ name := "E", type := .double, accessFlags := 25, slot := 0, constantValue := 0 }, { name := "PI", type := .double, accessFlags := 25, slot := 1, constantValue := 0 }, { name := "TAU", type := .double, accessFlags := 25, slot := 2, constantValue := 0 }, { name := "DEGREES_TO_RADIANS", type := .double, accessFlags := 26, slot := 3, constantValue := 0 }, { name := "RADIANS_TO_DEGREES", type := .double, accessFlags := 26, slot := 4, constantValue := 0 }, { name := "negativeZeroFloatBits", type := .long, accessFlags := 26, slot := 5, constantValue := 0 }, { name := "negativeZeroDoubleBits", type := .long, accessFlags := 26, slot := 6, constantValue := 0 }, { name := "twoToTheDoubleScaleUp", type := .double, accessFlags := 8, slot := 7, constantValue := 0 }, { name := "twoToTheDoubleScaleDown", type := .double, accessFlags := 8, slot := 8, constantValue := 0 }, { name := "$assertionsDisabled", type := .boolean, accessFlags := 4120, slot := 9, constantValue := 0 }]
  methods := #[k2m0, k2m1, k2m2]
  instanceTypes := #[]
  staticTypes := #[.double, .double, .double, .double, .double, .long, .long, .double, .double, .boolean]
  resolved := Array.replicate 460 none
  statics := none }

def pool3 : Array CpInfo := pool [(1, .methodref 2 3), (0, .class_ 4), (0, .nameAndType 5 6), (0, u "java/lang/Object"), (0, u "<init>"), (0, u "()V"), (0, .class_ 8), (0, u "[I"), (0, .fieldref 10 11), (0, .class_ 12), (0, .nameAndType 13 14), (0, u "com/example/whittle/whittle/engine/WordSets"), (0, u "places"), (0, u "[[I"), (0, .class_ 16), (0, u "[J"), (0, .fieldref 10 18), (0, .nameAndType 19 20), (0, u "words"), (0, u "[[J"), (21, u "([[I)V"), (10, .class_ 54), (0, u "com/example/whittle/whittle/engine/WordSets$Meet")] 2

def k3c0 : Code := { maxStack := 8, maxLocals := 9, code := prog_21_method_1_code, exceptionTable := #[], attributes := #[] }
def k3m0 : Method := { name := "<init>", desc := "([[I)V", sig := { parameters := [(.array (.array .int))], returnType := none }, accessFlags := 0, code := some k3c0 }
/-- com/example/whittle/whittle/engine/WordSets -/
def k3 : Class := { plain "com/example/whittle/whittle/engine/WordSets" (some 0) with
  accessFlags := 48
  interfaces := #[]
  cf := some (fileOf pool3 10 #[.nestMembers #[53]] #[{ accessFlags := 0, nameIndex := 5, descriptorIndex := 42, attributes := #[] }] 48 2 #[] #[{ accessFlags := 18, nameIndex := 13, descriptorIndex := 14, attributes := #[] }, { accessFlags := 18, nameIndex := 19, descriptorIndex := 20, attributes := #[] }])
  fields := #[{ name := "places", type := (.array (.array .int)), accessFlags := 18, slot := 0, constantValue := 0 }, { name := "words", type := (.array (.array .long)), accessFlags := 18, slot := 1, constantValue := 0 }]
  methods := #[k3m0]
  instanceTypes := #[(.array (.array .int)), (.array (.array .long))]
  staticTypes := #[]
  resolved := Array.replicate 57 none
  statics := none }

def pool4 : Array CpInfo := pool [(1, .methodref 2 3), (0, .class_ 4), (0, .nameAndType 5 6), (0, u "java/lang/Object"), (0, u "<init>"), (0, u "()V"), (0, .fieldref 8 9), (0, .class_ 10), (0, .nameAndType 11 12), (0, u "com/example/whittle/whittle/engine/WordSets$Meet"), (0, u "places"), (0, u "[I"), (0, .fieldref 8 14), (0, .nameAndType 15 16), (0, u "words"), (0, u "[J"), (0, .fieldref 18 19), (0, .class_ 20), (0, .nameAndType 11 21), (0, u "com/example/whittle/whittle/engine/WordSets"), (0, u "[[I"), (0, .fieldref 18 23), (0, .nameAndType 15 24), (0, u "[[J"), (0, .fieldref 8 26), (0, .nameAndType 27 28), (0, u "count"), (0, u "I"), (0, .methodref 30 31), (0, .class_ 32), (0, .nameAndType 33 34), (0, u "java/util/Arrays"), (0, u "binarySearch"), (0, u "([IIII)I"), (0, .long 18446744073709551615), (7, u "start"), (0, u "(Lcom/example/whittle/whittle/engine/WordSets;I)V"), (3, u "retain"), (0, u "remove"), (0, u "(I)V"), (0, u "isEmpty"), (0, u "()Z")] 6

def k4c0 : Code := { maxStack := 2, maxLocals := 1, code := prog_22_method_1_code, exceptionTable := #[], attributes := #[] }
def k4m0 : Method := { name := "<init>", desc := "()V", sig := { parameters := [], returnType := none }, accessFlags := 0, code := some k4c0 }
def k4c1 : Code := { maxStack := 5, maxLocals := 6, code := prog_22_method_2_code, exceptionTable := #[], attributes := #[] }
def k4m1 : Method := { name := "start", desc := "(Lcom/example/whittle/whittle/engine/WordSets;I)V", sig := { parameters := [(.object "com/example/whittle/whittle/engine/WordSets"), .int], returnType := none }, accessFlags := 0, code := some k4c1 }
def k4c2 : Code := { maxStack := 4, maxLocals := 10, code := prog_22_method_3_code, exceptionTable := #[], attributes := #[] }
def k4m2 : Method := { name := "retain", desc := "(Lcom/example/whittle/whittle/engine/WordSets;I)V", sig := { parameters := [(.object "com/example/whittle/whittle/engine/WordSets"), .int], returnType := none }, accessFlags := 0, code := some k4c2 }
def k4c3 : Code := { maxStack := 8, maxLocals := 3, code := prog_22_method_4_code, exceptionTable := #[], attributes := #[] }
def k4m3 : Method := { name := "remove", desc := "(I)V", sig := { parameters := [.int], returnType := none }, accessFlags := 0, code := some k4c3 }
def k4c4 : Code := { maxStack := 4, maxLocals := 2, code := prog_22_method_5_code, exceptionTable := #[], attributes := #[] }
def k4m4 : Method := { name := "isEmpty", desc := "()Z", sig := { parameters := [], returnType := some .boolean }, accessFlags := 0, code := some k4c4 }
/-- com/example/whittle/whittle/engine/WordSets$Meet -/
def k4 : Class := { plain "com/example/whittle/whittle/engine/WordSets$Meet" (some 0) with
  accessFlags := 48
  interfaces := #[]
  cf := some (fileOf pool4 8 #[.nestHost 18] #[{ accessFlags := 0, nameIndex := 5, descriptorIndex := 6, attributes := #[] }, { accessFlags := 0, nameIndex := 43, descriptorIndex := 44, attributes := #[] }, { accessFlags := 0, nameIndex := 48, descriptorIndex := 44, attributes := #[] }, { accessFlags := 0, nameIndex := 49, descriptorIndex := 50, attributes := #[] }, { accessFlags := 0, nameIndex := 51, descriptorIndex := 52, attributes := #[] }] 48 2 #[] #[{ accessFlags := 2, nameIndex := 11, descriptorIndex := 12, attributes := #[] }, { accessFlags := 2, nameIndex := 15, descriptorIndex := 16, attributes := #[] }, { accessFlags := 2, nameIndex := 27, descriptorIndex := 28, attributes := #[] }])
  fields := #[{ name := "places", type := (.array .int), accessFlags := 2, slot := 0, constantValue := 0 }, { name := "words", type := (.array .long), accessFlags := 2, slot := 1, constantValue := 0 }, { name := "count", type := .int, accessFlags := 2, slot := 2, constantValue := 0 }]
  methods := #[k4m0, k4m1, k4m2, k4m3, k4m4]
  instanceTypes := #[(.array .int), (.array .long), .int]
  staticTypes := #[]
  resolved := Array.replicate 59 none
  statics := none }

def pool5 : Array CpInfo := pool [(2, .class_ 4), (1, u "java/lang/Object"), (0, u "<init>"), (0, u "()V"), (6, .methodref 14 15), (0, .class_ 16), (0, .nameAndType 17 18), (0, u "java/util/Arrays"), (0, u "rangeCheck"), (0, u "(III)V"), (55, .class_ 76), (1, u "java/util/Arrays$NaturalOrder"), (36, .class_ 115), (1, u "java/util/Arrays$LegacyMergeSort"), (1, u "Z"), (89, u "binarySearch0"), (1, .methodref 14 210), (0, .nameAndType 207 211), (0, u "([IIII)I"), (163, .class_ 376), (0, u "java/util/Arrays$ArrayList"), (68, u "$assertionsDisabled"), (269, u "MIN_ARRAY_SORT_GRAN"), (0, u "I"), (2, u "INSERTIONSORT_THRESHOLD"), (74, u "binarySearch"), (180, .class_ 976), (0, u "java/util/Arrays$ArrayItr")] 52

def k5m0 : Method := { name := "<init>", desc := "()V", sig := { parameters := [], returnType := none }, accessFlags := 2, code := none }
def k5c1 : Code := { maxStack := 4, maxLocals := 3, code := jdk_65_method_30_code, exceptionTable := #[], attributes := #[] }
def k5m1 : Method := { name := "rangeCheck", desc := "(III)V", sig := { parameters := [.int, .int, .int], returnType := none }, accessFlags := 8, code := some k5c1 }
def k5c2 : Code := { maxStack := 4, maxLocals := 4, code := jdk_65_method_58_code, exceptionTable := #[], attributes := #[] }
def k5m2 : Method := { name := "binarySearch", desc := "([IIII)I", sig := { parameters := [(.array .int), .int, .int, .int], returnType := some .int }, accessFlags := 9, code := some k5c2 }
def k5c3 : Code := { maxStack := 2, maxLocals := 8, code := jdk_65_method_59_code, exceptionTable := #[], attributes := #[] }
def k5m3 : Method := { name := "binarySearch0", desc := "([IIII)I", sig := { parameters := [(.array .int), .int, .int, .int], returnType := some .int }, accessFlags := 10, code := some k5c3 }
/-- java/util/Arrays -/
def k5 : Class := { plain "java/util/Arrays" (some 0) with
  accessFlags := 49
  interfaces := #[]
  cf := some (fileOf pool5 14 #[.nestMembers #[975, 375, 113, 74]] #[{ accessFlags := 2, nameIndex := 5, descriptorIndex := 6, attributes := #[] }, { accessFlags := 8, nameIndex := 17, descriptorIndex := 18, attributes := #[] }, { accessFlags := 9, nameIndex := 794, descriptorIndex := 211, attributes := #[] }, { accessFlags := 10, nameIndex := 207, descriptorIndex := 211, attributes := #[] }] 49 2 #[] #[{ accessFlags := 26, nameIndex := 715, descriptorIndex := 716, attributes := #[] }, { accessFlags := 26, nameIndex := 719, descriptorIndex := 716, attributes := #[] }, { accessFlags := 4120, nameIndex := 445, descriptorIndex := 117, attributes := #[] }])
  fields := #[{ name := "MIN_ARRAY_SORT_GRAN", type := .int, accessFlags := 26, slot := 0, constantValue := 0 }, { name := "INSERTIONSORT_THRESHOLD", type := .int, accessFlags := 26, slot := 1, constantValue := 0 }, { name := "$assertionsDisabled", type := .boolean, accessFlags := 4120, slot := 2, constantValue := 0 }]
  methods := #[k5m0, k5m1, k5m2, k5m3]
  instanceTypes := #[]
  staticTypes := #[.int, .int, .boolean]
  resolved := Array.replicate 1029 none
  statics := none }

def pool6 : Array CpInfo := pool [(1, u "java/lang/Cloneable"), (0, .class_ 1), (0, u "java/lang/Object"), (0, .class_ 3)] 3

/-- java/lang/Cloneable -/
def k6 : Class := { plain "java/lang/Cloneable" (some 0) with
  accessFlags := 1537
  interfaces := #[]
  cf := some (fileOf pool6 2 #[] #[] 1537 4 #[] #[])
  fields := #[]
  methods := #[]
  instanceTypes := #[]
  staticTypes := #[]
  resolved := Array.replicate 8 none
  statics := none }

def pool7 : Array CpInfo := pool [(1, u "java/io/Serializable"), (0, .class_ 1), (0, u "java/lang/Object"), (0, .class_ 3)] 3

/-- java/io/Serializable -/
def k7 : Class := { plain "java/io/Serializable" (some 0) with
  accessFlags := 1537
  interfaces := #[]
  cf := some (fileOf pool7 2 #[] #[] 1537 4 #[] #[])
  fields := #[]
  methods := #[]
  instanceTypes := #[]
  staticTypes := #[]
  resolved := Array.replicate 8 none
  statics := none }

/-- the primitive byte -/
def k8 : Class := { plain "byte" none with kind := .primitive 'B', accessFlags := 0x411 }
/-- [B -/
def k9 : Class := { plain "[B" (some 0) with kind := .array 8 .byte, interfaces := #[6, 7], accessFlags := 1041 }

/-- the primitive int -/
def k10 : Class := { plain "int" none with kind := .primitive 'I', accessFlags := 0x411 }
/-- [I -/
def k11 : Class := { plain "[I" (some 0) with kind := .array 10 .int, interfaces := #[6, 7], accessFlags := 1041 }

/-- the primitive long -/
def k12 : Class := { plain "long" none with kind := .primitive 'J', accessFlags := 0x411 }
/-- [J -/
def k13 : Class := { plain "[J" (some 0) with kind := .array 12 .long, interfaces := #[6, 7], accessFlags := 1041 }

/-- [[I -/
def k14 : Class := { plain "[[I" (some 0) with kind := .array 11 (.array .int), interfaces := #[6, 7], accessFlags := 1041 }
/-- [[J -/
def k15 : Class := { plain "[[J" (some 0) with kind := .array 13 (.array .long), interfaces := #[6, 7], accessFlags := 1041 }
def heap : Heap := #[]
def classes : Array Class := #[k0, k1, k2, k3, k4, k5, k6, k7, k8, k9, k10, k11, k12, k13, k14, k15]
def interned : List (Array UInt16 × Addr) := []
def slotsUsed : Nat := 0
def theMethod : MethodId := ⟨1, 2⟩
def args0 : Array Value := #[.int 1, .int 2, .int 3, .int 4, .int 5, .int 6]
def aboutOver (below : List Frame) : State where
  vm := { classes := classes, interned := interned.toArray }
  heap := heap
  slotsUsed := slotsUsed
  threads := #[{ frames := .invoking theMethod args0 :: below }]
def below0 : List Frame := [.native { method := ⟨0, 0⟩, args := #[] }]
def about1 : State := aboutOver below0
def p0 : Program := .bare "" "" ""
def e0 : Env := launch0.env 0 0 0
theorem w_frames : about1.frames = Frame.invoking theMethod args0 :: below0 := rfl
set_option maxRecDepth 65536 in
theorem w_args : argsFit about1.vm theMethod args0 = true := by decide +kernel
set_option maxRecDepth 65536 in
theorem w_heap : heapFits about1 = true := by decide +kernel
set_option maxRecDepth 65536 in
theorem w_runnable : about1.curStatus? = some .runnable := by decide +kernel
set_option maxRecDepth 65536 in
theorem w_alone : about1.alone = true := by decide +kernel
set_option maxRecDepth 65536 in
theorem w_named : about1.methodNamed? x = some theMethod := by decide +kernel
set_option maxRecDepth 65536 in
theorem w_hears : about1.hears theMethod below0 = true := by decide +kernel
set_option maxRecDepth 65536 in
theorem w_ripe : about1.ripe theMethod args0 below0 = true := by decide +kernel
theorem w_running : about1.status = .running := rfl
set_option maxRecDepth 65536 in
theorem w_room : about1.hasRoom e0.platform room_1 = true :=
  launch0.hasRoom_least _ room_1 (by decide +kernel) (by decide +kernel) (by decide +kernel) (by decide +kernel) (by decide +kernel) (by decide +kernel)
theorem allAtoms_all (ts : List Jvm.Cond) (a : Array Jvm.Value) (st : Jvm.State) : (allAtoms ts).before a st = ts.all (fun c => c.before a st) := by
  induction ts with
  | nil => rfl
  | cons c t ih =>
    show (Jvm.Cond.and c (allAtoms t)).before a st = _
    rw [Jvm.Cond.before_and, ih, List.all_cons]
def words1 : List Jvm.Cond := Jvm.Cond.code x code maxLocals ret :: tables_1
/-- a 'code' word, met by the world's own term for the bytes: nothing is compared byte by byte -/
theorem code_word {y : MethodName} {bytes : ByteArray} {mx : Nat} {rt : Option FieldType} {a : Array Value} {s : State} {m : MethodId} {meth : Method} {c : Code} (h1 : s.methodNamed? y = some m) (h2 : s.vm.method? m = some meth) (h3 : meth.code = some c) (h4 : c.code = bytes)
    (h5 : (c.maxLocals == mx && c.exceptionTable.isEmpty && decide (c.maxStack ≤ mostOperands) && decide (meth.sig.returnType = rt) && !meth.locks && decide (parseMethodDescriptor y.desc = some meth.sig)) = true) : (Jvm.Cond.code y bytes mx rt).before a s = true := by
  simp only [Bool.and_eq_true, beq_iff_eq, Bool.not_eq_true', decide_eq_true_eq] at h5
  obtain ⟨⟨⟨⟨⟨g1, g2⟩, g3⟩, g4⟩, g5⟩, g6⟩ := h5
  simp [Cond.before, Cond.holds, Cond.value, h1, h2, h3, h4, g1, g2, g3, g4, g5, g6]
def isCode : Jvm.Cond → Bool
  | .code _ _ _ _ => true
  | _ => false
theorem all_split {L : List Jvm.Cond} {P : Jvm.Cond → Bool} (h1 : L.all (fun c => isCode c || P c) = true) (h2 : ∀ c ∈ L.filter isCode, P c = true) : L.all P = true := by
  refine List.all_eq_true.mpr fun c hc => ?_
  have h := List.all_eq_true.mp h1 c hc
  rcases Bool.eq_false_or_eq_true (isCode c) with hi | hi
  · exact h2 c (List.mem_filter.mpr ⟨hc, hi⟩)
  · simpa [hi] using h
set_option maxRecDepth 65536 in
theorem w_c0 : (Jvm.Cond.code x code maxLocals ret).before args0 about1 = true := code_word (m := ⟨1, 2⟩) (meth := k1m2) (c := k1c2) (by decide +kernel) rfl rfl rfl (by decide +kernel)
set_option maxRecDepth 65536 in
theorem w_c1 : (Jvm.Cond.code ({ cls := "java/lang/Math", name := "min", desc := "(II)I" } : Jvm.MethodName) jdk_29_method_69_code (2 : Nat) (Option.some Jvm.ClassFile.FieldType.int)).before args0 about1 = true := code_word (m := ⟨2, 2⟩) (meth := k2m2) (c := k2c2) (by decide +kernel) rfl rfl rfl (by decide +kernel)
set_option maxRecDepth 65536 in
theorem w_c2 : (Jvm.Cond.code ({ cls := "java/lang/Math", name := "max", desc := "(II)I" } : Jvm.MethodName) jdk_29_method_65_code (2 : Nat) (Option.some Jvm.ClassFile.FieldType.int)).before args0 about1 = true := code_word (m := ⟨2, 1⟩) (meth := k2m1) (c := k2c1) (by decide +kernel) rfl rfl rfl (by decide +kernel)
set_option maxRecDepth 65536 in
theorem w_c3 : (Jvm.Cond.code ({ cls := "com/example/whittle/whittle/engine/WordSets", name := "<init>", desc := "([[I)V" } : Jvm.MethodName) prog_21_method_1_code (9 : Nat) (Option.none : Option Jvm.ClassFile.FieldType)).before args0 about1 = true := code_word (m := ⟨3, 0⟩) (meth := k3m0) (c := k3c0) (by decide +kernel) rfl rfl rfl (by decide +kernel)
set_option maxRecDepth 65536 in
theorem w_c4 : (Jvm.Cond.code ({ cls := "java/lang/Object", name := "<init>", desc := "()V" } : Jvm.MethodName) object_method_1_code (1 : Nat) (Option.none : Option Jvm.ClassFile.FieldType)).before args0 about1 = true := code_word (m := ⟨0, 0⟩) (meth := k0m0) (c := k0c0) (by decide +kernel) rfl rfl rfl (by decide +kernel)
set_option maxRecDepth 65536 in
theorem w_c5 : (Jvm.Cond.code ({ cls := "com/example/whittle/whittle/engine/WordSets$Meet", name := "<init>", desc := "()V" } : Jvm.MethodName) prog_22_method_1_code (1 : Nat) (Option.none : Option Jvm.ClassFile.FieldType)).before args0 about1 = true := code_word (m := ⟨4, 0⟩) (meth := k4m0) (c := k4c0) (by decide +kernel) rfl rfl rfl (by decide +kernel)
set_option maxRecDepth 65536 in
theorem w_c6 : (Jvm.Cond.code ({ cls := "com/example/whittle/whittle/engine/WordSets$Meet", name := "start", desc := "(Lcom/example/whittle/whittle/engine/WordSets;I)V" } : Jvm.MethodName) prog_22_method_2_code (6 : Nat) (Option.none : Option Jvm.ClassFile.FieldType)).before args0 about1 = true := code_word (m := ⟨4, 1⟩) (meth := k4m1) (c := k4c1) (by decide +kernel) rfl rfl rfl (by decide +kernel)
set_option maxRecDepth 65536 in
theorem w_c7 : (Jvm.Cond.code ({ cls := "com/example/whittle/whittle/engine/WordSets$Meet", name := "retain", desc := "(Lcom/example/whittle/whittle/engine/WordSets;I)V" } : Jvm.MethodName) prog_22_method_3_code (10 : Nat) (Option.none : Option Jvm.ClassFile.FieldType)).before args0 about1 = true := code_word (m := ⟨4, 2⟩) (meth := k4m2) (c := k4c2) (by decide +kernel) rfl rfl rfl (by decide +kernel)
set_option maxRecDepth 65536 in
theorem w_c8 : (Jvm.Cond.code ({ cls := "com/example/whittle/whittle/engine/WordSetsIsEmptyPinLaw", name := "survives", desc := "(IIIIZZZ)Z" } : Jvm.MethodName) method_2_code (7 : Nat) (Option.some Jvm.ClassFile.FieldType.boolean)).before args0 about1 = true := code_word (m := ⟨1, 1⟩) (meth := k1m1) (c := k1c1) (by decide +kernel) rfl rfl rfl (by decide +kernel)
set_option maxRecDepth 65536 in
theorem w_c9 : (Jvm.Cond.code ({ cls := "com/example/whittle/whittle/engine/WordSets$Meet", name := "isEmpty", desc := "()Z" } : Jvm.MethodName) prog_22_method_5_code (2 : Nat) (Option.some Jvm.ClassFile.FieldType.boolean)).before args0 about1 = true := code_word (m := ⟨4, 4⟩) (meth := k4m4) (c := k4c4) (by decide +kernel) rfl rfl rfl (by decide +kernel)
set_option maxRecDepth 65536 in
theorem w_c10 : (Jvm.Cond.code ({ cls := "com/example/whittle/whittle/engine/WordSets$Meet", name := "remove", desc := "(I)V" } : Jvm.MethodName) prog_22_method_4_code (3 : Nat) (Option.none : Option Jvm.ClassFile.FieldType)).before args0 about1 = true := code_word (m := ⟨4, 3⟩) (meth := k4m3) (c := k4c3) (by decide +kernel) rfl rfl rfl (by decide +kernel)
set_option maxRecDepth 65536 in
theorem w_c11 : (Jvm.Cond.code ({ cls := "java/util/Arrays", name := "binarySearch", desc := "([IIII)I" } : Jvm.MethodName) jdk_65_method_58_code (4 : Nat) (Option.some Jvm.ClassFile.FieldType.int)).before args0 about1 = true := code_word (m := ⟨5, 2⟩) (meth := k5m2) (c := k5c2) (by decide +kernel) rfl rfl rfl (by decide +kernel)
set_option maxRecDepth 65536 in
theorem w_c12 : (Jvm.Cond.code ({ cls := "java/util/Arrays", name := "rangeCheck", desc := "(III)V" } : Jvm.MethodName) jdk_65_method_30_code (3 : Nat) (Option.none : Option Jvm.ClassFile.FieldType)).before args0 about1 = true := code_word (m := ⟨5, 1⟩) (meth := k5m1) (c := k5c1) (by decide +kernel) rfl rfl rfl (by decide +kernel)
set_option maxRecDepth 65536 in
theorem w_c13 : (Jvm.Cond.code ({ cls := "java/util/Arrays", name := "binarySearch0", desc := "([IIII)I" } : Jvm.MethodName) jdk_65_method_59_code (8 : Nat) (Option.some Jvm.ClassFile.FieldType.int)).before args0 about1 = true := code_word (m := ⟨5, 3⟩) (meth := k5m3) (c := k5c3) (by decide +kernel) rfl rfl rfl (by decide +kernel)
def codes1 : List Jvm.Cond := [Jvm.Cond.code x code maxLocals ret, Jvm.Cond.code ({ cls := "java/lang/Math", name := "min", desc := "(II)I" } : Jvm.MethodName) jdk_29_method_69_code (2 : Nat) (Option.some Jvm.ClassFile.FieldType.int), Jvm.Cond.code ({ cls := "java/lang/Math", name := "max", desc := "(II)I" } : Jvm.MethodName) jdk_29_method_65_code (2 : Nat) (Option.some Jvm.ClassFile.FieldType.int), Jvm.Cond.code ({ cls := "com/example/whittle/whittle/engine/WordSets", name := "<init>", desc := "([[I)V" } : Jvm.MethodName) prog_21_method_1_code (9 : Nat) (Option.none : Option Jvm.ClassFile.FieldType), Jvm.Cond.code ({ cls := "java/lang/Object", name := "<init>", desc := "()V" } : Jvm.MethodName) object_method_1_code (1 : Nat) (Option.none : Option Jvm.ClassFile.FieldType), Jvm.Cond.code ({ cls := "com/example/whittle/whittle/engine/WordSets$Meet", name := "<init>", desc := "()V" } : Jvm.MethodName) prog_22_method_1_code (1 : Nat) (Option.none : Option Jvm.ClassFile.FieldType), Jvm.Cond.code ({ cls := "com/example/whittle/whittle/engine/WordSets$Meet", name := "start", desc := "(Lcom/example/whittle/whittle/engine/WordSets;I)V" } : Jvm.MethodName) prog_22_method_2_code (6 : Nat) (Option.none : Option Jvm.ClassFile.FieldType), Jvm.Cond.code ({ cls := "com/example/whittle/whittle/engine/WordSets$Meet", name := "retain", desc := "(Lcom/example/whittle/whittle/engine/WordSets;I)V" } : Jvm.MethodName) prog_22_method_3_code (10 : Nat) (Option.none : Option Jvm.ClassFile.FieldType), Jvm.Cond.code ({ cls := "com/example/whittle/whittle/engine/WordSetsIsEmptyPinLaw", name := "survives", desc := "(IIIIZZZ)Z" } : Jvm.MethodName) method_2_code (7 : Nat) (Option.some Jvm.ClassFile.FieldType.boolean), Jvm.Cond.code ({ cls := "com/example/whittle/whittle/engine/WordSets$Meet", name := "isEmpty", desc := "()Z" } : Jvm.MethodName) prog_22_method_5_code (2 : Nat) (Option.some Jvm.ClassFile.FieldType.boolean), Jvm.Cond.code ({ cls := "com/example/whittle/whittle/engine/WordSets$Meet", name := "remove", desc := "(I)V" } : Jvm.MethodName) prog_22_method_4_code (3 : Nat) (Option.none : Option Jvm.ClassFile.FieldType), Jvm.Cond.code ({ cls := "java/util/Arrays", name := "binarySearch", desc := "([IIII)I" } : Jvm.MethodName) jdk_65_method_58_code (4 : Nat) (Option.some Jvm.ClassFile.FieldType.int), Jvm.Cond.code ({ cls := "java/util/Arrays", name := "rangeCheck", desc := "(III)V" } : Jvm.MethodName) jdk_65_method_30_code (3 : Nat) (Option.none : Option Jvm.ClassFile.FieldType), Jvm.Cond.code ({ cls := "java/util/Arrays", name := "binarySearch0", desc := "([IIII)I" } : Jvm.MethodName) jdk_65_method_59_code (8 : Nat) (Option.some Jvm.ClassFile.FieldType.int)]
set_option maxRecDepth 65536 in
theorem codes_eq : words1.filter isCode = codes1 := rfl
theorem w_codes : ∀ c ∈ words1.filter isCode, c.before args0 about1 = true := by
  rw [codes_eq]
  intro c hc
  simp only [codes1, List.mem_cons, List.not_mem_nil, or_false] at hc
  rcases hc with rfl | rfl | rfl | rfl | rfl | rfl | rfl | rfl | rfl | rfl | rfl | rfl | rfl | rfl
  · exact w_c0
  · exact w_c1
  · exact w_c2
  · exact w_c3
  · exact w_c4
  · exact w_c5
  · exact w_c6
  · exact w_c7
  · exact w_c8
  · exact w_c9
  · exact w_c10
  · exact w_c11
  · exact w_c12
  · exact w_c13
set_option maxRecDepth 65536 in
theorem w_t1 : (words1.take 24).all (fun c => isCode c || c.before args0 about1) = true := by decide +kernel
set_option maxRecDepth 65536 in
theorem w_t2 : ((words1.drop 24).take 24).all (fun c => isCode c || c.before args0 about1) = true := by decide +kernel
set_option maxRecDepth 65536 in
theorem w_t3 : (((words1.drop 24).drop 24).take 24).all (fun c => isCode c || c.before args0 about1) = true := by decide +kernel
set_option maxRecDepth 65536 in
theorem w_t4 : (((words1.drop 24).drop 24).drop 24).all (fun c => isCode c || c.before args0 about1) = true := by decide +kernel
theorem w_tables : (allAtoms (Jvm.Cond.code x code maxLocals ret :: tables_1)).before args0 about1 = true := by
  rw [allAtoms_all]
  show words1.all (fun c => c.before args0 about1) = true
  refine all_split ?_ w_codes
  rw [← List.take_append_drop 24 words1, List.all_append, w_t1, ← List.take_append_drop 24 (words1.drop 24), List.all_append, w_t2, ← List.take_append_drop 24 ((words1.drop 24).drop 24), List.all_append, w_t3, w_t4]
  rfl
set_option maxRecDepth 65536 in
theorem w_case : (Jvm.Cond.and given_1 narrow_1).before args0 about1 = true := by decide +kernel
theorem w_applies : (headSpec (Jvm.Cond.code x code maxLocals ret :: tables_1) room_1).applies x e0.platform about1 = true :=
  (Spec.applies_iff w_frames).mpr ⟨w_running, w_runnable, w_alone, w_named, w_hears, w_ripe, w_room, w_tables⟩
theorem atStart : AtStart classFile x code maxLocals ret World_1 tables_1 room_1 Calls_1 rest_1 Pre_1 launch0 p0 e0 about1 theMethod args0 below0 :=
  ⟨lists_1, trivial, launch0.admits_env _ _ _, launch0.least_env, fairChoices_fair.cas, fairChoices_fair.clock, w_frames, w_args, w_heap, w_applies, trivial, trivial, w_case⟩
end start1
theorem witness_1 : WitnessClaimed_1 := ⟨start1.p0, start1.e0, start1.about1, start1.theMethod, start1.args0, start1.below0, start1.atStart⟩
end Jvm.Pilot.@@N@@
