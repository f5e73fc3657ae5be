import JvmDerived
import JvmDerived.Pilot.@@N@@Statement
import JvmDerived.Pilot.@@N@@Code
set_option linter.unusedVariables false
set_option linter.unusedSimpArgs false
namespace Jvm.RoadKit
open Sem ClassFile Op Lib Jvm.Stand Jvm.Free Jvm.LawKit
section New
variable {p : Program} {l : Launch} {e : Env} {R : Room} {s : State} {m : MethodId} {args : Array Value} {below : List Frame} {meth : Method} {c : Code} {T : State} {locs : List Loc} {cells slots : Nat}
theorem retI (X : Stand p l e R s m args below meth c T locs cells slots) (hx : p.tables.exec = Jvm.exec) {pc : Nat} {Ls : Array Slot} {z : Int32} {rest : List Value} (hret : meth.sig.returnType = some .int) (hd : decode c.code pc = .ok (.ireturn, 1)) {fs : List Frame}
    (hl : ∀ (f : JFrame) (acts : List Action), f.method = m → f.locked = none → f.entered = [] → (doReturn e (T.setTop f) acts (some (.int z))).1 = T.setFrames fs) : Steps p.tables e below (T.setTop (mkF m pc Ls (.int z :: rest))) (T.setFrames fs) :=
  retOut X hx hret rfl (Or.inl ⟨rfl, Or.inl rfl, _, rfl⟩) hd hl
theorem fitsRef {C : String} {v : Value} (h : v.isRef = true) : fits (.object C) v = true := by
  rcases ref_cases h with rfl | ⟨_, rfl⟩ <;> rfl
end New
end Jvm.RoadKit
namespace Jvm.Pilot.@@N@@
open Jvm Jvm.ClassFile Sem Op Lib Jvm.Free Jvm.Stand Jvm.LawKit Jvm.RoadKit Bundle Jvm.Pilot.@@N@@.Jvm.D
theorem own_hw {P : Jvm.Cond → Prop} (hw : ∀ d ∈ tables_1, P d) (i : Nat) {d : Jvm.Cond} (h : tables_1[i]? = some d) : P d := hw d (List.mem_of_getElem? h)
abbrev Sg (p : Program) (e : Env) (below : List Frame) (S T : State) : Prop := Steps p.tables e below S T
abbrev Rg (p : Program) (e : Env) (below : List Frame) (A B : State) : Prop := ∀ t, Steps p.tables e below A t → Steps p.tables e below B t
abbrev sI (x : Int32) : Slot := .val (.int x)
abbrev sR (a : Addr) : Slot := .val (.ref a)
abbrev sU : Slot := .unset
abbrev sM : String := "com/example/whittle/whittle/engine/WordSets$Meet"
abbrev sW : String := "com/example/whittle/whittle/engine/WordSets"
theorem own_inb {N : Int32} {n k : Nat} (hN : N = Int32.ofNat n) (hk : k < n) (hb : n ≤ 3) : ¬ (Int32.ofNat k) < 0 ∧ Int32.ofNat k < N := by
  subst hN
  have t : ∀ n : Fin 4, ∀ k : Fin 4, k.val < n.val → ¬ (Int32.ofNat k.val) < 0 ∧ Int32.ofNat k.val < Int32.ofNat n.val := by decide +kernel
  exact t ⟨n, by omega⟩ ⟨k, by omega⟩ hk
def own_sh (x : Int32) : Int32 := (x.toUInt32 >>> ((6 : Int32) &&& 31).toUInt32).toInt32
def own_bit (x : Int32) : Int64 := (1 : Int64) <<< (x &&& 0x3f).toInt64
def own_pl : List Int32 → List Int32
  | [] => []
  | [a] => [own_sh a]
  | [a, b] => if own_sh b = own_sh a then [own_sh a] else [own_sh a, own_sh b]
  | a :: b :: c :: _ => if own_sh b = own_sh a then (if own_sh c = own_sh b then [own_sh a] else [own_sh a, own_sh c]) else (if own_sh c = own_sh b then [own_sh a, own_sh b] else [own_sh a, own_sh b, own_sh c])
def own_wl : List Int32 → List Int64
  | [] => []
  | [a] => [0 ||| own_bit a]
  | [a, b] => if own_sh b = own_sh a then [(0 ||| own_bit a) ||| own_bit b] else [0 ||| own_bit a, 0 ||| own_bit b]
  | a :: b :: c :: _ => if own_sh b = own_sh a then (if own_sh c = own_sh b then [((0 ||| own_bit a) ||| own_bit b) ||| own_bit c] else [(0 ||| own_bit a) ||| own_bit b, 0 ||| own_bit c]) else (if own_sh c = own_sh b then [0 ||| own_bit a, (0 ||| own_bit b) ||| own_bit c] else [0 ||| own_bit a, 0 ||| own_bit b, 0 ||| own_bit c])
def own_found (pl : List Int32) (key r : Int32) : Prop := (∃ i, i < pl.length ∧ r = Int32.ofNat i ∧ pl[i]? = some key) ∨ (r < 0 ∧ key ∉ pl)
def own_rem : List Int32 → List Int64 → Int32 → List Int64
  | p :: ps, w :: ws, m => (if p = own_sh m then w &&& (own_bit m ^^^ (-1)) else w) :: own_rem ps ws m
  | _, ws, _ => ws
theorem own_cons {α : Type} {us : List α} : (1 ≤ us.length → ∃ u0 ur, us = u0 :: ur) ∧ (2 ≤ us.length → ∃ u0 u1 ur, us = u0 :: u1 :: ur) ∧ (3 ≤ us.length → ∃ u0 u1 u2 ur, us = u0 :: u1 :: u2 :: ur) := by
  refine ⟨?_, ?_, ?_⟩
  · rcases us with _ | ⟨a, us⟩ <;> intro h
    · simp at h
    · exact ⟨_, _, rfl⟩
  · rcases us with _ | ⟨a, _ | ⟨b, us⟩⟩ <;> intro h
    · simp at h
    · simp at h
    · exact ⟨_, _, _, rfl⟩
  · rcases us with _ | ⟨a, _ | ⟨b, _ | ⟨c, us⟩⟩⟩ <;> intro h
    · simp at h
    · simp at h
    · simp at h
    · exact ⟨_, _, _, _, rfl⟩
theorem own_lenlt {M : Int32} {n k : Nat} (hM : M = Int32.ofNat n) (hn : n ≤ 3) (hk : k ≤ 3) : M < Int32.ofNat k ↔ n < k := by
  subst hM
  have t : ∀ n : Fin 4, ∀ k : Fin 4, (Int32.ofNat n.val < Int32.ofNat k.val ↔ n.val < k.val) := by decide +kernel
  exact t ⟨n, by omega⟩ ⟨k, by omega⟩
theorem own_fits_arr {t : FieldType} {a : Addr} : fits (.array t) (.ref a) = true := rfl
theorem own_eq3 {a b : Int32} (h1 : ¬ a < b) (h2 : ¬ b < a) : a = b := by
  rw [Int32.lt_iff_toInt_lt] at h1 h2
  exact Int32.toInt_inj.mp (by omega)
theorem own_p2 {a b : Int32} (h : [a, b].Pairwise (· < ·)) : a < b := by simpa using h
theorem own_p3 {a b c : Int32} (h : [a, b, c].Pairwise (· < ·)) : a < b ∧ b < c := by
  simp only [List.pairwise_cons, List.mem_cons, List.not_mem_nil, or_false] at h
  exact ⟨h.1 b (Or.inl rfl), h.2.1 c rfl⟩
theorem own_small : ∀ n : Fin 4, ¬ (Int32.ofNat n.val) < 0 := by decide +kernel
theorem own_lle {pl ur : List Int32} (hm : (pl ++ ur).length ≤ 3) : pl.length ≤ 3 := by simp at hm; omega
theorem own_nneg {cn : Int32} {n : Nat} (hc : cn = Int32.ofNat n) (h : n ≤ 3) : ¬ cn < (0 : Int32) := by subst hc; exact own_small ⟨n, by omega⟩
theorem own_nlt {M cn : Int32} {pl ur : List Int32} (hM : M = Int32.ofNat (pl ++ ur).length) (hc : cn = Int32.ofNat pl.length) (hm : (pl ++ ur).length ≤ 3) : ¬ M < cn := by
  subst hc
  rw [own_lenlt hM hm (own_lle hm)]; simp
theorem own_len0 {α : Type} {l : List α} (h : l.length = 0) : l = [] := List.length_eq_zero_iff.mp h
theorem own_len1 {α : Type} {l : List α} (h : l.length = 1) : ∃ a, l = [a] := List.length_eq_one_iff.mp h
theorem own_len2 {α : Type} {l : List α} (h : l.length = 2) : ∃ a b, l = [a, b] := by
  match l, h with
  | [a, b], _ => exact ⟨a, b, rfl⟩
theorem own_len3 {α : Type} {l : List α} (h : l.length = 3) : ∃ a b c, l = [a, b, c] := by
  match l, h with
  | [a, b, c], _ => exact ⟨a, b, c, rfl⟩
theorem own_hM2 {M : Int32} {pl ur : List Int32} {wv vr : List Int64} (hM : M = Int32.ofNat (pl ++ ur).length) (hl : wv.length = pl.length) (hv : vr.length = ur.length) : M = Int32.ofNat (wv ++ vr).length := by
  rw [hM, List.length_append, List.length_append, hl, hv]
theorem own_hm2 {pl ur : List Int32} {wv vr : List Int64} (hm : (pl ++ ur).length ≤ 3) (hl : wv.length = pl.length) (hv : vr.length = ur.length) : (wv ++ vr).length ≤ 3 := by
  rw [List.length_append] at hm ⊢; omega
theorem own_rem_none {m : Int32} : ∀ {pl : List Int32} {ws : List Int64}, own_sh m ∉ pl → own_rem pl ws m = ws
  | [], ws, _ => by cases ws <;> rfl
  | p :: ps, [], _ => rfl
  | p :: ps, w :: ws, h => by
    rw [own_rem, if_neg (fun e => h (by rw [e]; exact List.mem_cons_self)), own_rem_none (fun z => h (List.mem_cons_of_mem _ z))]
def own_emp : List Int64 → Int32
  | [] => 1
  | y :: ys => if y = 0 then own_emp ys else 0
theorem mvMN {Z s : State} {a0 args : Array Value} {own host : String} {index : Nat} {y : MethodName} (hZ : Z.Warmed39 s.vm) (w : (Cond.methodLinkNest own index y host).before a0 Z = true) : (Cond.methodLinkNest own index y host).before args s = true := (Cond.methodLinkNest_wide hZ w :)
def own_lo (x : Int32) : Int32 := x &&& 0x3f
def own_w (g : List Int32) : Int64 := g.foldl (fun w x => w ||| own_bit x) 0
def own_Ok (p : Int32) (g : List Int32) : Prop := (∀ x ∈ g, own_sh x = p) ∧ g.Pairwise (fun a b => own_lo a < own_lo b)
def own_Rep : List Int32 → List Int64 → List (List Int32) → Prop
  | [], [], [] => True
  | p :: ps, w :: ws, g :: gs => w = own_w g ∧ own_Ok p g ∧ own_Rep ps ws gs
  | _, _, _ => False
theorem own_rep0 {gs : List (List Int32)} (h : own_Rep [] [] gs) : gs = [] := by
  match gs, h with
  | [], _ => rfl
theorem own_rep1 {x : Int32} {y : Int64} {gs : List (List Int32)} (h : own_Rep [x] [y] gs) : ∃ g0, gs = [g0] ∧ y = own_w g0 ∧ own_Ok x g0 := by
  match gs, h with
  | [g0], ⟨h1, h2, _⟩ => exact ⟨g0, rfl, h1, h2⟩
theorem own_rep2 {x x1 : Int32} {y y1 : Int64} {gs : List (List Int32)} (h : own_Rep [x, x1] [y, y1] gs) : ∃ g0 g1, gs = [g0, g1] ∧ y = own_w g0 ∧ own_Ok x g0 ∧ y1 = own_w g1 ∧ own_Ok x1 g1 := by
  match gs, h with
  | [g0, g1], ⟨h1, h2, h3, h4, _⟩ => exact ⟨g0, g1, rfl, h1, h2, h3, h4⟩
theorem own_rep3 {x x1 x2 : Int32} {y y1 y2 : Int64} {gs : List (List Int32)} (h : own_Rep [x, x1, x2] [y, y1, y2] gs) : ∃ g0 g1 g2, gs = [g0, g1, g2] ∧ y = own_w g0 ∧ own_Ok x g0 ∧ y1 = own_w g1 ∧ own_Ok x1 g1 ∧ y2 = own_w g2 ∧ own_Ok x2 g2 := by
  match gs, h with
  | [g0, g1, g2], ⟨h1, h2, h3, h4, h5, h6, _⟩ => exact ⟨g0, g1, g2, rfl, h1, h2, h3, h4, h5, h6⟩
theorem own_bc0 {y : Int64} (h : y = 0) : JP.Long_bitCount_J.val y = 0 := by subst h; decide +kernel
def own_bcN (n : Nat) : Nat :=
  let a := (2 ^ 64 - ((n >>> 1) &&& 6148914691236517205) + n) % 2 ^ 64
  let b := ((a &&& 3689348814741910323) + ((a >>> 2) &&& 3689348814741910323)) % 2 ^ 64
  let c := ((b + (b >>> 4)) % 2 ^ 64) &&& 1085102592571150095
  let d := (c + (c >>> 8)) % 2 ^ 64
  let e := (d + (d >>> 16)) % 2 ^ 64
  let f := (e + (e >>> 32)) % 2 ^ 64
  f % 2 ^ 32 &&& 127
theorem own_u1 (x : Int64) : (XT.ushrL x 1).toBitVec = x.toBitVec >>> 1 := rfl
theorem own_u2 (x : Int64) : (XT.ushrL x 2).toBitVec = x.toBitVec >>> 2 := rfl
theorem own_u4 (x : Int64) : (XT.ushrL x 4).toBitVec = x.toBitVec >>> 4 := rfl
theorem own_u8 (x : Int64) : (XT.ushrL x 8).toBitVec = x.toBitVec >>> 8 := rfl
theorem own_u16 (x : Int64) : (XT.ushrL x 16).toBitVec = x.toBitVec >>> 16 := rfl
theorem own_u32 (x : Int64) : (XT.ushrL x 32).toBitVec = x.toBitVec >>> 32 := rfl
theorem own_ci (z : Int64) : (Int64.toInt32 z).toBitVec.toNat = z.toBitVec.toNat % 2 ^ 32 := by
  rw [Int64.toBitVec_toInt32, BitVec.signExtend_eq_setWidth_of_le _ (by decide), BitVec.toNat_setWidth]
theorem own_bcv (y : Int64) : (JP.Long_bitCount_J.val y).toBitVec.toNat = own_bcN y.toBitVec.toNat := by
  have k1 : (6148914691236517205 : Int64).toBitVec.toNat = 6148914691236517205 := rfl
  have k2 : (3689348814741910323 : Int64).toBitVec.toNat = 3689348814741910323 := rfl
  have k3 : (1085102592571150095 : Int64).toBitVec.toNat = 1085102592571150095 := rfl
  have k4 : (127 : Int32).toBitVec.toNat = 127 := rfl
  unfold JP.Long_bitCount_J.val
  simp only [Int32.toBitVec_and, BitVec.toNat_and, own_ci, Int64.toBitVec_add, BitVec.toNat_add, Int64.toBitVec_and, Int64.toBitVec_sub, BitVec.toNat_sub, own_u1, own_u2, own_u4, own_u8, own_u16, own_u32, BitVec.toNat_ushiftRight, k1, k2, k3, k4, own_bcN]
theorem own_low {w : Int64} {i q : Nat} (h : w.toBitVec.toNat = 2 ^ i * (2 * q + 1)) : JP.Long_numberOfTrailingZeros_J.val w = Int32.ofNat i ∧ (w &&& (w - 1)).toBitVec.toNat = 2 ^ i * (2 * q) ∧ ¬ w = 0 := by
  have hp := Nat.two_pow_pos i
  have hL : JM.Low w.toBitVec.toNat i := by
    constructor
    · rw [h, Nat.mul_mod_right]
    · rw [h, Nat.mul_div_cancel_left _ hp]; omega
  have h1 : 1 ≤ w.toBitVec.toNat := by rw [h]; exact Nat.mul_pos hp (by omega)
  refine ⟨JM.ntz64 hL, ?_, ?_⟩
  · have e1 : (w - 1).toBitVec.toNat = w.toBitVec.toNat - 1 := by
      rw [Int64.toBitVec_sub, BitVec.toNat_sub]
      have : (1 : Int64).toBitVec.toNat = 1 := rfl
      rw [this]
      have := w.toBitVec.isLt
      omega
    rw [Int64.toBitVec_and, BitVec.toNat_and, e1, h]
    have e2 : 2 ^ i * (2 * q + 1) - 1 = 2 ^ i * (2 * q) + (2 ^ i - 1) := by rw [Nat.mul_add]; omega
    rw [e2]
    apply Nat.eq_of_testBit_eq
    intro j
    have a1 := Nat.testBit_two_pow_mul_add (2 * q + 1) (i := i) (b := 0) hp j
    have a2 := Nat.testBit_two_pow_mul_add (2 * q) (i := i) (b := 2 ^ i - 1) (by omega) j
    have a3 := Nat.testBit_two_pow_mul_add (2 * q) (i := i) (b := 0) hp j
    rw [Nat.add_zero] at a1 a3
    rw [Nat.testBit_and, a1, a2, a3]
    by_cases u : j < i
    · simp [u]
    · rw [if_neg u, if_neg u]
      cases hd : j - i with
      | zero => simp
      | succ d =>
        rw [Nat.testBit_succ, Nat.testBit_succ, show (2 * q + 1) / 2 = q from by omega, show 2 * q / 2 = q from by omega]
        simp
        intro _; omega
  · intro e
    rw [e] at h1
    exact absurd h1 (by decide)
theorem own_s2 {i j : Nat} (h : i < j) : 2 ^ i ||| 2 ^ j = 2 ^ i + 2 ^ j := by
  rw [Nat.or_comm, Nat.add_comm]
  have := Nat.two_pow_add_eq_or_of_lt (i := j) (b := 2 ^ i) (Nat.pow_lt_pow_right (by decide) h) 1
  rw [Nat.mul_one] at this; exact this.symm
theorem own_s3 {i j k : Nat} (h : i < j) (h' : j < k) : 2 ^ i + 2 ^ j ||| 2 ^ k = 2 ^ i + 2 ^ j + 2 ^ k := by
  rw [Nat.or_comm, Nat.add_comm _ (2 ^ k)]
  have a : 2 ^ i < 2 ^ j := Nat.pow_lt_pow_right (by decide) h
  have b : 2 ^ (j + 1) ≤ 2 ^ k := Nat.pow_le_pow_right (by decide) h'
  rw [Nat.pow_succ] at b
  have := Nat.two_pow_add_eq_or_of_lt (i := k) (b := 2 ^ i + 2 ^ j) (by omega) 1
  rw [Nat.mul_one] at this; exact this.symm
def own_B (i : Fin 64) : Int64 := (1 : Int64) <<< (Int64.ofNat i.1)
theorem own_Bn : ∀ i : Fin 64, (own_B i).toBitVec.toNat = 2 ^ i.1 := by decide +kernel
set_option maxRecDepth 100000 in
theorem own_bN1 : ∀ i : Fin 64, own_bcN (2 ^ i.1) = 1 := by decide +kernel
set_option maxRecDepth 100000 in
theorem own_bN2 : ∀ i : Fin 64, ∀ j : Fin 64, i < j → own_bcN (2 ^ i.1 + 2 ^ j.1) = 2 := by decide +kernel
set_option maxRecDepth 100000 in
theorem own_bN3 : ∀ i : Fin 64, ∀ j : Fin 64, i < j → ∀ k : Fin 64, j < k → own_bcN (2 ^ i.1 + 2 ^ j.1 + 2 ^ k.1) = 3 := by decide +kernel
theorem own_n1 (i : Fin 64) : ((0 : Int64) ||| own_B i).toBitVec.toNat = 2 ^ i.1 := by
  rw [Int64.toBitVec_or, BitVec.toNat_or, own_Bn, show (0 : Int64).toBitVec.toNat = 0 from rfl, Nat.zero_or]
theorem own_n2 {i j : Fin 64} (h : i < j) : ((0 : Int64) ||| own_B i ||| own_B j).toBitVec.toNat = 2 ^ i.1 + 2 ^ j.1 := by
  rw [Int64.toBitVec_or, BitVec.toNat_or, own_n1, own_Bn, own_s2 h]
theorem own_n3 {i j k : Fin 64} (h : i < j) (h' : j < k) : ((0 : Int64) ||| own_B i ||| own_B j ||| own_B k).toBitVec.toNat = 2 ^ i.1 + 2 ^ j.1 + 2 ^ k.1 := by
  rw [Int64.toBitVec_or, BitVec.toNat_or, own_n2 h, own_Bn, own_s3 h h']
theorem own_pw {i j : Nat} (h : i < j) : 2 ^ j = 2 ^ i * (2 * 2 ^ (j - i - 1)) := by
  rw [← Nat.pow_succ', ← Nat.pow_add]; congr 1; omega
def own_fact (w w' : Int64) (i : Fin 64) (n : Int32) : Prop := JP.Long_bitCount_J.val w = n ∧ ¬ w = 0 ∧ JP.Long_numberOfTrailingZeros_J.val w = Int32.ofNat i.1 ∧ w &&& (w - 1) = w'
theorem own_mkf {w w' : Int64} {i : Fin 64} {n : Int32} {q : Nat} (hb : own_bcN w.toBitVec.toNat = n.toBitVec.toNat) (h : w.toBitVec.toNat = 2 ^ i.1 * (2 * q + 1)) (h' : w'.toBitVec.toNat = 2 ^ i.1 * (2 * q)) : own_fact w w' i n := by
  obtain ⟨a, b, c⟩ := own_low h
  refine ⟨Int32.toBitVec_inj.mp (BitVec.eq_of_toNat_eq ?_), c, a, Int64.toBitVec_inj.mp (BitVec.eq_of_toNat_eq ?_)⟩
  · rw [own_bcv, hb]
  · rw [b, h']
theorem own_k1 (i : Fin 64) : own_fact (0 ||| own_B i) 0 i 1 := by
  refine own_mkf (q := 0) ?_ ?_ ?_
  · rw [own_n1, own_bN1]; rfl
  · rw [own_n1]; omega
  · simp
theorem own_k2 (i j : Fin 64) (h : i < j) : own_fact (0 ||| own_B i ||| own_B j) (0 ||| own_B j) i 2 := by
  refine own_mkf (q := 2 ^ (j.1 - i.1 - 1)) ?_ ?_ ?_
  · rw [own_n2 h, own_bN2 i j h]; rfl
  · rw [own_n2 h, own_pw h, Nat.mul_add]; omega
  · rw [own_n1]; exact own_pw h
theorem own_k3 (i j : Fin 64) (h : i < j) (k : Fin 64) (h' : j < k) : own_fact (0 ||| own_B i ||| own_B j ||| own_B k) (0 ||| own_B j ||| own_B k) i 3 := by
  have h2 : i < k := Nat.lt_trans h h'
  refine own_mkf (q := 2 ^ (j.1 - i.1 - 1) + 2 ^ (k.1 - i.1 - 1)) ?_ ?_ ?_
  · rw [own_n3 h h', own_bN3 i j h k h']; rfl
  · rw [own_n3 h h', own_pw h, own_pw h2, Nat.mul_add, Nat.mul_add, Nat.mul_add]; omega
  · rw [own_n2 h', Nat.mul_add, Nat.mul_add, ← own_pw h, ← own_pw h2]
theorem own_t64 : ∀ i : Fin 64, (Int32.ofNat i.1).toInt64 = Int64.ofNat i.1 := by decide +kernel
theorem own_fin (x : Int32) : ∃ i : Fin 64, own_lo x = Int32.ofNat i.1 ∧ own_bit x = own_B i := by
  have hb : (x &&& 0x3f).toBitVec.toNat < 64 := by
    rw [Int32.toBitVec_and, BitVec.toNat_and]
    exact Nat.lt_of_le_of_lt Nat.and_le_right (by decide)
  have e : x &&& 0x3f = Int32.ofNat (x &&& 0x3f).toBitVec.toNat := by
    apply Int32.toBitVec_inj.mp
    simp
  refine ⟨⟨_, hb⟩, e, ?_⟩
  unfold own_bit own_B
  rw [← own_t64 ⟨_, hb⟩]
  show (1 : Int64) <<< (x &&& 0x3f).toInt64 = (1 : Int64) <<< (Int32.ofNat (x &&& 0x3f).toBitVec.toNat).toInt64
  rw [← e]
theorem own_flt : ∀ i : Fin 64, ∀ j : Fin 64, Int32.ofNat i.1 < Int32.ofNat j.1 → i < j := by decide +kernel
theorem own_join (a : Int32) : (own_sh a <<< ((6 : Int32) &&& 31)) ||| own_lo a = a := by
  apply Int32.toBitVec_inj.mp
  have t : ∀ i : Fin 32, (63#32 : BitVec 32).getLsbD i.1 = decide (i.1 < 6) := by decide
  have e1 : (own_sh a <<< ((6 : Int32) &&& 31)).toBitVec = (a.toBitVec >>> 6) <<< 6 := rfl
  have e2 : (own_lo a).toBitVec = a.toBitVec &&& 63#32 := rfl
  rw [Int32.toBitVec_or, e1, e2]
  apply BitVec.eq_of_getLsbD_eq
  intro i hi
  simp only [BitVec.getLsbD_or, BitVec.getLsbD_shiftLeft, BitVec.getLsbD_ushiftRight, BitVec.getLsbD_and]
  rw [t ⟨i, hi⟩]
  by_cases q : i < 6
  · simp [q]
  · simp [q, hi, show 6 + (i - 6) = i by omega]
theorem own_f1 {p a : Int32} {y : Int64} (hw : y = own_w [a]) (ho : own_Ok p [a]) : JP.Long_bitCount_J.val y = 1 ∧ ¬ y = 0 ∧ JP.Long_numberOfTrailingZeros_J.val y = own_lo a ∧ (p <<< ((6 : Int32) &&& 31)) ||| own_lo a = a ∧ ∃ y' : Int64, y' = y &&& (y - (1 : Int64)) ∧ y' = own_w [] ∧ own_Ok p [] := by
  obtain ⟨i0, l0, b0⟩ := own_fin a
  have hp := ho.2
  have hs := ho.1 a (by simp)
  have hy : y = 0 ||| own_B i0 := by rw [hw, ← b0]; rfl
  rw [hy]
  obtain ⟨r1, r2, r3, r4⟩ := own_k1 i0
  refine ⟨r1, r2, by rw [l0]; exact r3, by rw [← hs]; exact own_join a, _, rfl, ?_, fun x hx => ho.1 x (List.mem_cons_of_mem _ hx), (List.pairwise_cons.mp ho.2).2⟩
  rw [r4]; rfl
theorem own_f2 {p a b : Int32} {y : Int64} (hw : y = own_w [a, b]) (ho : own_Ok p [a, b]) : JP.Long_bitCount_J.val y = 2 ∧ ¬ y = 0 ∧ JP.Long_numberOfTrailingZeros_J.val y = own_lo a ∧ (p <<< ((6 : Int32) &&& 31)) ||| own_lo a = a ∧ ∃ y' : Int64, y' = y &&& (y - (1 : Int64)) ∧ y' = own_w [b] ∧ own_Ok p [b] := by
  obtain ⟨i0, l0, b0⟩ := own_fin a
  obtain ⟨i1, l1, b1⟩ := own_fin b
  have hp := ho.2
  have hs := ho.1 a (by simp)
  simp only [List.pairwise_cons, List.mem_cons, List.not_mem_nil, or_false] at hp
  have o0 := own_flt i0 i1 (by rw [← l0, ← l1]; exact hp.1 b rfl)
  have hy : y = 0 ||| own_B i0 ||| own_B i1 := by rw [hw, ← b0, ← b1]; rfl
  rw [hy]
  obtain ⟨r1, r2, r3, r4⟩ := own_k2 i0 i1 o0
  refine ⟨r1, r2, by rw [l0]; exact r3, by rw [← hs]; exact own_join a, _, rfl, ?_, fun x hx => ho.1 x (List.mem_cons_of_mem _ hx), (List.pairwise_cons.mp ho.2).2⟩
  rw [r4, ← b1]; rfl
theorem own_f3 {p a b c : Int32} {y : Int64} (hw : y = own_w [a, b, c]) (ho : own_Ok p [a, b, c]) : JP.Long_bitCount_J.val y = 3 ∧ ¬ y = 0 ∧ JP.Long_numberOfTrailingZeros_J.val y = own_lo a ∧ (p <<< ((6 : Int32) &&& 31)) ||| own_lo a = a ∧ ∃ y' : Int64, y' = y &&& (y - (1 : Int64)) ∧ y' = own_w [b, c] ∧ own_Ok p [b, c] := by
  obtain ⟨i0, l0, b0⟩ := own_fin a
  obtain ⟨i1, l1, b1⟩ := own_fin b
  obtain ⟨i2, l2, b2⟩ := own_fin c
  have hp := ho.2
  have hs := ho.1 a (by simp)
  simp only [List.pairwise_cons, List.mem_cons, List.not_mem_nil, or_false] at hp
  have o0 := own_flt i0 i1 (by rw [← l0, ← l1]; exact hp.1 b (Or.inl rfl))
  have o1 := own_flt i1 i2 (by rw [← l1, ← l2]; exact hp.2.1 c rfl)
  have hy : y = 0 ||| own_B i0 ||| own_B i1 ||| own_B i2 := by rw [hw, ← b0, ← b1, ← b2]; rfl
  rw [hy]
  obtain ⟨r1, r2, r3, r4⟩ := own_k3 i0 i1 o0 i2 o1
  refine ⟨r1, r2, by rw [l0]; exact r3, by rw [← hs]; exact own_join a, _, rfl, ?_, fun x hx => ho.1 x (List.mem_cons_of_mem _ hx), (List.pairwise_cons.mp ho.2).2⟩
  rw [r4, ← b1, ← b2]; rfl
theorem own_padl (out : List Int32) : ∀ i, ((out ++ [0]).map Value.int).getD i (.int (0 : Int32)) = (out.map Value.int).getD i (.int (0 : Int32)) := by
  have e : (out ++ [0]).map Value.int = out.map Value.int ++ List.replicate 1 (.int (0 : Int32)) := by simp
  rw [e]; exact pad_rep _ _ 1
theorem own_setl (out : List Int32) (z : Int32) : ((out ++ [0]).map Value.int).set out.length (.int z) = (out ++ [z]).map Value.int := by simp
theorem own_ltl (out : List Int32) : out.length < ((out ++ [0]).map Value.int).length := by simp
theorem own_s4 : ∀ n : Fin 4, ∀ k : Fin 4, k < n → (¬ (Int32.ofNat k.val) < 0 ∧ Int32.ofNat k.val < Int32.ofNat n.val) ∧ (Int32.ofNat k.val).toNatClampNeg = k.val := by decide +kernel
theorem own_inb2 {N nx : Int32} {tot : Nat} {out : List Int32} (hN : N = Int32.ofNat tot) (ht : tot ≤ 3) (hnx : nx = Int32.ofNat out.length) (hlt : out.length < tot) : ¬ nx < 0 ∧ nx < N := by
  subst hN hnx; exact (own_s4 ⟨tot, by omega⟩ ⟨out.length, by omega⟩ hlt).1
theorem own_nxn {nx : Int32} {tot : Nat} {out : List Int32} (hnx : nx = Int32.ofNat out.length) (ht : tot ≤ 3) (hlt : out.length < tot) : nx.toNatClampNeg = out.length := by
  subst hnx; exact (own_s4 ⟨tot, by omega⟩ ⟨out.length, by omega⟩ hlt).2
theorem own_nxs {nx x : Int32} {out : List Int32} (h : nx = Int32.ofNat out.length) : nx + (1 : Int32) = Int32.ofNat (out ++ [x]).length := by
  subst h; rw [List.length_append, Int32.ofNat_add]; rfl
theorem own_c4 : ∀ n : Fin 4, (Int32.ofNat n.val).toNatClampNeg ≤ 3 := by decide +kernel
theorem own_capN {N : Int32} {t : Nat} (h : N = Int32.ofNat t) (ht : t ≤ 3) : N.toNatClampNeg ≤ 3 := by subst h; exact own_c4 ⟨t, by omega⟩
theorem own_sum1 (a : Nat) : (0 : Int32) + Int32.ofNat a = Int32.ofNat a := by simp
theorem own_sum2 (a b : Nat) : (0 : Int32) + Int32.ofNat a + Int32.ofNat b = Int32.ofNat (a + b) := by simp [Int32.ofNat_add]
theorem own_sum3 (a b c : Nat) : (0 : Int32) + Int32.ofNat a + Int32.ofNat b + Int32.ofNat c = Int32.ofNat (a + b + c) := by simp [Int32.ofNat_add]
theorem own_fb {p : Int32} {y : Int64} {g : List Int32} (hw : y = own_w g) (ho : own_Ok p g) (h : g.length ≤ 3) : JP.Long_bitCount_J.val y = Int32.ofNat g.length := by
  match g, hw, ho, h with
  | [], hw, _, _ => exact own_bc0 hw
  | [a], hw, ho, _ => exact (own_f1 hw ho).1
  | [a, b], hw, ho, _ => exact (own_f2 hw ho).1
  | [a, b, c], hw, ho, _ => exact (own_f3 hw ho).1
theorem own_clr : ∀ i : Fin 64, ∀ j : Fin 64, own_B i &&& (own_B j ^^^ (-1)) = if i = j then 0 else own_B i := by decide +kernel
theorem own_dist (a b c : Int64) : (a ||| b) &&& c = (a &&& c) ||| (b &&& c) := by
  apply Int64.toBitVec_inj.mp
  simp only [Int64.toBitVec_and, Int64.toBitVec_or]
  apply BitVec.eq_of_getLsbD_eq
  intro i hi
  simp only [BitVec.getLsbD_and, BitVec.getLsbD_or]
  cases a.toBitVec.getLsbD i <;> cases b.toBitVec.getLsbD i <;> cases c.toBitVec.getLsbD i <;> rfl
theorem own_bitclr {x m : Int32} (hs : own_sh x = own_sh m) : own_bit x &&& (own_bit m ^^^ (-1)) = if x = m then 0 else own_bit x := by
  obtain ⟨i, l0, b0⟩ := own_fin x
  obtain ⟨j, l1, b1⟩ := own_fin m
  have t : ∀ i : Fin 64, ∀ j : Fin 64, Int32.ofNat i.1 = Int32.ofNat j.1 → i = j := by decide +kernel
  rw [b0, b1, own_clr]
  by_cases e : i = j
  · have hx : x = m := by rw [← own_join x, ← own_join m, hs, l0, l1, e]
    rw [if_pos e, if_pos hx]
  · have hx : ¬ x = m := fun q => e (t i j (by rw [← l0, ← l1, q]))
    rw [if_neg e, if_neg hx]
theorem own_wrem {m : Int32} : ∀ (g : List Int32) (acc : Int64), (∀ x ∈ g, own_sh x = own_sh m) → (g.foldl (fun w x => w ||| own_bit x) acc) &&& (own_bit m ^^^ (-1)) = (g.filter (fun x => decide (¬ x = m))).foldl (fun w x => w ||| own_bit x) (acc &&& (own_bit m ^^^ (-1)))
  | [], acc, _ => rfl
  | x :: g, acc, h => by
    have hx := own_bitclr (h x List.mem_cons_self)
    rw [List.foldl_cons, own_wrem g _ (fun y hy => h y (List.mem_cons_of_mem _ hy)), own_dist, hx]
    by_cases e : x = m
    · have z : ∀ q : Int64, q ||| 0 = q := fun q => by simp
      rw [if_pos e, z, List.filter_cons_of_neg (by simp [e])]
    · rw [if_neg e, List.filter_cons_of_pos (by simp [e]), List.foldl_cons]
theorem own_w0 (m : Int32) : (0 : Int64) &&& (own_bit m ^^^ (-1)) = 0 := by simp
theorem own_rem_rep {m : Int32} : ∀ {pl : List Int32} {wv : List Int64} {gs : List (List Int32)}, own_Rep pl wv gs → own_Rep pl (own_rem pl wv m) (gs.map (List.filter (fun x => decide (¬ x = m))))
  | [], [], [], _ => trivial
  | p :: ps, w :: ws, g :: gs, ⟨h1, h2, h3⟩ => by
    refine ⟨?_, ⟨fun x hx => h2.1 x (List.mem_filter.mp hx).1, h2.2.filter _⟩, own_rem_rep h3⟩
    by_cases e : p = own_sh m
    · rw [if_pos e, h1]
      have := own_wrem (m := m) g 0 (fun x hx => (h2.1 x hx).trans e)
      rw [own_w0] at this
      exact this
    · rw [if_neg e, h1, List.filter_eq_self.mpr]
      intro x hx
      simp only [decide_eq_true_eq]
      exact fun q => e (by rw [← h2.1 x hx, q])
theorem own_rem_len {m : Int32} : ∀ {pl : List Int32} {wv : List Int64}, (own_rem pl wv m).length = wv.length
  | [], wv => by cases wv <;> rfl
  | p :: ps, [] => rfl
  | p :: ps, w :: ws => by rw [own_rem, List.length_cons, List.length_cons, own_rem_len]
theorem own_fl {P : Int32 → Bool} : ∀ gs : List (List Int32), (gs.map (List.filter P)).flatten = gs.flatten.filter P
  | [] => rfl
  | g :: gs => by rw [List.map_cons, List.flatten_cons, List.flatten_cons, List.filter_append, own_fl gs]
theorem own_capf {P : Int32 → Bool} {gs : List (List Int32)} (h : ∀ g ∈ gs, g.length + gs.length ≤ 4) : ∀ g ∈ gs.map (List.filter P), g.length + (gs.map (List.filter P)).length ≤ 4 := by
  intro g hg
  obtain ⟨g0, h0, rfl⟩ := List.mem_map.mp hg
  have := h g0 h0
  have := List.length_filter_le P g0
  rw [List.length_map]; omega
theorem own_empz : ∀ {pl : List Int32} {wv : List Int64} {gs : List (List Int32)}, own_Rep pl wv gs → (∀ g ∈ gs, g.length ≤ 3) → own_emp wv = if gs.flatten = [] then 1 else 0
  | [], [], [], _, _ => rfl
  | p :: ps, w :: ws, g :: gs, ⟨h1, h2, h3⟩, hc => by
    have hg := hc g List.mem_cons_self
    have ih := own_empz h3 (fun y hy => hc y (List.mem_cons_of_mem _ hy))
    rw [own_emp]
    match g, h1, h2, hg with
    | [], h1, _, _ => rw [if_pos (show w = 0 from h1), ih]; rfl
    | [a], h1, h2, _ => rw [if_neg (own_f1 h1 h2).2.1, if_neg (by simp)]
    | [a, b], h1, h2, _ => rw [if_neg (own_f2 h1 h2).2.1, if_neg (by simp)]
    | [a, b, c], h1, h2, _ => rw [if_neg (own_f3 h1 h2).2.1, if_neg (by simp)]
theorem own_nz {pl : List Int32} {wv : List Int64} {gs : List (List Int32)} : own_Rep pl wv gs → (∀ g ∈ gs, g.length ≤ 3 ∧ ¬ g = []) → ∀ y ∈ wv, ¬ y = (0 : Int64) := by
  induction pl generalizing wv gs with
  | nil =>
    intro h _
    match wv, gs, h with
    | [], [], _ => exact fun y hy => nomatch hy
  | cons p ps ih =>
    intro h hc
    match wv, gs, h with
    | w :: ws, g :: gs, ⟨h1, h2, h3⟩ =>
      intro y hy
      rcases List.mem_cons.mp hy with rfl | hy
      · have hg := hc g List.mem_cons_self
        match g, h1, h2, hg with
        | [], _, _, hg => exact absurd rfl hg.2
        | [a], h1, h2, _ => exact (own_f1 h1 h2).2.1
        | [a, b], h1, h2, _ => exact (own_f2 h1 h2).2.1
        | [a, b, c], h1, h2, _ => exact (own_f3 h1 h2).2.1
      · exact ih h3 (fun z hz => hc z (List.mem_cons_of_mem _ hz)) y hy
theorem own_pos {x : Int32} (h : 0 ≤ x) : x.toInt = (x.toBitVec.toNat : Int) ∧ x.toBitVec.toNat < 2 ^ 31 := by
  rw [Int32.le_iff_toInt_le] at h
  have e0 : (0 : Int32).toInt = 0 := rfl
  rw [e0] at h
  have e : x.toInt = x.toBitVec.toInt := rfl
  rw [e, BitVec.toInt_eq_toNat_cond] at h ⊢
  have := x.toBitVec.isLt
  split at h
  · rename_i q; rw [if_pos q]; exact ⟨rfl, by omega⟩
  · omega
theorem own_shn (x : Int32) : (own_sh x).toBitVec.toNat = x.toBitVec.toNat / 64 := by
  have e : (own_sh x).toBitVec = x.toBitVec >>> 6 := rfl
  rw [e, BitVec.toNat_ushiftRight, Nat.shiftRight_eq_div_pow]
theorem own_lon (x : Int32) : (own_lo x).toBitVec.toNat = x.toBitVec.toNat % 64 := by
  have e : (own_lo x).toBitVec = x.toBitVec &&& 63#32 := rfl
  rw [e, BitVec.toNat_and]
  exact Nat.and_two_pow_sub_one_eq_mod _ 6
theorem own_small2 {x : Int32} (h : x.toBitVec.toNat < 2 ^ 31) : x.toInt = (x.toBitVec.toNat : Int) := by
  have e : x.toInt = x.toBitVec.toInt := rfl
  rw [e, BitVec.toInt_eq_toNat_cond, if_pos (by omega)]
theorem own_shlo {a b : Int32} (h0 : 0 ≤ a) (h : a < b) : (own_sh b = own_sh a → own_lo a < own_lo b) ∧ (¬ own_sh b = own_sh a → own_sh a < own_sh b) := by
  have hb : 0 ≤ b := by rw [Int32.le_iff_toInt_le] at *; rw [Int32.lt_iff_toInt_lt] at h; omega
  obtain ⟨a1, a2⟩ := own_pos h0
  obtain ⟨b1, b2⟩ := own_pos hb
  rw [Int32.lt_iff_toInt_lt, a1, b1] at h
  have sa := own_shn a; have sb := own_shn b; have la := own_lon a; have lb := own_lon b
  constructor
  · intro e
    rw [Int32.lt_iff_toInt_lt, own_small2 (by omega), own_small2 (by omega)]
    have : (own_sh b).toBitVec.toNat = (own_sh a).toBitVec.toNat := by rw [e]
    omega
  · intro e
    rw [Int32.lt_iff_toInt_lt, own_small2 (by omega), own_small2 (by omega)]
    have : ¬ b.toBitVec.toNat / 64 = a.toBitVec.toNat / 64 := fun q => e (Int32.toBitVec_inj.mp (BitVec.eq_of_toNat_eq (by omega)))
    omega
def own_gs (a b c : Int32) : List (List Int32) := if own_sh b = own_sh a then (if own_sh c = own_sh b then [[a, b, c]] else [[a, b], [c]]) else (if own_sh c = own_sh b then [[a], [b, c]] else [[a], [b], [c]])
theorem own_okk {p : Int32} {g : List Int32} (h1 : ∀ x ∈ g, own_sh x = p) (h2 : g.Pairwise (fun a b => own_lo a < own_lo b)) : own_Ok p g := ⟨h1, h2⟩
theorem own_init {a b c : Int32} (h0 : 0 ≤ a) (h1 : a < b) (h2 : b < c) : own_Rep (own_pl [a, b, c]) (own_wl [a, b, c]) (own_gs a b c) ∧ (own_gs a b c).flatten = [a, b, c] ∧ (∀ g ∈ own_gs a b c, g.length + (own_gs a b c).length ≤ 4) ∧ (∀ g ∈ own_gs a b c, g.length ≤ 3 ∧ ¬ g = []) ∧ (own_pl [a, b, c]).Pairwise (· < ·) ∧ (own_wl [a, b, c]).length = (own_pl [a, b, c]).length ∧ 0 < (own_pl [a, b, c]).length ∧ (own_pl [a, b, c]).length ≤ 3 := by
  have hb : 0 ≤ b := by rw [Int32.le_iff_toInt_le] at *; rw [Int32.lt_iff_toInt_lt] at h1; omega
  have hac : a < c := by rw [Int32.lt_iff_toInt_lt] at *; omega
  obtain ⟨l1, s1⟩ := own_shlo h0 h1
  obtain ⟨l2, s2⟩ := own_shlo hb h2
  obtain ⟨l3, s3⟩ := own_shlo h0 hac
  by_cases e1 : own_sh b = own_sh a
  · by_cases e2 : own_sh c = own_sh b
    · rw [show own_pl [a, b, c] = [own_sh a] from (if_pos e1).trans (if_pos e2), show own_wl [a, b, c] = [((0 ||| own_bit a) ||| own_bit b) ||| own_bit c] from (if_pos e1).trans (if_pos e2), show own_gs a b c = [[a, b, c]] from (if_pos e1).trans (if_pos e2)]
      exact ⟨⟨rfl, own_okk (by simp [e1, e2]) (by simp [l1 e1, l2 e2, l3 (e2.trans e1)]), trivial⟩, by simp, by simp, by simp, by simp, by simp, by simp, by simp⟩
    · have e3 : ¬ own_sh c = own_sh a := fun q => e2 (q.trans e1.symm)
      rw [show own_pl [a, b, c] = [own_sh a, own_sh c] from (if_pos e1).trans (if_neg e2), show own_wl [a, b, c] = [(0 ||| own_bit a) ||| own_bit b, 0 ||| own_bit c] from (if_pos e1).trans (if_neg e2), show own_gs a b c = [[a, b], [c]] from (if_pos e1).trans (if_neg e2)]
      exact ⟨⟨rfl, own_okk (by simp [e1]) (by simp [l1 e1]), rfl, own_okk (by simp) (by simp), trivial⟩, by simp, by simp, by simp, by simp [s3 e3], by simp, by simp, by simp⟩
  · by_cases e2 : own_sh c = own_sh b
    · rw [show own_pl [a, b, c] = [own_sh a, own_sh b] from (if_neg e1).trans (if_pos e2), show own_wl [a, b, c] = [0 ||| own_bit a, (0 ||| own_bit b) ||| own_bit c] from (if_neg e1).trans (if_pos e2), show own_gs a b c = [[a], [b, c]] from (if_neg e1).trans (if_pos e2)]
      exact ⟨⟨rfl, own_okk (by simp) (by simp), rfl, own_okk (by simp [e2]) (by simp [l2 e2]), trivial⟩, by simp, by simp, by simp, by simp [s1 e1], by simp, by simp, by simp⟩
    · have s12 := s1 e1; have s23 := s2 e2
      have s13 : own_sh a < own_sh c := by rw [Int32.lt_iff_toInt_lt] at *; omega
      rw [show own_pl [a, b, c] = [own_sh a, own_sh b, own_sh c] from (if_neg e1).trans (if_neg e2), show own_wl [a, b, c] = [0 ||| own_bit a, 0 ||| own_bit b, 0 ||| own_bit c] from (if_neg e1).trans (if_neg e2), show own_gs a b c = [[a], [b], [c]] from (if_neg e1).trans (if_neg e2)]
      exact ⟨⟨rfl, own_okk (by simp) (by simp), rfl, own_okk (by simp) (by simp), rfl, own_okk (by simp) (by simp), trivial⟩, by simp, by simp, by simp, by simp [s12, s13, s23], by simp, by simp, by simp⟩
theorem own_andn (x y : Int32) : (x &&& y).toBitVec.toNat ≤ y.toBitVec.toNat := by
  rw [Int32.toBitVec_and, BitVec.toNat_and]; exact Nat.and_le_right
theorem own_rng {p0 p1 p2 a b c : Int32} (ha : a = p0 &&& (1073741823 : Int32)) (hb : b = a + (1 : Int32) + (p1 &&& (1023 : Int32))) (hc : c = b + (1 : Int32) + (p2 &&& (1023 : Int32))) : 0 ≤ a ∧ a < b ∧ b < c := by
  have h1 := own_andn p0 1073741823; have h2 := own_andn p1 1023; have h3 := own_andn p2 1023
  rw [← ha] at h1
  have e1 : (1073741823 : Int32).toBitVec.toNat = 1073741823 := rfl
  have e2 : (1023 : Int32).toBitVec.toNat = 1023 := rfl
  have e3 : (1 : Int32).toBitVec.toNat = 1 := rfl
  rw [e1] at h1; rw [e2] at h2 h3
  have b1 : b.toBitVec.toNat = a.toBitVec.toNat + 1 + (p1 &&& (1023 : Int32)).toBitVec.toNat := by
    rw [hb, Int32.toBitVec_add, Int32.toBitVec_add, BitVec.toNat_add, BitVec.toNat_add, e3]; omega
  have c1 : c.toBitVec.toNat = b.toBitVec.toNat + 1 + (p2 &&& (1023 : Int32)).toBitVec.toNat := by
    rw [hc, Int32.toBitVec_add, Int32.toBitVec_add, BitVec.toNat_add, BitVec.toNat_add, e3]; omega
  have za : (0 : Int32).toInt = 0 := rfl
  refine ⟨?_, ?_, ?_⟩
  · rw [Int32.le_iff_toInt_le, own_small2 (x := a) (by omega), za]; omega
  · rw [Int32.lt_iff_toInt_lt, own_small2 (x := a) (by omega), own_small2 (x := b) (by omega)]; omega
  · rw [Int32.lt_iff_toInt_lt, own_small2 (x := b) (by omega), own_small2 (x := c) (by omega)]; omega
theorem own_kp {f a m1 m2 m3 : Int32} (h : f = (if a = m1 then (0 : Int32) else (if a = m2 then (0 : Int32) else (if a = m3 then (0 : Int32) else (1 : Int32))))) : (¬ f = (0 : Int32) → (¬ a = m1 ∧ ¬ a = m2 ∧ ¬ a = m3)) ∧ (f = (0 : Int32) → ¬ (¬ a = m1 ∧ ¬ a = m2 ∧ ¬ a = m3)) := by
  subst h
  by_cases h1 : a = m1 <;> by_cases h2 : a = m2 <;> by_cases h3 : a = m3 <;> simp [h1, h2, h3]
theorem own_fil3 (a b c m1 m2 m3 : Int32) : [a, b, c].filter (fun x => decide (¬ x = m1 ∧ ¬ x = m2 ∧ ¬ x = m3)) = (if (¬ a = m1 ∧ ¬ a = m2 ∧ ¬ a = m3) then [a] else []) ++ ((if (¬ b = m1 ∧ ¬ b = m2 ∧ ¬ b = m3) then [b] else []) ++ (if (¬ c = m1 ∧ ¬ c = m2 ∧ ¬ c = m3) then [c] else [])) := by
  by_cases ha : (¬ a = m1 ∧ ¬ a = m2 ∧ ¬ a = m3) <;> by_cases hb : (¬ b = m1 ∧ ¬ b = m2 ∧ ¬ b = m3) <;> by_cases hc : (¬ c = m1 ∧ ¬ c = m2 ∧ ¬ c = m3) <;> simp only [List.filter_cons, List.filter_nil, ha, hb, hc, decide_true, decide_false, if_true, if_false] <;> rfl
theorem own_fil (L : List Int32) (m1 m2 m3 : Int32) : (((L.filter (fun x => decide (¬ x = m1))).filter (fun x => decide (¬ x = m2))).filter (fun x => decide (¬ x = m3))) = L.filter (fun x => decide (¬ x = m1 ∧ ¬ x = m2 ∧ ¬ x = m3)) := by
  rw [List.filter_filter, List.filter_filter]
  apply List.filter_congr
  intro x _
  by_cases h1 : x = m1 <;> by_cases h2 : x = m2 <;> by_cases h3 : x = m3 <;> simp [h1, h2, h3]
theorem dp22_1_0 : decode prog_22_method_1_code 0 = .ok (.aload_n 0, 1) := by decide +kernel
theorem dp22_1_1 : decode prog_22_method_1_code 1 = .ok (.invokespecial 1, 3) := by decide +kernel
theorem dp22_1_4 : decode prog_22_method_1_code 4 = .ok (.aload_n 0, 1) := by decide +kernel
theorem dp22_1_5 : decode prog_22_method_1_code 5 = .ok (.aload_n 1, 1) := by decide +kernel
theorem dp22_1_6 : decode prog_22_method_1_code 6 = .ok (.arraylength, 1) := by decide +kernel
theorem dp22_1_7 : decode prog_22_method_1_code 7 = .ok (.anewarray 7, 3) := by decide +kernel
theorem dp22_1_10 : decode prog_22_method_1_code 10 = .ok (.putfield 9, 3) := by decide +kernel
theorem dp22_1_13 : decode prog_22_method_1_code 13 = .ok (.aload_n 0, 1) := by decide +kernel
theorem dp22_1_14 : decode prog_22_method_1_code 14 = .ok (.aload_n 1, 1) := by decide +kernel
theorem dp22_1_15 : decode prog_22_method_1_code 15 = .ok (.arraylength, 1) := by decide +kernel
theorem dp22_1_16 : decode prog_22_method_1_code 16 = .ok (.anewarray 15, 3) := by decide +kernel
theorem dp22_1_19 : decode prog_22_method_1_code 19 = .ok (.putfield 17, 3) := by decide +kernel
theorem dp22_1_22 : decode prog_22_method_1_code 22 = .ok (.iconst 0, 1) := by decide +kernel
theorem dp22_1_23 : decode prog_22_method_1_code 23 = .ok (.istore_n 2, 1) := by decide +kernel
theorem dp22_1_24 : decode prog_22_method_1_code 24 = .ok (.iload_n 2, 1) := by decide +kernel
theorem dp22_1_25 : decode prog_22_method_1_code 25 = .ok (.aload_n 1, 1) := by decide +kernel
theorem dp22_1_26 : decode prog_22_method_1_code 26 = .ok (.arraylength, 1) := by decide +kernel
theorem dp22_1_27 : decode prog_22_method_1_code 27 = .ok (.if_icmp .ge 159, 3) := by decide +kernel
theorem dp22_1_30 : decode prog_22_method_1_code 30 = .ok (.aload_n 1, 1) := by decide +kernel
theorem dp22_1_31 : decode prog_22_method_1_code 31 = .ok (.iload_n 2, 1) := by decide +kernel
theorem dp22_1_32 : decode prog_22_method_1_code 32 = .ok (.aaload, 1) := by decide +kernel
theorem dp22_1_33 : decode prog_22_method_1_code 33 = .ok (.astore_n 3, 1) := by decide +kernel
theorem dp22_1_34 : decode prog_22_method_1_code 34 = .ok (.iconst 0, 1) := by decide +kernel
theorem dp22_1_35 : decode prog_22_method_1_code 35 = .ok (.istore 4, 2) := by decide +kernel
theorem dp22_1_37 : decode prog_22_method_1_code 37 = .ok (.iconst 0, 1) := by decide +kernel
theorem dp22_1_38 : decode prog_22_method_1_code 38 = .ok (.istore 5, 2) := by decide +kernel
theorem dp22_1_40 : decode prog_22_method_1_code 40 = .ok (.iload 5, 2) := by decide +kernel
theorem dp22_1_42 : decode prog_22_method_1_code 42 = .ok (.aload_n 3, 1) := by decide +kernel
theorem dp22_1_43 : decode prog_22_method_1_code 43 = .ok (.arraylength, 1) := by decide +kernel
theorem dp22_1_44 : decode prog_22_method_1_code 44 = .ok (.if_icmp .ge 36, 3) := by decide +kernel
theorem dp22_1_47 : decode prog_22_method_1_code 47 = .ok (.iload 5, 2) := by decide +kernel
theorem dp22_1_49 : decode prog_22_method_1_code 49 = .ok (.ifCond .eq 22, 3) := by decide +kernel
theorem dp22_1_71 : decode prog_22_method_1_code 71 = .ok (.iinc 4 1, 3) := by decide +kernel
theorem dp22_1_74 : decode prog_22_method_1_code 74 = .ok (.iinc 5 1, 3) := by decide +kernel
theorem dp22_1_77 : decode prog_22_method_1_code 77 = .ok (.goto (-37), 3) := by decide +kernel
theorem dp22_1_52 : decode prog_22_method_1_code 52 = .ok (.aload_n 3, 1) := by decide +kernel
theorem dp22_1_53 : decode prog_22_method_1_code 53 = .ok (.iload 5, 2) := by decide +kernel
theorem dp22_1_55 : decode prog_22_method_1_code 55 = .ok (.iaload, 1) := by decide +kernel
theorem dp22_1_56 : decode prog_22_method_1_code 56 = .ok (.bipush 6, 2) := by decide +kernel
theorem dp22_1_58 : decode prog_22_method_1_code 58 = .ok (.iushr, 1) := by decide +kernel
theorem dp22_1_59 : decode prog_22_method_1_code 59 = .ok (.aload_n 3, 1) := by decide +kernel
theorem dp22_1_60 : decode prog_22_method_1_code 60 = .ok (.iload 5, 2) := by decide +kernel
theorem dp22_1_62 : decode prog_22_method_1_code 62 = .ok (.iconst 1, 1) := by decide +kernel
theorem dp22_1_63 : decode prog_22_method_1_code 63 = .ok (.isub, 1) := by decide +kernel
theorem dp22_1_64 : decode prog_22_method_1_code 64 = .ok (.iaload, 1) := by decide +kernel
theorem dp22_1_65 : decode prog_22_method_1_code 65 = .ok (.bipush 6, 2) := by decide +kernel
theorem dp22_1_67 : decode prog_22_method_1_code 67 = .ok (.iushr, 1) := by decide +kernel
theorem dp22_1_68 : decode prog_22_method_1_code 68 = .ok (.if_icmp .eq 6, 3) := by decide +kernel
theorem dp22_1_80 : decode prog_22_method_1_code 80 = .ok (.iload 4, 2) := by decide +kernel
theorem dp22_1_82 : decode prog_22_method_1_code 82 = .ok (.newarray .int, 2) := by decide +kernel
theorem dp22_1_84 : decode prog_22_method_1_code 84 = .ok (.astore 5, 2) := by decide +kernel
theorem dp22_1_86 : decode prog_22_method_1_code 86 = .ok (.iload 4, 2) := by decide +kernel
theorem dp22_1_88 : decode prog_22_method_1_code 88 = .ok (.newarray .long, 2) := by decide +kernel
theorem dp22_1_90 : decode prog_22_method_1_code 90 = .ok (.astore 6, 2) := by decide +kernel
theorem dp22_1_92 : decode prog_22_method_1_code 92 = .ok (.iconst (-1), 1) := by decide +kernel
theorem dp22_1_93 : decode prog_22_method_1_code 93 = .ok (.istore 7, 2) := by decide +kernel
theorem dp22_1_95 : decode prog_22_method_1_code 95 = .ok (.iconst 0, 1) := by decide +kernel
theorem dp22_1_96 : decode prog_22_method_1_code 96 = .ok (.istore 8, 2) := by decide +kernel
theorem dp22_1_98 : decode prog_22_method_1_code 98 = .ok (.iload 8, 2) := by decide +kernel
theorem dp22_1_100 : decode prog_22_method_1_code 100 = .ok (.aload_n 3, 1) := by decide +kernel
theorem dp22_1_101 : decode prog_22_method_1_code 101 = .ok (.arraylength, 1) := by decide +kernel
theorem dp22_1_102 : decode prog_22_method_1_code 102 = .ok (.if_icmp .ge 62, 3) := by decide +kernel
theorem dp22_1_105 : decode prog_22_method_1_code 105 = .ok (.iload 8, 2) := by decide +kernel
theorem dp22_1_107 : decode prog_22_method_1_code 107 = .ok (.ifCond .eq 22, 3) := by decide +kernel
theorem dp22_1_129 : decode prog_22_method_1_code 129 = .ok (.aload 5, 2) := by decide +kernel
theorem dp22_1_131 : decode prog_22_method_1_code 131 = .ok (.iinc 7 1, 3) := by decide +kernel
theorem dp22_1_134 : decode prog_22_method_1_code 134 = .ok (.iload 7, 2) := by decide +kernel
theorem dp22_1_136 : decode prog_22_method_1_code 136 = .ok (.aload_n 3, 1) := by decide +kernel
theorem dp22_1_137 : decode prog_22_method_1_code 137 = .ok (.iload 8, 2) := by decide +kernel
theorem dp22_1_139 : decode prog_22_method_1_code 139 = .ok (.iaload, 1) := by decide +kernel
theorem dp22_1_140 : decode prog_22_method_1_code 140 = .ok (.bipush 6, 2) := by decide +kernel
theorem dp22_1_142 : decode prog_22_method_1_code 142 = .ok (.iushr, 1) := by decide +kernel
theorem dp22_1_143 : decode prog_22_method_1_code 143 = .ok (.iastore, 1) := by decide +kernel
theorem dp22_1_144 : decode prog_22_method_1_code 144 = .ok (.aload 6, 2) := by decide +kernel
theorem dp22_1_146 : decode prog_22_method_1_code 146 = .ok (.iload 7, 2) := by decide +kernel
theorem dp22_1_148 : decode prog_22_method_1_code 148 = .ok (.dup2, 1) := by decide +kernel
theorem dp22_1_149 : decode prog_22_method_1_code 149 = .ok (.laload, 1) := by decide +kernel
theorem dp22_1_150 : decode prog_22_method_1_code 150 = .ok (.lconst 1, 1) := by decide +kernel
theorem dp22_1_151 : decode prog_22_method_1_code 151 = .ok (.aload_n 3, 1) := by decide +kernel
theorem dp22_1_152 : decode prog_22_method_1_code 152 = .ok (.iload 8, 2) := by decide +kernel
theorem dp22_1_154 : decode prog_22_method_1_code 154 = .ok (.iaload, 1) := by decide +kernel
theorem dp22_1_155 : decode prog_22_method_1_code 155 = .ok (.lshl, 1) := by decide +kernel
theorem dp22_1_156 : decode prog_22_method_1_code 156 = .ok (.lor, 1) := by decide +kernel
theorem dp22_1_157 : decode prog_22_method_1_code 157 = .ok (.lastore, 1) := by decide +kernel
theorem dp22_1_158 : decode prog_22_method_1_code 158 = .ok (.iinc 8 1, 3) := by decide +kernel
theorem dp22_1_161 : decode prog_22_method_1_code 161 = .ok (.goto (-63), 3) := by decide +kernel
theorem dp22_1_110 : decode prog_22_method_1_code 110 = .ok (.aload_n 3, 1) := by decide +kernel
theorem dp22_1_111 : decode prog_22_method_1_code 111 = .ok (.iload 8, 2) := by decide +kernel
theorem dp22_1_113 : decode prog_22_method_1_code 113 = .ok (.iaload, 1) := by decide +kernel
theorem dp22_1_114 : decode prog_22_method_1_code 114 = .ok (.bipush 6, 2) := by decide +kernel
theorem dp22_1_116 : decode prog_22_method_1_code 116 = .ok (.iushr, 1) := by decide +kernel
theorem dp22_1_117 : decode prog_22_method_1_code 117 = .ok (.aload_n 3, 1) := by decide +kernel
theorem dp22_1_118 : decode prog_22_method_1_code 118 = .ok (.iload 8, 2) := by decide +kernel
theorem dp22_1_120 : decode prog_22_method_1_code 120 = .ok (.iconst 1, 1) := by decide +kernel
theorem dp22_1_121 : decode prog_22_method_1_code 121 = .ok (.isub, 1) := by decide +kernel
theorem dp22_1_122 : decode prog_22_method_1_code 122 = .ok (.iaload, 1) := by decide +kernel
theorem dp22_1_123 : decode prog_22_method_1_code 123 = .ok (.bipush 6, 2) := by decide +kernel
theorem dp22_1_125 : decode prog_22_method_1_code 125 = .ok (.iushr, 1) := by decide +kernel
theorem dp22_1_126 : decode prog_22_method_1_code 126 = .ok (.if_icmp .eq 18, 3) := by decide +kernel
theorem dp22_1_164 : decode prog_22_method_1_code 164 = .ok (.aload_n 0, 1) := by decide +kernel
theorem dp22_1_165 : decode prog_22_method_1_code 165 = .ok (.getfield 9, 3) := by decide +kernel
theorem dp22_1_168 : decode prog_22_method_1_code 168 = .ok (.iload_n 2, 1) := by decide +kernel
theorem dp22_1_169 : decode prog_22_method_1_code 169 = .ok (.aload 5, 2) := by decide +kernel
theorem dp22_1_171 : decode prog_22_method_1_code 171 = .ok (.aastore, 1) := by decide +kernel
theorem dp22_1_172 : decode prog_22_method_1_code 172 = .ok (.aload_n 0, 1) := by decide +kernel
theorem dp22_1_173 : decode prog_22_method_1_code 173 = .ok (.getfield 17, 3) := by decide +kernel
theorem dp22_1_176 : decode prog_22_method_1_code 176 = .ok (.iload_n 2, 1) := by decide +kernel
theorem dp22_1_177 : decode prog_22_method_1_code 177 = .ok (.aload 6, 2) := by decide +kernel
theorem dp22_1_179 : decode prog_22_method_1_code 179 = .ok (.aastore, 1) := by decide +kernel
theorem dp22_1_180 : decode prog_22_method_1_code 180 = .ok (.iinc 2 1, 3) := by decide +kernel
theorem dp22_1_183 : decode prog_22_method_1_code 183 = .ok (.goto (-159), 3) := by decide +kernel
theorem dp22_1_186 : decode prog_22_method_1_code 186 = .ok (.return_, 1) := by decide +kernel
theorem pn_com_example_whittle_whittle_engine_WordSets : plainName "com/example/whittle/whittle/engine/WordSets" = true := by first | (simp [plainName, overriddenIn]; done) | decide +kernel
theorem ef_wsInit (m : MethodId) (x0 : Addr) (x1 : Addr) : entryFrame m #[(.ref x0), (.ref x1)] 9 = mkF m 0 #[sR x0, sR x1, sU, sU, sU, sU, sU, sU, sU] [] := by (first | (simp [entryFrame, mkF, argsToLocals, Value.category]; done) | rfl)
def Q_wsInit (Z : State) (a1 : Addr) (x00 x01 x02 : Int32) (h0 : Heap) (n0 : Nat) (v : Option Value) (h : Heap) (L : List Loc) : Prop := v = none ∧ Fr n0 L ∧ Keep h0 h [a1] ∧ Exa Z h a1 sW ∧ ∃ (PP WW : Addr) (kP kW : ClassId) (P0 W0 : Addr), Fld Z h a1 sW "places" "[[I" (.ref PP) ∧ Fld Z h a1 sW "words" "[[J" (.ref WW) ∧ Arv Z h PP kP (.array .int) (1 : Int32) [(.ref P0)] .null ∧ Arv Z h WW kW (.array .long) (1 : Int32) [(.ref W0)] .null ∧ h0.size ≤ PP ∧ h0.size ≤ WW ∧ (∃ (k k2 : ClassId) (pl : List Int32) (wl : List Int64) (N : Int32), pl = own_pl ([x00, x01, x02] : List Int32) ∧ wl = own_wl ([x00, x01, x02] : List Int32) ∧ N = Int32.ofNat pl.length ∧ Arv Z h P0 k .int N (pl.map Value.int) (.int (0 : Int32)) ∧ Arv Z h W0 k2 .long N (wl.map Value.long) (.long (0 : Int64)) ∧ Exa Z h P0 "[I" ∧ Exa Z h W0 "[J" ∧ h0.size ≤ P0 ∧ h0.size ≤ W0)
set_option maxRecDepth 65536 in
set_option maxHeartbeats 40000000 in
theorem rm_wsInit (l : Launch) (Z : State) (a0 : Array Value) (hw : ∀ d ∈ tables_1, d.before a0 Z = true) (ws : List Jvm.Cond) (a1 l1 : Addr) (kl : ClassId) (f0 : Addr) (kf0 : ClassId) (x00 x01 x02 : Int32) (h0 : Heap) (n0 : Nat) (Z0 : n0 ≤ h0.size) (g_a1 : n0 ≤ a1) (E1 : Exa Z h0 a1 sW) (Fp : Fld Z h0 a1 sW "places" "[[I" .null) (Fw : Fld Z h0 a1 sW "words" "[[J" .null) (Al : Arv Z h0 l1 kl (.array .int) (1 : Int32) [(.ref f0)] .null) (A_f0 : Arv Z h0 f0 kf0 .int (3 : Int32) [(.int x00), (.int x01), (.int x02)] (.int (0 : Int32))) :
    MetFree l (⟨"com/example/whittle/whittle/engine/WordSets", "<init>", "([[I)V"⟩ : MethodName) (head1 (Jvm.Cond.code (⟨"com/example/whittle/whittle/engine/WordSets", "<init>", "([[I)V"⟩ : MethodName) prog_22_method_1_code 9 none :: ws) ({ frames := 1, cells := 4, slots := 8, locals := 12 } : Room)) (fun a U => a = #[(.ref a1), (.ref l1)] ∧ Z.Warmed39 U.vm ∧ U.heap = h0) (fun _ _ _ _ _ => True) (fun _ U o U' => ∃ v L, o = .returned v ∧ Q_wsInit Z a1 x00 x01 x02 h0 n0 v U'.heap L ∧ FrameEnd U o U' L ({ frames := 1, cells := 4, slots := 8, locals := 12 } : Room).cells ({ frames := 1, cells := 4, slots := 8, locals := 12 } : Room).slots) := by
  refine MetFree.of_bodySF (plainFor_of_name pn_com_example_whittle_whittle_engine_WordSets) hisR ?_
  intro p e s m args below meth c s₁ Bd hml0 hP hK
  obtain ⟨rfl, hZ, hh⟩ := hP
  have hx := Bd.exec
  have hby := Bd.bytes
  have hml : c.maxLocals = 9 := hml0
  have hown : s.vm.findClass "com/example/whittle/whittle/engine/WordSets" = some m.cls := findClass_of_methodNamed Bd.named
  have hnm := (name_of_methodNamed Bd.named Bd.method).1
  have X0 : Stand p l e ({ frames := 1, cells := 4, slots := 8, locals := 12 } : Room) s m #[(.ref a1), (.ref l1)] below meth c s₁ [] 0 0 := Stand.of_body Bd
  have e0 : s₁.heap = h0 := by rw [← hh, Bd.state]; rfl
  have N0 := Fr.nil n0
  have pre0 : ∀ t, Sg p e below (s₁.setTop (mkF m 0 #[sR a1, sR l1, sU, sU, sU, sU, sU, sU, sU] [])) t → Steps p.tables e below (s₁.setTop (entryFrame m #[(.ref a1), (.ref l1)] 9)) t := fun t k => castTop (ef_wsInit m a1 l1) k
  have P0 : ∀ t, Sg p e below (s₁.setTop (mkF m 0 #[sR a1, sR l1, sU, sU, sU, sU, sU, sU, sU] [])) t → Sg p e below (s₁.setTop (mkF m 0 #[sR a1, sR l1, sU, sU, sU, sU, sU, sU, sU] [])) t := fun t k => k
  obtain ⟨B0, pre0, P0⟩ : ∃ B : State, (∀ t, Steps p.tables e below B t → Steps p.tables e below (s₁.setTop (entryFrame m #[(.ref a1), (.ref l1)] 9)) t) ∧ Rg p e below (s₁.setTop (mkF m 0 #[sR a1, sR l1, sU, sU, sU, sU, sU, sU, sU] [])) B := ⟨_, pre0, P0⟩
  obtain ⟨T1, X1, e1, st1⟩ := initO X0 hx hZ hown (own_hw hw 15 rfl) (own_hw hw 16 rfl) (own_hw hw 17 rfl) e0 (g := (mkF m 1 #[sR a1, sR l1, sU, sU, sU, sU, sU, sU, sU] [(.ref a1)])) rfl (by rw [hml]; rfl) rfl (hb hby dp22_1_1) (by decide) (W := 0) (by show 2 * 0 + _ ≤ _; exact Nat.le_of_eq rfl) (by decide)
  have P2 : Rg p e below (T1.setTop (mkF m 4 #[sR a1, sR l1, sU, sU, sU, sU, sU, sU, sU] [])) B0 := fun t k => P0 t (by
    refine XS.aloadN X0.here hx rfl (hb hby dp22_1_0) rfl rfl ?_
    show Sg p e below (s₁.setTop (mkF m 1 #[sR a1, sR l1, sU, sU, sU, sU, sU, sU, sU] [(.ref a1)])) _
    exact st1 _ k)
  obtain ⟨cl3, Ar3, -, S3, N3, -, -⟩ := id Al
  obtain ⟨T4, h4, k4, X4, e4, E4, A4, B4, O4, st4⟩ := newRA X1 hx hZ hown (C := "[I") (ty := .int) (by decide) (own_hw hw 18 rfl) (own_hw hw 6 rfl) e1 (g := (mkF m 7 #[sR a1, sR l1, sU, sU, sU, sU, sU, sU, sU] [(.int (1 : Int32)), (.ref a1)])) rfl (hb hby dp22_1_7) rfl (by decide) (cap := 1) (by decide) (by decide) (by decide) (by decide) (ad := "[[I") (by decide)
  obtain ⟨b4, g4⟩ : ∃ z, z = h0.size := ⟨_, rfl⟩
  rw [← g4] at A4 B4 st4
  have g_b4 : n0 ≤ b4 := Nat.le_trans Z0 (Nat.le_of_eq g4.symm)
  have sz_b4 : h0.size ≤ b4 := Nat.le_trans (Keep.refl h0 [a1]).1 (Nat.le_of_eq g4.symm)
  have P5 : Rg p e below (T4.setTop (mkF m 10 #[sR a1, sR l1, sU, sU, sU, sU, sU, sU, sU] [(.ref b4), (.ref a1)])) B0 := fun t k => P2 t (by
    refine XS.aloadN X1.here hx rfl (hb hby dp22_1_4) rfl rfl ?_
    refine XS.aloadN X1.here hx rfl (hb hby dp22_1_5) rfl rfl ?_
    show Sg p e below (T1.setTop (mkF m 6 #[sR a1, sR l1, sU, sU, sU, sU, sU, sU, sU] [(.ref l1), (.ref a1)])) _
    refine X1.arraylength hx (by rw [e1]; exact Ar3.1) (State.isArrayOf_alike hZ.alike Ar3.2.1) (g := (mkF m 6 #[sR a1, sR l1, sU, sU, sU, sU, sU, sU, sU] [(.ref l1), (.ref a1)])) rfl rfl (hb hby dp22_1_6) _ ?_
    rw [len_of S3 N3]
    show Sg p e below (T1.setTop (mkF m 7 #[sR a1, sR l1, sU, sU, sU, sU, sU, sU, sU] [(.int (1 : Int32)), (.ref a1)])) _
    exact st4 _ k)
  have Z6 : n0 ≤ h4.size := Nat.le_trans Z0 E4.1
  have K7 : Keep h0 h4 [a1] := (Keep.refl h0 [a1]).ext E4
  have v8 : Arv Z h4 b4 k4 (.array .int) (1 : Int32) [.null] .null := (Arv.new A4 (by decide)).pad (pad_rep [] .null 1)
  have f9 := (Fp.ext E4)
  have f10 := (E1.ext E4)
  obtain ⟨T11, h11, X11, e11, W11, st11⟩ := putF X4 hx hZ hown (host := "") (Or.inl (own_hw hw 19 rfl)) Via.refl e4 f9 f10 (Or.inr ⟨(own_hw hw 20 rfl), rfl, hnm⟩) (own_hw hw 10 rfl) (ty := (.array (.array .int))) (by decide) rfl rfl (g := (mkF m 10 #[sR a1, sR l1, sU, sU, sU, sU, sU, sU, sU] [(.ref b4), (.ref a1)])) rfl rfl (hb hby dp22_1_10)
  have P12 : Rg p e below (T11.setTop (mkF m 13 #[sR a1, sR l1, sU, sU, sU, sU, sU, sU, sU] [])) B0 := fun t k => P5 t (by
    exact st11 _ k)
  have f13 := f9.same W11
  have N14 := Fr.snoc X11 N0 g_a1
  have Z15 : n0 ≤ h11.size := Nat.le_trans Z6 (Keep.of_wr W11).1
  have K16 : Keep h0 h11 [a1] := K7.wr W11 (Or.inl (List.mem_of_getElem? (i := 0) rfl))
  have f17 := ((Al.ext E4).other W11 (Ne.symm (Exa.neArv E1 Al (own_hw hw 10 rfl))))
  obtain ⟨cl18, Ar18, -, S18, N18, -, -⟩ := id f17
  obtain ⟨T19, h19, k19, X19, e19, E19, A19, B19, O19, st19⟩ := newRA X11 hx hZ hown (C := "[J") (ty := .long) (by decide) (own_hw hw 21 rfl) (own_hw hw 22 rfl) e11 (g := (mkF m 16 #[sR a1, sR l1, sU, sU, sU, sU, sU, sU, sU] [(.int (1 : Int32)), (.ref a1)])) rfl (hb hby dp22_1_16) rfl (by decide) (cap := 1) (by decide) (by decide) (by decide) (by decide) (ad := "[[J") (by decide)
  obtain ⟨b19, g19⟩ : ∃ z, z = h11.size := ⟨_, rfl⟩
  rw [← g19] at A19 B19 st19
  have g_b19 : n0 ≤ b19 := Nat.le_trans Z15 (Nat.le_of_eq g19.symm)
  have sz_b19 : h0.size ≤ b19 := Nat.le_trans K16.1 (Nat.le_of_eq g19.symm)
  have P20 : Rg p e below (T19.setTop (mkF m 19 #[sR a1, sR l1, sU, sU, sU, sU, sU, sU, sU] [(.ref b19), (.ref a1)])) B0 := fun t k => P12 t (by
    refine XS.aloadN X11.here hx rfl (hb hby dp22_1_13) rfl rfl ?_
    refine XS.aloadN X11.here hx rfl (hb hby dp22_1_14) rfl rfl ?_
    show Sg p e below (T11.setTop (mkF m 15 #[sR a1, sR l1, sU, sU, sU, sU, sU, sU, sU] [(.ref l1), (.ref a1)])) _
    refine X11.arraylength hx (by rw [e11]; exact Ar18.1) (State.isArrayOf_alike hZ.alike Ar18.2.1) (g := (mkF m 15 #[sR a1, sR l1, sU, sU, sU, sU, sU, sU, sU] [(.ref l1), (.ref a1)])) rfl rfl (hb hby dp22_1_15) _ ?_
    rw [len_of S18 N18]
    show Sg p e below (T11.setTop (mkF m 16 #[sR a1, sR l1, sU, sU, sU, sU, sU, sU, sU] [(.int (1 : Int32)), (.ref a1)])) _
    exact st19 _ k)
  have Z21 : n0 ≤ h19.size := Nat.le_trans Z15 E19.1
  have K22 : Keep h0 h19 [a1] := K16.ext E19
  have v23 : Arv Z h19 b19 k19 (.array .long) (1 : Int32) [.null] .null := (Arv.new A19 (by decide)).pad (pad_rep [] .null 1)
  have f24 := (((Fw.ext E4).other W11 (Or.inr (slot_ne (Or.inr (own_hw hw 24 rfl)) (Or.inr (own_hw hw 20 rfl)) (by decide) (t := (.array (.array .long))) (t' := (.array (.array .int))) (by decide) (by decide)))).ext E19)
  have f25 := ((f10.wr W11).ext E19)
  obtain ⟨T26, h26, X26, e26, W26, st26⟩ := putF X19 hx hZ hown (host := "") (Or.inl (own_hw hw 23 rfl)) Via.refl e19 f24 f25 (Or.inr ⟨(own_hw hw 24 rfl), rfl, hnm⟩) (own_hw hw 10 rfl) (ty := (.array (.array .long))) (by decide) rfl rfl (g := (mkF m 19 #[sR a1, sR l1, sU, sU, sU, sU, sU, sU, sU] [(.ref b19), (.ref a1)])) rfl rfl (hb hby dp22_1_19)
  have P27 : Rg p e below (T26.setTop (mkF m 22 #[sR a1, sR l1, sU, sU, sU, sU, sU, sU, sU] [])) B0 := fun t k => P20 t (by
    exact st26 _ k)
  have f28 := f24.same W26
  have N29 := Fr.snoc X26 N14 g_a1
  have Z30 : n0 ≤ h26.size := Nat.le_trans Z21 (Keep.of_wr W26).1
  have K31 : Keep h0 h26 [a1] := K22.wr W26 (Or.inl (List.mem_of_getElem? (i := 0) rfl))
  have f32 := ((f17.ext E19).other W26 (Ne.symm (Exa.neArv E1 Al (own_hw hw 10 rfl))))
  obtain ⟨cl33, Ar33, -, S33, N33, -, -⟩ := id f32
  obtain ⟨cl34, Ar34, -, S34, N34, H34, -⟩ := id f32
  have hin34 : ¬ ((0 : Int32) < 0 ∨ cl34.slots.size ≤ ((0 : Int32)).toNatClampNeg) := inb_of S34 ⟨by decide, by decide⟩
  have f35 := ((((A_f0.ext E4).other W11 (Ne.symm (Exa.neArv E1 A_f0 (own_hw hw 10 rfl)))).ext E19).other W26 (Ne.symm (Exa.neArv E1 A_f0 (own_hw hw 10 rfl))))
  obtain ⟨cl36, Ar36, -, S36, N36, -, -⟩ := id f35
  obtain ⟨cl37, Ar37, -, S37, N37, -, -⟩ := id f35
  obtain ⟨cl38, Ar38, -, S38, N38, H38, -⟩ := id f35
  have hin38 : ¬ ((1 : Int32) < 0 ∨ cl38.slots.size ≤ ((1 : Int32)).toNatClampNeg) := inb_of S38 ⟨by decide, by decide⟩
  obtain ⟨cl39, Ar39, -, S39, N39, H39, -⟩ := id f35
  have hin39 : ¬ ((0 : Int32) < 0 ∨ cl39.slots.size ≤ ((0 : Int32)).toNatClampNeg) := inb_of S39 ⟨by decide, by decide⟩
  have P40 : Rg p e below (T26.setTop (mkF m 68 #[sR a1, sR l1, sI 0, sR f0, sI 1, sI 1, sU, sU, sU] [(.int ((x00.toUInt32 >>> ((6 : Int32) &&& 31).toUInt32).toInt32)), (.int ((x01.toUInt32 >>> ((6 : Int32) &&& 31).toUInt32).toInt32))])) B0 := fun t k => P27 t (by
    refine XS.iconst X26.here hx rfl (hb hby dp22_1_22) ?_
    refine XS.istoreN X26.here hx rfl (hb hby dp22_1_23) rfl (l' := #[sR a1, sR l1, sI 0, sU, sU, sU, sU, sU, sU]) rfl ?_
    refine XS.iloadN X26.here hx rfl (hb hby dp22_1_24) rfl ?_
    refine XS.aloadN X26.here hx rfl (hb hby dp22_1_25) rfl rfl ?_
    show Sg p e below (T26.setTop (mkF m 26 #[sR a1, sR l1, sI 0, sU, sU, sU, sU, sU, sU] [(.ref l1), (.int (0 : Int32))])) _
    refine X26.arraylength hx (by rw [e26]; exact Ar33.1) (State.isArrayOf_alike hZ.alike Ar33.2.1) (g := (mkF m 26 #[sR a1, sR l1, sI 0, sU, sU, sU, sU, sU, sU] [(.ref l1), (.int (0 : Int32))])) rfl rfl (hb hby dp22_1_26) _ ?_
    rw [len_of S33 N33]
    show Sg p e below (T26.setTop (mkF m 27 #[sR a1, sR l1, sI 0, sU, sU, sU, sU, sU, sU] [(.int (1 : Int32)), (.int (0 : Int32))])) _
    refine XS.icmpNo X26.here hx rfl (hb hby dp22_1_27) rfl (tlt (show (0 : Int32) < (1 : Int32) from (by decide))).2.1 ?_
    refine XS.aloadN X26.here hx rfl (hb hby dp22_1_30) rfl rfl ?_
    refine XS.iloadN X26.here hx rfl (hb hby dp22_1_31) rfl ?_
    show Sg p e below (T26.setTop (mkF m 32 #[sR a1, sR l1, sI 0, sU, sU, sU, sU, sU, sU] [(.int (0 : Int32)), (.ref l1)])) _
    refine X26.aaload hx (j := (0 : Int32)) (v := (.ref f0)) (by rw [e26]; exact Ar34.1) (State.isArrayOf_alike hZ.alike Ar34.2.1) rfl Ar34.2.2 hin34 (H34.at hin34 rfl) (g := (mkF m 32 #[sR a1, sR l1, sI 0, sU, sU, sU, sU, sU, sU] [(.int (0 : Int32)), (.ref l1)])) rfl rfl (hb hby dp22_1_32) _ ?_
    show Sg p e below (T26.setTop (mkF m 33 #[sR a1, sR l1, sI 0, sU, sU, sU, sU, sU, sU] [(.ref f0)])) _
    refine XS.astoreN X26.here hx rfl (hb hby dp22_1_33) rfl rfl (l' := #[sR a1, sR l1, sI 0, sR f0, sU, sU, sU, sU, sU]) rfl ?_
    refine XS.iconst X26.here hx rfl (hb hby dp22_1_34) ?_
    refine XS.istore X26.here hx rfl (hb hby dp22_1_35) rfl (l' := #[sR a1, sR l1, sI 0, sR f0, sI 0, sU, sU, sU, sU]) rfl ?_
    refine XS.iconst X26.here hx rfl (hb hby dp22_1_37) ?_
    refine XS.istore X26.here hx rfl (hb hby dp22_1_38) rfl (l' := #[sR a1, sR l1, sI 0, sR f0, sI 0, sI 0, sU, sU, sU]) rfl ?_
    refine XS.iload X26.here hx rfl (hb hby dp22_1_40) rfl ?_
    refine XS.aloadN X26.here hx rfl (hb hby dp22_1_42) rfl rfl ?_
    show Sg p e below (T26.setTop (mkF m 43 #[sR a1, sR l1, sI 0, sR f0, sI 0, sI 0, sU, sU, sU] [(.ref f0), (.int (0 : Int32))])) _
    refine X26.arraylength hx (by rw [e26]; exact Ar36.1) (State.isArrayOf_alike hZ.alike Ar36.2.1) (g := (mkF m 43 #[sR a1, sR l1, sI 0, sR f0, sI 0, sI 0, sU, sU, sU] [(.ref f0), (.int (0 : Int32))])) rfl rfl (hb hby dp22_1_43) _ ?_
    rw [len_of S36 N36]
    show Sg p e below (T26.setTop (mkF m 44 #[sR a1, sR l1, sI 0, sR f0, sI 0, sI 0, sU, sU, sU] [(.int (3 : Int32)), (.int (0 : Int32))])) _
    refine XS.icmpNo X26.here hx rfl (hb hby dp22_1_44) rfl (tlt (show (0 : Int32) < (3 : Int32) from (by decide))).2.1 ?_
    refine XS.iload X26.here hx rfl (hb hby dp22_1_47) rfl ?_
    refine XS.ifYes X26.here hx rfl (pc0 := 49) (pc' := 71) rfl (hb hby dp22_1_49) rfl ((if0 _ _).trans (teq (show (0 : Int32) = (0 : Int32) from (by decide))).1) (by decide) (by decide) ?_
    refine XS.iinc X26.here hx rfl (hb hby dp22_1_71) rfl (l' := #[sR a1, sR l1, sI 0, sR f0, sI 1, sI 0, sU, sU, sU]) rfl ?_
    refine XS.iinc X26.here hx rfl (hb hby dp22_1_74) rfl (l' := #[sR a1, sR l1, sI 0, sR f0, sI 1, sI 1, sU, sU, sU]) rfl ?_
    refine XS.goto X26.here hx rfl (pc0 := 77) (pc' := 40) rfl (hb hby dp22_1_77) (by decide) (by decide) ?_
    refine XS.iload X26.here hx rfl (hb hby dp22_1_40) rfl ?_
    refine XS.aloadN X26.here hx rfl (hb hby dp22_1_42) rfl rfl ?_
    show Sg p e below (T26.setTop (mkF m 43 #[sR a1, sR l1, sI 0, sR f0, sI 1, sI 1, sU, sU, sU] [(.ref f0), (.int (1 : Int32))])) _
    refine X26.arraylength hx (by rw [e26]; exact Ar37.1) (State.isArrayOf_alike hZ.alike Ar37.2.1) (g := (mkF m 43 #[sR a1, sR l1, sI 0, sR f0, sI 1, sI 1, sU, sU, sU] [(.ref f0), (.int (1 : Int32))])) rfl rfl (hb hby dp22_1_43) _ ?_
    rw [len_of S37 N37]
    show Sg p e below (T26.setTop (mkF m 44 #[sR a1, sR l1, sI 0, sR f0, sI 1, sI 1, sU, sU, sU] [(.int (3 : Int32)), (.int (1 : Int32))])) _
    refine XS.icmpNo X26.here hx rfl (hb hby dp22_1_44) rfl (tlt (show (1 : Int32) < (3 : Int32) from (by decide))).2.1 ?_
    refine XS.iload X26.here hx rfl (hb hby dp22_1_47) rfl ?_
    refine XS.ifNo X26.here hx rfl (hb hby dp22_1_49) rfl ((if0 _ _).trans (feq (show ¬ ((1 : Int32) = (0 : Int32)) from (by decide))).1) ?_
    refine XS.aloadN X26.here hx rfl (hb hby dp22_1_52) rfl rfl ?_
    refine XS.iload X26.here hx rfl (hb hby dp22_1_53) rfl ?_
    show Sg p e below (T26.setTop (mkF m 55 #[sR a1, sR l1, sI 0, sR f0, sI 1, sI 1, sU, sU, sU] [(.int (1 : Int32)), (.ref f0)])) _
    refine X26.iaload hx (j := (1 : Int32)) (v := (.int x01)) (by rw [e26]; exact Ar38.1) (State.isArrayOf_alike hZ.alike Ar38.2.1) Ar38.2.2 hin38 (H38.at hin38 rfl) (g := (mkF m 55 #[sR a1, sR l1, sI 0, sR f0, sI 1, sI 1, sU, sU, sU] [(.int (1 : Int32)), (.ref f0)])) rfl rfl (hb hby dp22_1_55) _ ?_
    show Sg p e below (T26.setTop (mkF m 56 #[sR a1, sR l1, sI 0, sR f0, sI 1, sI 1, sU, sU, sU] [(.int x01)])) _
    refine XS.bipush X26.here hx rfl (hb hby dp22_1_56) ?_
    refine XS.iushr X26.here hx rfl (hb hby dp22_1_58) rfl ?_
    refine XS.aloadN X26.here hx rfl (hb hby dp22_1_59) rfl rfl ?_
    refine XS.iload X26.here hx rfl (hb hby dp22_1_60) rfl ?_
    refine XS.iconst X26.here hx rfl (hb hby dp22_1_62) ?_
    refine XS.isub X26.here hx rfl (hb hby dp22_1_63) rfl ?_
    show Sg p e below (T26.setTop (mkF m 64 #[sR a1, sR l1, sI 0, sR f0, sI 1, sI 1, sU, sU, sU] [(.int (0 : Int32)), (.ref f0), (.int ((x01.toUInt32 >>> ((6 : Int32) &&& 31).toUInt32).toInt32))])) _
    refine X26.iaload hx (j := (0 : Int32)) (v := (.int x00)) (by rw [e26]; exact Ar39.1) (State.isArrayOf_alike hZ.alike Ar39.2.1) Ar39.2.2 hin39 (H39.at hin39 rfl) (g := (mkF m 64 #[sR a1, sR l1, sI 0, sR f0, sI 1, sI 1, sU, sU, sU] [(.int (0 : Int32)), (.ref f0), (.int ((x01.toUInt32 >>> ((6 : Int32) &&& 31).toUInt32).toInt32))])) rfl rfl (hb hby dp22_1_64) _ ?_
    show Sg p e below (T26.setTop (mkF m 65 #[sR a1, sR l1, sI 0, sR f0, sI 1, sI 1, sU, sU, sU] [(.int x00), (.int ((x01.toUInt32 >>> ((6 : Int32) &&& 31).toUInt32).toInt32))])) _
    refine XS.bipush X26.here hx rfl (hb hby dp22_1_65) ?_
    refine XS.iushr X26.here hx rfl (hb hby dp22_1_67) rfl ?_
    show Sg p e below (T26.setTop (mkF m 68 #[sR a1, sR l1, sI 0, sR f0, sI 1, sI 1, sU, sU, sU] [(.int ((x00.toUInt32 >>> ((6 : Int32) &&& 31).toUInt32).toInt32)), (.int ((x01.toUInt32 >>> ((6 : Int32) &&& 31).toUInt32).toInt32))])) _
    exact k)
  by_cases q41 : ((x01.toUInt32 >>> ((6 : Int32) &&& 31).toUInt32).toInt32) = ((x00.toUInt32 >>> ((6 : Int32) &&& 31).toUInt32).toInt32)
  · skip
    obtain ⟨cl42, Ar42, -, S42, N42, -, -⟩ := id f35
    obtain ⟨cl43, Ar43, -, S43, N43, H43, -⟩ := id f35
    have hin43 : ¬ ((2 : Int32) < 0 ∨ cl43.slots.size ≤ ((2 : Int32)).toNatClampNeg) := inb_of S43 ⟨by decide, by decide⟩
    obtain ⟨cl44, Ar44, -, S44, N44, H44, -⟩ := id f35
    have hin44 : ¬ ((1 : Int32) < 0 ∨ cl44.slots.size ≤ ((1 : Int32)).toNatClampNeg) := inb_of S44 ⟨by decide, by decide⟩
    have P45 : Rg p e below (T26.setTop (mkF m 68 #[sR a1, sR l1, sI 0, sR f0, sI 1, sI 2, sU, sU, sU] [(.int ((x01.toUInt32 >>> ((6 : Int32) &&& 31).toUInt32).toInt32)), (.int ((x02.toUInt32 >>> ((6 : Int32) &&& 31).toUInt32).toInt32))])) B0 := fun t k => P40 t (by
      refine XS.icmpYes X26.here hx rfl (pc0 := 68) (pc' := 74) rfl (hb hby dp22_1_68) rfl (teq (show ((x01.toUInt32 >>> ((6 : Int32) &&& 31).toUInt32).toInt32) = ((x00.toUInt32 >>> ((6 : Int32) &&& 31).toUInt32).toInt32) from q41)).1 (by decide) (by decide) ?_
      refine XS.iinc X26.here hx rfl (hb hby dp22_1_74) rfl (l' := #[sR a1, sR l1, sI 0, sR f0, sI 1, sI 2, sU, sU, sU]) rfl ?_
      refine XS.goto X26.here hx rfl (pc0 := 77) (pc' := 40) rfl (hb hby dp22_1_77) (by decide) (by decide) ?_
      refine XS.iload X26.here hx rfl (hb hby dp22_1_40) rfl ?_
      refine XS.aloadN X26.here hx rfl (hb hby dp22_1_42) rfl rfl ?_
      show Sg p e below (T26.setTop (mkF m 43 #[sR a1, sR l1, sI 0, sR f0, sI 1, sI 2, sU, sU, sU] [(.ref f0), (.int (2 : Int32))])) _
      refine X26.arraylength hx (by rw [e26]; exact Ar42.1) (State.isArrayOf_alike hZ.alike Ar42.2.1) (g := (mkF m 43 #[sR a1, sR l1, sI 0, sR f0, sI 1, sI 2, sU, sU, sU] [(.ref f0), (.int (2 : Int32))])) rfl rfl (hb hby dp22_1_43) _ ?_
      rw [len_of S42 N42]
      show Sg p e below (T26.setTop (mkF m 44 #[sR a1, sR l1, sI 0, sR f0, sI 1, sI 2, sU, sU, sU] [(.int (3 : Int32)), (.int (2 : Int32))])) _
      refine XS.icmpNo X26.here hx rfl (hb hby dp22_1_44) rfl (tlt (show (2 : Int32) < (3 : Int32) from (by decide))).2.1 ?_
      refine XS.iload X26.here hx rfl (hb hby dp22_1_47) rfl ?_
      refine XS.ifNo X26.here hx rfl (hb hby dp22_1_49) rfl ((if0 _ _).trans (feq (show ¬ ((2 : Int32) = (0 : Int32)) from (by decide))).1) ?_
      refine XS.aloadN X26.here hx rfl (hb hby dp22_1_52) rfl rfl ?_
      refine XS.iload X26.here hx rfl (hb hby dp22_1_53) rfl ?_
      show Sg p e below (T26.setTop (mkF m 55 #[sR a1, sR l1, sI 0, sR f0, sI 1, sI 2, sU, sU, sU] [(.int (2 : Int32)), (.ref f0)])) _
      refine X26.iaload hx (j := (2 : Int32)) (v := (.int x02)) (by rw [e26]; exact Ar43.1) (State.isArrayOf_alike hZ.alike Ar43.2.1) Ar43.2.2 hin43 (H43.at hin43 rfl) (g := (mkF m 55 #[sR a1, sR l1, sI 0, sR f0, sI 1, sI 2, sU, sU, sU] [(.int (2 : Int32)), (.ref f0)])) rfl rfl (hb hby dp22_1_55) _ ?_
      show Sg p e below (T26.setTop (mkF m 56 #[sR a1, sR l1, sI 0, sR f0, sI 1, sI 2, sU, sU, sU] [(.int x02)])) _
      refine XS.bipush X26.here hx rfl (hb hby dp22_1_56) ?_
      refine XS.iushr X26.here hx rfl (hb hby dp22_1_58) rfl ?_
      refine XS.aloadN X26.here hx rfl (hb hby dp22_1_59) rfl rfl ?_
      refine XS.iload X26.here hx rfl (hb hby dp22_1_60) rfl ?_
      refine XS.iconst X26.here hx rfl (hb hby dp22_1_62) ?_
      refine XS.isub X26.here hx rfl (hb hby dp22_1_63) rfl ?_
      show Sg p e below (T26.setTop (mkF m 64 #[sR a1, sR l1, sI 0, sR f0, sI 1, sI 2, sU, sU, sU] [(.int (1 : Int32)), (.ref f0), (.int ((x02.toUInt32 >>> ((6 : Int32) &&& 31).toUInt32).toInt32))])) _
      refine X26.iaload hx (j := (1 : Int32)) (v := (.int x01)) (by rw [e26]; exact Ar44.1) (State.isArrayOf_alike hZ.alike Ar44.2.1) Ar44.2.2 hin44 (H44.at hin44 rfl) (g := (mkF m 64 #[sR a1, sR l1, sI 0, sR f0, sI 1, sI 2, sU, sU, sU] [(.int (1 : Int32)), (.ref f0), (.int ((x02.toUInt32 >>> ((6 : Int32) &&& 31).toUInt32).toInt32))])) rfl rfl (hb hby dp22_1_64) _ ?_
      show Sg p e below (T26.setTop (mkF m 65 #[sR a1, sR l1, sI 0, sR f0, sI 1, sI 2, sU, sU, sU] [(.int x01), (.int ((x02.toUInt32 >>> ((6 : Int32) &&& 31).toUInt32).toInt32))])) _
      refine XS.bipush X26.here hx rfl (hb hby dp22_1_65) ?_
      refine XS.iushr X26.here hx rfl (hb hby dp22_1_67) rfl ?_
      show Sg p e below (T26.setTop (mkF m 68 #[sR a1, sR l1, sI 0, sR f0, sI 1, sI 2, sU, sU, sU] [(.int ((x01.toUInt32 >>> ((6 : Int32) &&& 31).toUInt32).toInt32)), (.int ((x02.toUInt32 >>> ((6 : Int32) &&& 31).toUInt32).toInt32))])) _
      exact k)
    by_cases q46 : ((x02.toUInt32 >>> ((6 : Int32) &&& 31).toUInt32).toInt32) = ((x01.toUInt32 >>> ((6 : Int32) &&& 31).toUInt32).toInt32)
    · skip
      obtain ⟨cl47, Ar47, -, S47, N47, -, -⟩ := id f35
      obtain ⟨T48, h48, k48, X48, e48, E48, A48, B48, st48⟩ := newPE X26 hx hZ (own_hw hw 7 rfl) e26 (g := (mkF m 82 #[sR a1, sR l1, sI 0, sR f0, sI 1, sI 3, sU, sU, sU] [(.int (1 : Int32))])) rfl (hb hby dp22_1_82) rfl (by decide) (cap := 1) (by decide) (by decide) (by decide) (by decide) (ad := "[I") (by decide)
      obtain ⟨b48, g48⟩ : ∃ z, z = h26.size := ⟨_, rfl⟩
      rw [← g48] at A48 B48 st48
      have g_b48 : n0 ≤ b48 := Nat.le_trans Z30 (Nat.le_of_eq g48.symm)
      have sz_b48 : h0.size ≤ b48 := Nat.le_trans K31.1 (Nat.le_of_eq g48.symm)
      have P49 : Rg p e below (T48.setTop (mkF m 84 #[sR a1, sR l1, sI 0, sR f0, sI 1, sI 3, sU, sU, sU] [(.ref b48)])) B0 := fun t k => P45 t (by
        refine XS.icmpYes X26.here hx rfl (pc0 := 68) (pc' := 74) rfl (hb hby dp22_1_68) rfl (teq (show ((x02.toUInt32 >>> ((6 : Int32) &&& 31).toUInt32).toInt32) = ((x01.toUInt32 >>> ((6 : Int32) &&& 31).toUInt32).toInt32) from q46)).1 (by decide) (by decide) ?_
        refine XS.iinc X26.here hx rfl (hb hby dp22_1_74) rfl (l' := #[sR a1, sR l1, sI 0, sR f0, sI 1, sI 3, sU, sU, sU]) rfl ?_
        refine XS.goto X26.here hx rfl (pc0 := 77) (pc' := 40) rfl (hb hby dp22_1_77) (by decide) (by decide) ?_
        refine XS.iload X26.here hx rfl (hb hby dp22_1_40) rfl ?_
        refine XS.aloadN X26.here hx rfl (hb hby dp22_1_42) rfl rfl ?_
        show Sg p e below (T26.setTop (mkF m 43 #[sR a1, sR l1, sI 0, sR f0, sI 1, sI 3, sU, sU, sU] [(.ref f0), (.int (3 : Int32))])) _
        refine X26.arraylength hx (by rw [e26]; exact Ar47.1) (State.isArrayOf_alike hZ.alike Ar47.2.1) (g := (mkF m 43 #[sR a1, sR l1, sI 0, sR f0, sI 1, sI 3, sU, sU, sU] [(.ref f0), (.int (3 : Int32))])) rfl rfl (hb hby dp22_1_43) _ ?_
        rw [len_of S47 N47]
        show Sg p e below (T26.setTop (mkF m 44 #[sR a1, sR l1, sI 0, sR f0, sI 1, sI 3, sU, sU, sU] [(.int (3 : Int32)), (.int (3 : Int32))])) _
        refine XS.icmpYes X26.here hx rfl (pc0 := 44) (pc' := 80) rfl (hb hby dp22_1_44) rfl (flt (show ¬ ((3 : Int32) < (3 : Int32)) from (by decide))).2.1 (by decide) (by decide) ?_
        refine XS.iload X26.here hx rfl (hb hby dp22_1_80) rfl ?_
        show Sg p e below (T26.setTop (mkF m 82 #[sR a1, sR l1, sI 0, sR f0, sI 1, sI 3, sU, sU, sU] [(.int (1 : Int32))])) _
        exact st48 _ k)
      have Z50 : n0 ≤ h48.size := Nat.le_trans Z30 E48.1
      have K51 : Keep h0 h48 [a1] := K31.ext E48
      have v52 : Arv Z h48 b48 k48 .int (1 : Int32) [(.int (0 : Int32))] (.int (0 : Int32)) := (Arv.new A48 (by decide)).pad (pad_rep [] (.int (0 : Int32)) 1)
      obtain ⟨T53, h53, k53, X53, e53, E53, A53, B53, st53⟩ := newPE X48 hx hZ (own_hw hw 25 rfl) e48 (g := (mkF m 88 #[sR a1, sR l1, sI 0, sR f0, sI 1, sR b48, sU, sU, sU] [(.int (1 : Int32))])) rfl (hb hby dp22_1_88) rfl (by decide) (cap := 1) (by decide) (by decide) (by decide) (by decide) (ad := "[J") (by decide)
      obtain ⟨b53, g53⟩ : ∃ z, z = h48.size := ⟨_, rfl⟩
      rw [← g53] at A53 B53 st53
      have g_b53 : n0 ≤ b53 := Nat.le_trans Z50 (Nat.le_of_eq g53.symm)
      have sz_b53 : h0.size ≤ b53 := Nat.le_trans K51.1 (Nat.le_of_eq g53.symm)
      have P54 : Rg p e below (T53.setTop (mkF m 90 #[sR a1, sR l1, sI 0, sR f0, sI 1, sR b48, sU, sU, sU] [(.ref b53)])) B0 := fun t k => P49 t (by
        refine XS.astore X48.here hx rfl (hb hby dp22_1_84) rfl rfl (l' := #[sR a1, sR l1, sI 0, sR f0, sI 1, sR b48, sU, sU, sU]) rfl ?_
        refine XS.iload X48.here hx rfl (hb hby dp22_1_86) rfl ?_
        show Sg p e below (T48.setTop (mkF m 88 #[sR a1, sR l1, sI 0, sR f0, sI 1, sR b48, sU, sU, sU] [(.int (1 : Int32))])) _
        exact st53 _ k)
      have Z55 : n0 ≤ h53.size := Nat.le_trans Z50 E53.1
      have K56 : Keep h0 h53 [a1] := K51.ext E53
      have v57 : Arv Z h53 b53 k53 .long (1 : Int32) [(.long (0 : Int64))] (.long (0 : Int64)) := (Arv.new A53 (by decide)).pad (pad_rep [] (.long (0 : Int64)) 1)
      have f58 := ((f35.ext E48).ext E53)
      obtain ⟨cl59, Ar59, -, S59, N59, -, -⟩ := id f58
      obtain ⟨cl60, Ar60, -, S60, N60, H60, -⟩ := id f58
      have hin60 : ¬ ((0 : Int32) < 0 ∨ cl60.slots.size ≤ ((0 : Int32)).toNatClampNeg) := inb_of S60 ⟨by decide, by decide⟩
      have f61 := (v52.ext E53)
      obtain ⟨cl62, Ar62, q62, S62, N62, H62, G62⟩ := id f61
      obtain ⟨T62, h62, X62, e62, W62, st62⟩ := stI X53 hx hZ e53 Ar62 (j := (0 : Int32)) (inb_of S62 ⟨by decide, by decide⟩) (g := (mkF m 143 #[sR a1, sR l1, sI 0, sR f0, sI 1, sR b48, sR b53, sI 0, sI 0] [(.int ((x00.toUInt32 >>> ((6 : Int32) &&& 31).toUInt32).toInt32)), (.int (0 : Int32)), (.ref b48)])) rfl rfl (hb hby dp22_1_143)
      have v63 : Arv Z h62 b48 k48 .int (1 : Int32) [(.int ((x00.toUInt32 >>> ((6 : Int32) &&& 31).toUInt32).toInt32))] (.int (0 : Int32)) := Arv.set Ar62 q62 S62 N62 H62 G62 rfl W62 0 rfl (Nat.le_of_ble_eq_true rfl)
      have P64 : Rg p e below (T62.setTop (mkF m 144 #[sR a1, sR l1, sI 0, sR f0, sI 1, sR b48, sR b53, sI 0, sI 0] [])) B0 := fun t k => P54 t (by
        refine XS.astore X53.here hx rfl (hb hby dp22_1_90) rfl rfl (l' := #[sR a1, sR l1, sI 0, sR f0, sI 1, sR b48, sR b53, sU, sU]) rfl ?_
        refine XS.iconst X53.here hx rfl (hb hby dp22_1_92) ?_
        refine XS.istore X53.here hx rfl (hb hby dp22_1_93) rfl (l' := #[sR a1, sR l1, sI 0, sR f0, sI 1, sR b48, sR b53, sI (-1), sU]) rfl ?_
        refine XS.iconst X53.here hx rfl (hb hby dp22_1_95) ?_
        refine XS.istore X53.here hx rfl (hb hby dp22_1_96) rfl (l' := #[sR a1, sR l1, sI 0, sR f0, sI 1, sR b48, sR b53, sI (-1), sI 0]) rfl ?_
        refine XS.iload X53.here hx rfl (hb hby dp22_1_98) rfl ?_
        refine XS.aloadN X53.here hx rfl (hb hby dp22_1_100) rfl rfl ?_
        show Sg p e below (T53.setTop (mkF m 101 #[sR a1, sR l1, sI 0, sR f0, sI 1, sR b48, sR b53, sI (-1), sI 0] [(.ref f0), (.int (0 : Int32))])) _
        refine X53.arraylength hx (by rw [e53]; exact Ar59.1) (State.isArrayOf_alike hZ.alike Ar59.2.1) (g := (mkF m 101 #[sR a1, sR l1, sI 0, sR f0, sI 1, sR b48, sR b53, sI (-1), sI 0] [(.ref f0), (.int (0 : Int32))])) rfl rfl (hb hby dp22_1_101) _ ?_
        rw [len_of S59 N59]
        show Sg p e below (T53.setTop (mkF m 102 #[sR a1, sR l1, sI 0, sR f0, sI 1, sR b48, sR b53, sI (-1), sI 0] [(.int (3 : Int32)), (.int (0 : Int32))])) _
        refine XS.icmpNo X53.here hx rfl (hb hby dp22_1_102) rfl (tlt (show (0 : Int32) < (3 : Int32) from (by decide))).2.1 ?_
        refine XS.iload X53.here hx rfl (hb hby dp22_1_105) rfl ?_
        refine XS.ifYes X53.here hx rfl (pc0 := 107) (pc' := 129) rfl (hb hby dp22_1_107) rfl ((if0 _ _).trans (teq (show (0 : Int32) = (0 : Int32) from (by decide))).1) (by decide) (by decide) ?_
        refine XS.aload X53.here hx rfl (hb hby dp22_1_129) rfl rfl ?_
        refine XS.iinc X53.here hx rfl (hb hby dp22_1_131) rfl (l' := #[sR a1, sR l1, sI 0, sR f0, sI 1, sR b48, sR b53, sI 0, sI 0]) rfl ?_
        refine XS.iload X53.here hx rfl (hb hby dp22_1_134) rfl ?_
        refine XS.aloadN X53.here hx rfl (hb hby dp22_1_136) rfl rfl ?_
        refine XS.iload X53.here hx rfl (hb hby dp22_1_137) rfl ?_
        show Sg p e below (T53.setTop (mkF m 139 #[sR a1, sR l1, sI 0, sR f0, sI 1, sR b48, sR b53, sI 0, sI 0] [(.int (0 : Int32)), (.ref f0), (.int (0 : Int32)), (.ref b48)])) _
        refine X53.iaload hx (j := (0 : Int32)) (v := (.int x00)) (by rw [e53]; exact Ar60.1) (State.isArrayOf_alike hZ.alike Ar60.2.1) Ar60.2.2 hin60 (H60.at hin60 rfl) (g := (mkF m 139 #[sR a1, sR l1, sI 0, sR f0, sI 1, sR b48, sR b53, sI 0, sI 0] [(.int (0 : Int32)), (.ref f0), (.int (0 : Int32)), (.ref b48)])) rfl rfl (hb hby dp22_1_139) _ ?_
        show Sg p e below (T53.setTop (mkF m 140 #[sR a1, sR l1, sI 0, sR f0, sI 1, sR b48, sR b53, sI 0, sI 0] [(.int x00), (.int (0 : Int32)), (.ref b48)])) _
        refine XS.bipush X53.here hx rfl (hb hby dp22_1_140) ?_
        refine XS.iushr X53.here hx rfl (hb hby dp22_1_142) rfl ?_
        show Sg p e below (T53.setTop (mkF m 143 #[sR a1, sR l1, sI 0, sR f0, sI 1, sR b48, sR b53, sI 0, sI 0] [(.int ((x00.toUInt32 >>> ((6 : Int32) &&& 31).toUInt32).toInt32)), (.int (0 : Int32)), (.ref b48)])) _
        exact st62 _ k)
      have N65 := Fr.snoc X62 N29 g_b48
      have Z66 : n0 ≤ h62.size := Nat.le_trans Z55 (Keep.of_wr W62).1
      have K67 : Keep h0 h62 [a1] := K56.wr W62 (Or.inr sz_b48)
      have f68 := (v57.other W62 (Ne.symm (Nat.ne_of_lt (Nat.lt_of_lt_of_le B48.lt (Nat.le_of_eq g53.symm)))))
      obtain ⟨cl69, Ar69, -, S69, N69, H69, -⟩ := id f68
      have hin69 : ¬ ((0 : Int32) < 0 ∨ cl69.slots.size ≤ ((0 : Int32)).toNatClampNeg) := inb_of S69 ⟨by decide, by decide⟩
      have f70 := (f58.other W62 (Nat.ne_of_lt (Nat.lt_of_lt_of_le f35.lt (Nat.le_of_eq g48.symm))))
      obtain ⟨cl71, Ar71, -, S71, N71, H71, -⟩ := id f70
      have hin71 : ¬ ((0 : Int32) < 0 ∨ cl71.slots.size ≤ ((0 : Int32)).toNatClampNeg) := inb_of S71 ⟨by decide, by decide⟩
      obtain ⟨cl72, Ar72, q72, S72, N72, H72, G72⟩ := id f68
      obtain ⟨T72, h72, X72, e72, W72, st72⟩ := stJ X62 hx hZ e62 Ar72 (j := (0 : Int32)) (inb_of S72 ⟨by decide, by decide⟩) (g := (mkF m 157 #[sR a1, sR l1, sI 0, sR f0, sI 1, sR b48, sR b53, sI 0, sI 0] [(.long ((0 : Int64) ||| ((1 : Int64) <<< (x00 &&& 0x3f).toInt64))), (.int (0 : Int32)), (.ref b53)])) rfl rfl (hb hby dp22_1_157)
      have v73 : Arv Z h72 b53 k53 .long (1 : Int32) [(.long ((0 : Int64) ||| ((1 : Int64) <<< (x00 &&& 0x3f).toInt64)))] (.long (0 : Int64)) := Arv.set Ar72 q72 S72 N72 H72 G72 rfl W72 0 rfl (Nat.le_of_ble_eq_true rfl)
      have P74 : Rg p e below (T72.setTop (mkF m 158 #[sR a1, sR l1, sI 0, sR f0, sI 1, sR b48, sR b53, sI 0, sI 0] [])) B0 := fun t k => P64 t (by
        refine XS.aload X62.here hx rfl (hb hby dp22_1_144) rfl rfl ?_
        refine XS.iload X62.here hx rfl (hb hby dp22_1_146) rfl ?_
        refine XT.dup2 X62.here hx rfl (hb hby dp22_1_148) rfl rfl rfl ?_
        show Sg p e below (T62.setTop (mkF m 149 #[sR a1, sR l1, sI 0, sR f0, sI 1, sR b48, sR b53, sI 0, sI 0] [(.int (0 : Int32)), (.ref b53), (.int (0 : Int32)), (.ref b53)])) _
        refine X62.laload hx (j := (0 : Int32)) (v := (.long (0 : Int64))) (by rw [e62]; exact Ar69.1) (State.isArrayOf_alike hZ.alike Ar69.2.1) Ar69.2.2 hin69 (H69.at hin69 rfl) (g := (mkF m 149 #[sR a1, sR l1, sI 0, sR f0, sI 1, sR b48, sR b53, sI 0, sI 0] [(.int (0 : Int32)), (.ref b53), (.int (0 : Int32)), (.ref b53)])) rfl rfl (hb hby dp22_1_149) _ ?_
        show Sg p e below (T62.setTop (mkF m 150 #[sR a1, sR l1, sI 0, sR f0, sI 1, sR b48, sR b53, sI 0, sI 0] [(.long (0 : Int64)), (.int (0 : Int32)), (.ref b53)])) _
        refine XS.lconst X62.here hx rfl (hb hby dp22_1_150) ?_
        refine XS.aloadN X62.here hx rfl (hb hby dp22_1_151) rfl rfl ?_
        refine XS.iload X62.here hx rfl (hb hby dp22_1_152) rfl ?_
        show Sg p e below (T62.setTop (mkF m 154 #[sR a1, sR l1, sI 0, sR f0, sI 1, sR b48, sR b53, sI 0, sI 0] [(.int (0 : Int32)), (.ref f0), (.long (1 : Int64)), (.long (0 : Int64)), (.int (0 : Int32)), (.ref b53)])) _
        refine X62.iaload hx (j := (0 : Int32)) (v := (.int x00)) (by rw [e62]; exact Ar71.1) (State.isArrayOf_alike hZ.alike Ar71.2.1) Ar71.2.2 hin71 (H71.at hin71 rfl) (g := (mkF m 154 #[sR a1, sR l1, sI 0, sR f0, sI 1, sR b48, sR b53, sI 0, sI 0] [(.int (0 : Int32)), (.ref f0), (.long (1 : Int64)), (.long (0 : Int64)), (.int (0 : Int32)), (.ref b53)])) rfl rfl (hb hby dp22_1_154) _ ?_
        show Sg p e below (T62.setTop (mkF m 155 #[sR a1, sR l1, sI 0, sR f0, sI 1, sR b48, sR b53, sI 0, sI 0] [(.int x00), (.long (1 : Int64)), (.long (0 : Int64)), (.int (0 : Int32)), (.ref b53)])) _
        refine XS.lshl X62.here hx rfl (hb hby dp22_1_155) rfl ?_
        refine XS.lor X62.here hx rfl (hb hby dp22_1_156) rfl ?_
        show Sg p e below (T62.setTop (mkF m 157 #[sR a1, sR l1, sI 0, sR f0, sI 1, sR b48, sR b53, sI 0, sI 0] [(.long ((0 : Int64) ||| ((1 : Int64) <<< (x00 &&& 0x3f).toInt64))), (.int (0 : Int32)), (.ref b53)])) _
        exact st72 _ k)
      have N75 := Fr.snoc X72 N65 g_b53
      have Z76 : n0 ≤ h72.size := Nat.le_trans Z66 (Keep.of_wr W72).1
      have K77 : Keep h0 h72 [a1] := K67.wr W72 (Or.inr sz_b53)
      have f78 := (f70.other W72 (Nat.ne_of_lt (Nat.lt_of_lt_of_le (f35.ext E48).lt (Nat.le_of_eq g53.symm))))
      obtain ⟨cl79, Ar79, -, S79, N79, -, -⟩ := id f78
      obtain ⟨cl80, Ar80, -, S80, N80, H80, -⟩ := id f78
      have hin80 : ¬ ((1 : Int32) < 0 ∨ cl80.slots.size ≤ ((1 : Int32)).toNatClampNeg) := inb_of S80 ⟨by decide, by decide⟩
      obtain ⟨cl81, Ar81, -, S81, N81, H81, -⟩ := id f78
      have hin81 : ¬ ((0 : Int32) < 0 ∨ cl81.slots.size ≤ ((0 : Int32)).toNatClampNeg) := inb_of S81 ⟨by decide, by decide⟩
      obtain ⟨cl82, Ar82, -, S82, N82, H82, -⟩ := id v73
      have hin82 : ¬ ((0 : Int32) < 0 ∨ cl82.slots.size ≤ ((0 : Int32)).toNatClampNeg) := inb_of S82 ⟨by decide, by decide⟩
      obtain ⟨cl83, Ar83, -, S83, N83, H83, -⟩ := id f78
      have hin83 : ¬ ((1 : Int32) < 0 ∨ cl83.slots.size ≤ ((1 : Int32)).toNatClampNeg) := inb_of S83 ⟨by decide, by decide⟩
      obtain ⟨cl84, Ar84, q84, S84, N84, H84, G84⟩ := id v73
      obtain ⟨T84, h84, X84, e84, W84, st84⟩ := stJ X72 hx hZ e72 Ar84 (j := (0 : Int32)) (inb_of S84 ⟨by decide, by decide⟩) (g := (mkF m 157 #[sR a1, sR l1, sI 0, sR f0, sI 1, sR b48, sR b53, sI 0, sI 1] [(.long (((0 : Int64) ||| ((1 : Int64) <<< (x00 &&& 0x3f).toInt64)) ||| ((1 : Int64) <<< (x01 &&& 0x3f).toInt64))), (.int (0 : Int32)), (.ref b53)])) rfl rfl (hb hby dp22_1_157)
      have v85 : Arv Z h84 b53 k53 .long (1 : Int32) [(.long (((0 : Int64) ||| ((1 : Int64) <<< (x00 &&& 0x3f).toInt64)) ||| ((1 : Int64) <<< (x01 &&& 0x3f).toInt64)))] (.long (0 : Int64)) := Arv.set Ar84 q84 S84 N84 H84 G84 rfl W84 0 rfl (Nat.le_of_ble_eq_true rfl)
      have P86 : Rg p e below (T84.setTop (mkF m 158 #[sR a1, sR l1, sI 0, sR f0, sI 1, sR b48, sR b53, sI 0, sI 1] [])) B0 := fun t k => P74 t (by
        refine XS.iinc X72.here hx rfl (hb hby dp22_1_158) rfl (l' := #[sR a1, sR l1, sI 0, sR f0, sI 1, sR b48, sR b53, sI 0, sI 1]) rfl ?_
        refine XS.goto X72.here hx rfl (pc0 := 161) (pc' := 98) rfl (hb hby dp22_1_161) (by decide) (by decide) ?_
        refine XS.iload X72.here hx rfl (hb hby dp22_1_98) rfl ?_
        refine XS.aloadN X72.here hx rfl (hb hby dp22_1_100) rfl rfl ?_
        show Sg p e below (T72.setTop (mkF m 101 #[sR a1, sR l1, sI 0, sR f0, sI 1, sR b48, sR b53, sI 0, sI 1] [(.ref f0), (.int (1 : Int32))])) _
        refine X72.arraylength hx (by rw [e72]; exact Ar79.1) (State.isArrayOf_alike hZ.alike Ar79.2.1) (g := (mkF m 101 #[sR a1, sR l1, sI 0, sR f0, sI 1, sR b48, sR b53, sI 0, sI 1] [(.ref f0), (.int (1 : Int32))])) rfl rfl (hb hby dp22_1_101) _ ?_
        rw [len_of S79 N79]
        show Sg p e below (T72.setTop (mkF m 102 #[sR a1, sR l1, sI 0, sR f0, sI 1, sR b48, sR b53, sI 0, sI 1] [(.int (3 : Int32)), (.int (1 : Int32))])) _
        refine XS.icmpNo X72.here hx rfl (hb hby dp22_1_102) rfl (tlt (show (1 : Int32) < (3 : Int32) from (by decide))).2.1 ?_
        refine XS.iload X72.here hx rfl (hb hby dp22_1_105) rfl ?_
        refine XS.ifNo X72.here hx rfl (hb hby dp22_1_107) rfl ((if0 _ _).trans (feq (show ¬ ((1 : Int32) = (0 : Int32)) from (by decide))).1) ?_
        refine XS.aloadN X72.here hx rfl (hb hby dp22_1_110) rfl rfl ?_
        refine XS.iload X72.here hx rfl (hb hby dp22_1_111) rfl ?_
        show Sg p e below (T72.setTop (mkF m 113 #[sR a1, sR l1, sI 0, sR f0, sI 1, sR b48, sR b53, sI 0, sI 1] [(.int (1 : Int32)), (.ref f0)])) _
        refine X72.iaload hx (j := (1 : Int32)) (v := (.int x01)) (by rw [e72]; exact Ar80.1) (State.isArrayOf_alike hZ.alike Ar80.2.1) Ar80.2.2 hin80 (H80.at hin80 rfl) (g := (mkF m 113 #[sR a1, sR l1, sI 0, sR f0, sI 1, sR b48, sR b53, sI 0, sI 1] [(.int (1 : Int32)), (.ref f0)])) rfl rfl (hb hby dp22_1_113) _ ?_
        show Sg p e below (T72.setTop (mkF m 114 #[sR a1, sR l1, sI 0, sR f0, sI 1, sR b48, sR b53, sI 0, sI 1] [(.int x01)])) _
        refine XS.bipush X72.here hx rfl (hb hby dp22_1_114) ?_
        refine XS.iushr X72.here hx rfl (hb hby dp22_1_116) rfl ?_
        refine XS.aloadN X72.here hx rfl (hb hby dp22_1_117) rfl rfl ?_
        refine XS.iload X72.here hx rfl (hb hby dp22_1_118) rfl ?_
        refine XS.iconst X72.here hx rfl (hb hby dp22_1_120) ?_
        refine XS.isub X72.here hx rfl (hb hby dp22_1_121) rfl ?_
        show Sg p e below (T72.setTop (mkF m 122 #[sR a1, sR l1, sI 0, sR f0, sI 1, sR b48, sR b53, sI 0, sI 1] [(.int (0 : Int32)), (.ref f0), (.int ((x01.toUInt32 >>> ((6 : Int32) &&& 31).toUInt32).toInt32))])) _
        refine X72.iaload hx (j := (0 : Int32)) (v := (.int x00)) (by rw [e72]; exact Ar81.1) (State.isArrayOf_alike hZ.alike Ar81.2.1) Ar81.2.2 hin81 (H81.at hin81 rfl) (g := (mkF m 122 #[sR a1, sR l1, sI 0, sR f0, sI 1, sR b48, sR b53, sI 0, sI 1] [(.int (0 : Int32)), (.ref f0), (.int ((x01.toUInt32 >>> ((6 : Int32) &&& 31).toUInt32).toInt32))])) rfl rfl (hb hby dp22_1_122) _ ?_
        show Sg p e below (T72.setTop (mkF m 123 #[sR a1, sR l1, sI 0, sR f0, sI 1, sR b48, sR b53, sI 0, sI 1] [(.int x00), (.int ((x01.toUInt32 >>> ((6 : Int32) &&& 31).toUInt32).toInt32))])) _
        refine XS.bipush X72.here hx rfl (hb hby dp22_1_123) ?_
        refine XS.iushr X72.here hx rfl (hb hby dp22_1_125) rfl ?_
        refine XS.icmpYes X72.here hx rfl (pc0 := 126) (pc' := 144) rfl (hb hby dp22_1_126) rfl (teq (show ((x01.toUInt32 >>> ((6 : Int32) &&& 31).toUInt32).toInt32) = ((x00.toUInt32 >>> ((6 : Int32) &&& 31).toUInt32).toInt32) from q41)).1 (by decide) (by decide) ?_
        refine XS.aload X72.here hx rfl (hb hby dp22_1_144) rfl rfl ?_
        refine XS.iload X72.here hx rfl (hb hby dp22_1_146) rfl ?_
        refine XT.dup2 X72.here hx rfl (hb hby dp22_1_148) rfl rfl rfl ?_
        show Sg p e below (T72.setTop (mkF m 149 #[sR a1, sR l1, sI 0, sR f0, sI 1, sR b48, sR b53, sI 0, sI 1] [(.int (0 : Int32)), (.ref b53), (.int (0 : Int32)), (.ref b53)])) _
        refine X72.laload hx (j := (0 : Int32)) (v := (.long ((0 : Int64) ||| ((1 : Int64) <<< (x00 &&& 0x3f).toInt64)))) (by rw [e72]; exact Ar82.1) (State.isArrayOf_alike hZ.alike Ar82.2.1) Ar82.2.2 hin82 (H82.at hin82 rfl) (g := (mkF m 149 #[sR a1, sR l1, sI 0, sR f0, sI 1, sR b48, sR b53, sI 0, sI 1] [(.int (0 : Int32)), (.ref b53), (.int (0 : Int32)), (.ref b53)])) rfl rfl (hb hby dp22_1_149) _ ?_
        show Sg p e below (T72.setTop (mkF m 150 #[sR a1, sR l1, sI 0, sR f0, sI 1, sR b48, sR b53, sI 0, sI 1] [(.long ((0 : Int64) ||| ((1 : Int64) <<< (x00 &&& 0x3f).toInt64))), (.int (0 : Int32)), (.ref b53)])) _
        refine XS.lconst X72.here hx rfl (hb hby dp22_1_150) ?_
        refine XS.aloadN X72.here hx rfl (hb hby dp22_1_151) rfl rfl ?_
        refine XS.iload X72.here hx rfl (hb hby dp22_1_152) rfl ?_
        show Sg p e below (T72.setTop (mkF m 154 #[sR a1, sR l1, sI 0, sR f0, sI 1, sR b48, sR b53, sI 0, sI 1] [(.int (1 : Int32)), (.ref f0), (.long (1 : Int64)), (.long ((0 : Int64) ||| ((1 : Int64) <<< (x00 &&& 0x3f).toInt64))), (.int (0 : Int32)), (.ref b53)])) _
        refine X72.iaload hx (j := (1 : Int32)) (v := (.int x01)) (by rw [e72]; exact Ar83.1) (State.isArrayOf_alike hZ.alike Ar83.2.1) Ar83.2.2 hin83 (H83.at hin83 rfl) (g := (mkF m 154 #[sR a1, sR l1, sI 0, sR f0, sI 1, sR b48, sR b53, sI 0, sI 1] [(.int (1 : Int32)), (.ref f0), (.long (1 : Int64)), (.long ((0 : Int64) ||| ((1 : Int64) <<< (x00 &&& 0x3f).toInt64))), (.int (0 : Int32)), (.ref b53)])) rfl rfl (hb hby dp22_1_154) _ ?_
        show Sg p e below (T72.setTop (mkF m 155 #[sR a1, sR l1, sI 0, sR f0, sI 1, sR b48, sR b53, sI 0, sI 1] [(.int x01), (.long (1 : Int64)), (.long ((0 : Int64) ||| ((1 : Int64) <<< (x00 &&& 0x3f).toInt64))), (.int (0 : Int32)), (.ref b53)])) _
        refine XS.lshl X72.here hx rfl (hb hby dp22_1_155) rfl ?_
        refine XS.lor X72.here hx rfl (hb hby dp22_1_156) rfl ?_
        show Sg p e below (T72.setTop (mkF m 157 #[sR a1, sR l1, sI 0, sR f0, sI 1, sR b48, sR b53, sI 0, sI 1] [(.long (((0 : Int64) ||| ((1 : Int64) <<< (x00 &&& 0x3f).toInt64)) ||| ((1 : Int64) <<< (x01 &&& 0x3f).toInt64))), (.int (0 : Int32)), (.ref b53)])) _
        exact st84 _ k)
      have N87 := Fr.snoc X84 N75 g_b53
      have Z88 : n0 ≤ h84.size := Nat.le_trans Z76 (Keep.of_wr W84).1
      have K89 : Keep h0 h84 [a1] := K77.wr W84 (Or.inr sz_b53)
      have f90 := (f78.other W84 (Nat.ne_of_lt (Nat.lt_of_lt_of_le (f35.ext E48).lt (Nat.le_of_eq g53.symm))))
      obtain ⟨cl91, Ar91, -, S91, N91, -, -⟩ := id f90
      obtain ⟨cl92, Ar92, -, S92, N92, H92, -⟩ := id f90
      have hin92 : ¬ ((2 : Int32) < 0 ∨ cl92.slots.size ≤ ((2 : Int32)).toNatClampNeg) := inb_of S92 ⟨by decide, by decide⟩
      obtain ⟨cl93, Ar93, -, S93, N93, H93, -⟩ := id f90
      have hin93 : ¬ ((1 : Int32) < 0 ∨ cl93.slots.size ≤ ((1 : Int32)).toNatClampNeg) := inb_of S93 ⟨by decide, by decide⟩
      obtain ⟨cl94, Ar94, -, S94, N94, H94, -⟩ := id v85
      have hin94 : ¬ ((0 : Int32) < 0 ∨ cl94.slots.size ≤ ((0 : Int32)).toNatClampNeg) := inb_of S94 ⟨by decide, by decide⟩
      obtain ⟨cl95, Ar95, -, S95, N95, H95, -⟩ := id f90
      have hin95 : ¬ ((2 : Int32) < 0 ∨ cl95.slots.size ≤ ((2 : Int32)).toNatClampNeg) := inb_of S95 ⟨by decide, by decide⟩
      obtain ⟨cl96, Ar96, q96, S96, N96, H96, G96⟩ := id v85
      obtain ⟨T96, h96, X96, e96, W96, st96⟩ := stJ X84 hx hZ e84 Ar96 (j := (0 : Int32)) (inb_of S96 ⟨by decide, by decide⟩) (g := (mkF m 157 #[sR a1, sR l1, sI 0, sR f0, sI 1, sR b48, sR b53, sI 0, sI 2] [(.long ((((0 : Int64) ||| ((1 : Int64) <<< (x00 &&& 0x3f).toInt64)) ||| ((1 : Int64) <<< (x01 &&& 0x3f).toInt64)) ||| ((1 : Int64) <<< (x02 &&& 0x3f).toInt64))), (.int (0 : Int32)), (.ref b53)])) rfl rfl (hb hby dp22_1_157)
      have v97 : Arv Z h96 b53 k53 .long (1 : Int32) [(.long ((((0 : Int64) ||| ((1 : Int64) <<< (x00 &&& 0x3f).toInt64)) ||| ((1 : Int64) <<< (x01 &&& 0x3f).toInt64)) ||| ((1 : Int64) <<< (x02 &&& 0x3f).toInt64)))] (.long (0 : Int64)) := Arv.set Ar96 q96 S96 N96 H96 G96 rfl W96 0 rfl (Nat.le_of_ble_eq_true rfl)
      have P98 : Rg p e below (T96.setTop (mkF m 158 #[sR a1, sR l1, sI 0, sR f0, sI 1, sR b48, sR b53, sI 0, sI 2] [])) B0 := fun t k => P86 t (by
        refine XS.iinc X84.here hx rfl (hb hby dp22_1_158) rfl (l' := #[sR a1, sR l1, sI 0, sR f0, sI 1, sR b48, sR b53, sI 0, sI 2]) rfl ?_
        refine XS.goto X84.here hx rfl (pc0 := 161) (pc' := 98) rfl (hb hby dp22_1_161) (by decide) (by decide) ?_
        refine XS.iload X84.here hx rfl (hb hby dp22_1_98) rfl ?_
        refine XS.aloadN X84.here hx rfl (hb hby dp22_1_100) rfl rfl ?_
        show Sg p e below (T84.setTop (mkF m 101 #[sR a1, sR l1, sI 0, sR f0, sI 1, sR b48, sR b53, sI 0, sI 2] [(.ref f0), (.int (2 : Int32))])) _
        refine X84.arraylength hx (by rw [e84]; exact Ar91.1) (State.isArrayOf_alike hZ.alike Ar91.2.1) (g := (mkF m 101 #[sR a1, sR l1, sI 0, sR f0, sI 1, sR b48, sR b53, sI 0, sI 2] [(.ref f0), (.int (2 : Int32))])) rfl rfl (hb hby dp22_1_101) _ ?_
        rw [len_of S91 N91]
        show Sg p e below (T84.setTop (mkF m 102 #[sR a1, sR l1, sI 0, sR f0, sI 1, sR b48, sR b53, sI 0, sI 2] [(.int (3 : Int32)), (.int (2 : Int32))])) _
        refine XS.icmpNo X84.here hx rfl (hb hby dp22_1_102) rfl (tlt (show (2 : Int32) < (3 : Int32) from (by decide))).2.1 ?_
        refine XS.iload X84.here hx rfl (hb hby dp22_1_105) rfl ?_
        refine XS.ifNo X84.here hx rfl (hb hby dp22_1_107) rfl ((if0 _ _).trans (feq (show ¬ ((2 : Int32) = (0 : Int32)) from (by decide))).1) ?_
        refine XS.aloadN X84.here hx rfl (hb hby dp22_1_110) rfl rfl ?_
        refine XS.iload X84.here hx rfl (hb hby dp22_1_111) rfl ?_
        show Sg p e below (T84.setTop (mkF m 113 #[sR a1, sR l1, sI 0, sR f0, sI 1, sR b48, sR b53, sI 0, sI 2] [(.int (2 : Int32)), (.ref f0)])) _
        refine X84.iaload hx (j := (2 : Int32)) (v := (.int x02)) (by rw [e84]; exact Ar92.1) (State.isArrayOf_alike hZ.alike Ar92.2.1) Ar92.2.2 hin92 (H92.at hin92 rfl) (g := (mkF m 113 #[sR a1, sR l1, sI 0, sR f0, sI 1, sR b48, sR b53, sI 0, sI 2] [(.int (2 : Int32)), (.ref f0)])) rfl rfl (hb hby dp22_1_113) _ ?_
        show Sg p e below (T84.setTop (mkF m 114 #[sR a1, sR l1, sI 0, sR f0, sI 1, sR b48, sR b53, sI 0, sI 2] [(.int x02)])) _
        refine XS.bipush X84.here hx rfl (hb hby dp22_1_114) ?_
        refine XS.iushr X84.here hx rfl (hb hby dp22_1_116) rfl ?_
        refine XS.aloadN X84.here hx rfl (hb hby dp22_1_117) rfl rfl ?_
        refine XS.iload X84.here hx rfl (hb hby dp22_1_118) rfl ?_
        refine XS.iconst X84.here hx rfl (hb hby dp22_1_120) ?_
        refine XS.isub X84.here hx rfl (hb hby dp22_1_121) rfl ?_
        show Sg p e below (T84.setTop (mkF m 122 #[sR a1, sR l1, sI 0, sR f0, sI 1, sR b48, sR b53, sI 0, sI 2] [(.int (1 : Int32)), (.ref f0), (.int ((x02.toUInt32 >>> ((6 : Int32) &&& 31).toUInt32).toInt32))])) _
        refine X84.iaload hx (j := (1 : Int32)) (v := (.int x01)) (by rw [e84]; exact Ar93.1) (State.isArrayOf_alike hZ.alike Ar93.2.1) Ar93.2.2 hin93 (H93.at hin93 rfl) (g := (mkF m 122 #[sR a1, sR l1, sI 0, sR f0, sI 1, sR b48, sR b53, sI 0, sI 2] [(.int (1 : Int32)), (.ref f0), (.int ((x02.toUInt32 >>> ((6 : Int32) &&& 31).toUInt32).toInt32))])) rfl rfl (hb hby dp22_1_122) _ ?_
        show Sg p e below (T84.setTop (mkF m 123 #[sR a1, sR l1, sI 0, sR f0, sI 1, sR b48, sR b53, sI 0, sI 2] [(.int x01), (.int ((x02.toUInt32 >>> ((6 : Int32) &&& 31).toUInt32).toInt32))])) _
        refine XS.bipush X84.here hx rfl (hb hby dp22_1_123) ?_
        refine XS.iushr X84.here hx rfl (hb hby dp22_1_125) rfl ?_
        refine XS.icmpYes X84.here hx rfl (pc0 := 126) (pc' := 144) rfl (hb hby dp22_1_126) rfl (teq (show ((x02.toUInt32 >>> ((6 : Int32) &&& 31).toUInt32).toInt32) = ((x01.toUInt32 >>> ((6 : Int32) &&& 31).toUInt32).toInt32) from q46)).1 (by decide) (by decide) ?_
        refine XS.aload X84.here hx rfl (hb hby dp22_1_144) rfl rfl ?_
        refine XS.iload X84.here hx rfl (hb hby dp22_1_146) rfl ?_
        refine XT.dup2 X84.here hx rfl (hb hby dp22_1_148) rfl rfl rfl ?_
        show Sg p e below (T84.setTop (mkF m 149 #[sR a1, sR l1, sI 0, sR f0, sI 1, sR b48, sR b53, sI 0, sI 2] [(.int (0 : Int32)), (.ref b53), (.int (0 : Int32)), (.ref b53)])) _
        refine X84.laload hx (j := (0 : Int32)) (v := (.long (((0 : Int64) ||| ((1 : Int64) <<< (x00 &&& 0x3f).toInt64)) ||| ((1 : Int64) <<< (x01 &&& 0x3f).toInt64)))) (by rw [e84]; exact Ar94.1) (State.isArrayOf_alike hZ.alike Ar94.2.1) Ar94.2.2 hin94 (H94.at hin94 rfl) (g := (mkF m 149 #[sR a1, sR l1, sI 0, sR f0, sI 1, sR b48, sR b53, sI 0, sI 2] [(.int (0 : Int32)), (.ref b53), (.int (0 : Int32)), (.ref b53)])) rfl rfl (hb hby dp22_1_149) _ ?_
        show Sg p e below (T84.setTop (mkF m 150 #[sR a1, sR l1, sI 0, sR f0, sI 1, sR b48, sR b53, sI 0, sI 2] [(.long (((0 : Int64) ||| ((1 : Int64) <<< (x00 &&& 0x3f).toInt64)) ||| ((1 : Int64) <<< (x01 &&& 0x3f).toInt64))), (.int (0 : Int32)), (.ref b53)])) _
        refine XS.lconst X84.here hx rfl (hb hby dp22_1_150) ?_
        refine XS.aloadN X84.here hx rfl (hb hby dp22_1_151) rfl rfl ?_
        refine XS.iload X84.here hx rfl (hb hby dp22_1_152) rfl ?_
        show Sg p e below (T84.setTop (mkF m 154 #[sR a1, sR l1, sI 0, sR f0, sI 1, sR b48, sR b53, sI 0, sI 2] [(.int (2 : Int32)), (.ref f0), (.long (1 : Int64)), (.long (((0 : Int64) ||| ((1 : Int64) <<< (x00 &&& 0x3f).toInt64)) ||| ((1 : Int64) <<< (x01 &&& 0x3f).toInt64))), (.int (0 : Int32)), (.ref b53)])) _
        refine X84.iaload hx (j := (2 : Int32)) (v := (.int x02)) (by rw [e84]; exact Ar95.1) (State.isArrayOf_alike hZ.alike Ar95.2.1) Ar95.2.2 hin95 (H95.at hin95 rfl) (g := (mkF m 154 #[sR a1, sR l1, sI 0, sR f0, sI 1, sR b48, sR b53, sI 0, sI 2] [(.int (2 : Int32)), (.ref f0), (.long (1 : Int64)), (.long (((0 : Int64) ||| ((1 : Int64) <<< (x00 &&& 0x3f).toInt64)) ||| ((1 : Int64) <<< (x01 &&& 0x3f).toInt64))), (.int (0 : Int32)), (.ref b53)])) rfl rfl (hb hby dp22_1_154) _ ?_
        show Sg p e below (T84.setTop (mkF m 155 #[sR a1, sR l1, sI 0, sR f0, sI 1, sR b48, sR b53, sI 0, sI 2] [(.int x02), (.long (1 : Int64)), (.long (((0 : Int64) ||| ((1 : Int64) <<< (x00 &&& 0x3f).toInt64)) ||| ((1 : Int64) <<< (x01 &&& 0x3f).toInt64))), (.int (0 : Int32)), (.ref b53)])) _
        refine XS.lshl X84.here hx rfl (hb hby dp22_1_155) rfl ?_
        refine XS.lor X84.here hx rfl (hb hby dp22_1_156) rfl ?_
        show Sg p e below (T84.setTop (mkF m 157 #[sR a1, sR l1, sI 0, sR f0, sI 1, sR b48, sR b53, sI 0, sI 2] [(.long ((((0 : Int64) ||| ((1 : Int64) <<< (x00 &&& 0x3f).toInt64)) ||| ((1 : Int64) <<< (x01 &&& 0x3f).toInt64)) ||| ((1 : Int64) <<< (x02 &&& 0x3f).toInt64))), (.int (0 : Int32)), (.ref b53)])) _
        exact st96 _ k)
      have N99 := Fr.snoc X96 N87 g_b53
      have Z100 : n0 ≤ h96.size := Nat.le_trans Z88 (Keep.of_wr W96).1
      have K101 : Keep h0 h96 [a1] := K89.wr W96 (Or.inr sz_b53)
      have f102 := (f90.other W96 (Nat.ne_of_lt (Nat.lt_of_lt_of_le (f35.ext E48).lt (Nat.le_of_eq g53.symm))))
      obtain ⟨cl103, Ar103, -, S103, N103, -, -⟩ := id f102
      have f104 := ((((((((f13.ext E19).other W26 (Or.inr (slot_ne (Or.inr (own_hw hw 20 rfl)) (Or.inr (own_hw hw 24 rfl)) (by decide) (t := (.array (.array .int))) (t' := (.array (.array .long))) (by decide) (by decide)))).ext E48).ext E53).other W62 (Or.inl (Nat.ne_of_lt (Nat.lt_of_lt_of_le f28.lt (Nat.le_of_eq g48.symm))))).other W72 (Or.inl (Nat.ne_of_lt (Nat.lt_of_lt_of_le (f28.ext E48).lt (Nat.le_of_eq g53.symm))))).other W84 (Or.inl (Nat.ne_of_lt (Nat.lt_of_lt_of_le (f28.ext E48).lt (Nat.le_of_eq g53.symm))))).other W96 (Or.inl (Nat.ne_of_lt (Nat.lt_of_lt_of_le (f28.ext E48).lt (Nat.le_of_eq g53.symm)))))
      obtain ⟨T105, X105, e105, st105⟩ := getF X96 hx hZ hown (host := "") (Or.inl (own_hw hw 19 rfl)) Via.refl e96 f104 (g := (mkF m 165 #[sR a1, sR l1, sI 0, sR f0, sI 1, sR b48, sR b53, sI 0, sI 3] [(.ref a1)])) rfl rfl (hb hby dp22_1_165)
      have P106 : Rg p e below (T105.setTop (mkF m 168 #[sR a1, sR l1, sI 0, sR f0, sI 1, sR b48, sR b53, sI 0, sI 3] [(.ref b4)])) B0 := fun t k => P98 t (by
        refine XS.iinc X96.here hx rfl (hb hby dp22_1_158) rfl (l' := #[sR a1, sR l1, sI 0, sR f0, sI 1, sR b48, sR b53, sI 0, sI 3]) rfl ?_
        refine XS.goto X96.here hx rfl (pc0 := 161) (pc' := 98) rfl (hb hby dp22_1_161) (by decide) (by decide) ?_
        refine XS.iload X96.here hx rfl (hb hby dp22_1_98) rfl ?_
        refine XS.aloadN X96.here hx rfl (hb hby dp22_1_100) rfl rfl ?_
        show Sg p e below (T96.setTop (mkF m 101 #[sR a1, sR l1, sI 0, sR f0, sI 1, sR b48, sR b53, sI 0, sI 3] [(.ref f0), (.int (3 : Int32))])) _
        refine X96.arraylength hx (by rw [e96]; exact Ar103.1) (State.isArrayOf_alike hZ.alike Ar103.2.1) (g := (mkF m 101 #[sR a1, sR l1, sI 0, sR f0, sI 1, sR b48, sR b53, sI 0, sI 3] [(.ref f0), (.int (3 : Int32))])) rfl rfl (hb hby dp22_1_101) _ ?_
        rw [len_of S103 N103]
        show Sg p e below (T96.setTop (mkF m 102 #[sR a1, sR l1, sI 0, sR f0, sI 1, sR b48, sR b53, sI 0, sI 3] [(.int (3 : Int32)), (.int (3 : Int32))])) _
        refine XS.icmpYes X96.here hx rfl (pc0 := 102) (pc' := 164) rfl (hb hby dp22_1_102) rfl (flt (show ¬ ((3 : Int32) < (3 : Int32)) from (by decide))).2.1 (by decide) (by decide) ?_
        refine XS.aloadN X96.here hx rfl (hb hby dp22_1_164) rfl rfl ?_
        show Sg p e below (T96.setTop (mkF m 165 #[sR a1, sR l1, sI 0, sR f0, sI 1, sR b48, sR b53, sI 0, sI 3] [(.ref a1)])) _
        exact st105 _ k)
      have f107 := (((((((((v8.other W11 (Ne.symm (Nat.ne_of_lt (Nat.lt_of_lt_of_le Fw.lt (Nat.le_of_eq g4.symm))))).ext E19).other W26 (Ne.symm (Nat.ne_of_lt (Nat.lt_of_lt_of_le Fw.lt (Nat.le_of_eq g4.symm))))).ext E48).ext E53).other W62 (Nat.ne_of_lt (Nat.lt_of_lt_of_le (((v8.other W11 (Ne.symm (Nat.ne_of_lt (Nat.lt_of_lt_of_le Fw.lt (Nat.le_of_eq g4.symm))))).ext E19).other W26 (Ne.symm (Nat.ne_of_lt (Nat.lt_of_lt_of_le Fw.lt (Nat.le_of_eq g4.symm))))).lt (Nat.le_of_eq g48.symm)))).other W72 (Nat.ne_of_lt (Nat.lt_of_lt_of_le ((((v8.other W11 (Ne.symm (Nat.ne_of_lt (Nat.lt_of_lt_of_le Fw.lt (Nat.le_of_eq g4.symm))))).ext E19).other W26 (Ne.symm (Nat.ne_of_lt (Nat.lt_of_lt_of_le Fw.lt (Nat.le_of_eq g4.symm))))).ext E48).lt (Nat.le_of_eq g53.symm)))).other W84 (Nat.ne_of_lt (Nat.lt_of_lt_of_le ((((v8.other W11 (Ne.symm (Nat.ne_of_lt (Nat.lt_of_lt_of_le Fw.lt (Nat.le_of_eq g4.symm))))).ext E19).other W26 (Ne.symm (Nat.ne_of_lt (Nat.lt_of_lt_of_le Fw.lt (Nat.le_of_eq g4.symm))))).ext E48).lt (Nat.le_of_eq g53.symm)))).other W96 (Nat.ne_of_lt (Nat.lt_of_lt_of_le ((((v8.other W11 (Ne.symm (Nat.ne_of_lt (Nat.lt_of_lt_of_le Fw.lt (Nat.le_of_eq g4.symm))))).ext E19).other W26 (Ne.symm (Nat.ne_of_lt (Nat.lt_of_lt_of_le Fw.lt (Nat.le_of_eq g4.symm))))).ext E48).lt (Nat.le_of_eq g53.symm))))
      have f109 := (((((B48.ext E53).wr W62).wr W72).wr W84).wr W96)
      obtain ⟨cl108, Ar108, q108, S108, N108, H108, G108⟩ := id f107
      obtain ⟨T108, h108, X108, e108, W108, st108⟩ := stR X105 hx hZ e105 Ar108 (j := (0 : Int32)) (inb_of S108 ⟨by decide, by decide⟩) rfl (Sto.ofVA Ar108 q108 O4 (Ins.self f109)) (g := (mkF m 171 #[sR a1, sR l1, sI 0, sR f0, sI 1, sR b48, sR b53, sI 0, sI 3] [(.ref b48), (.int (0 : Int32)), (.ref b4)])) rfl rfl (hb hby dp22_1_171)
      have v110 : Arv Z h108 b4 k4 (.array .int) (1 : Int32) [(.ref b48)] .null := Arv.set Ar108 q108 S108 N108 H108 G108 rfl W108 0 rfl (Nat.le_of_ble_eq_true rfl)
      have P111 : Rg p e below (T108.setTop (mkF m 172 #[sR a1, sR l1, sI 0, sR f0, sI 1, sR b48, sR b53, sI 0, sI 3] [])) B0 := fun t k => P106 t (by
        refine XS.iloadN X105.here hx rfl (hb hby dp22_1_168) rfl ?_
        refine XS.aload X105.here hx rfl (hb hby dp22_1_169) rfl rfl ?_
        show Sg p e below (T105.setTop (mkF m 171 #[sR a1, sR l1, sI 0, sR f0, sI 1, sR b48, sR b53, sI 0, sI 3] [(.ref b48), (.int (0 : Int32)), (.ref b4)])) _
        exact st108 _ k)
      have N112 := Fr.snoc X108 N99 g_b4
      have Z113 : n0 ≤ h108.size := Nat.le_trans Z100 (Keep.of_wr W108).1
      have K114 : Keep h0 h108 [a1] := K101.wr W108 (Or.inr sz_b4)
      have f115 := (((((((f28.ext E48).ext E53).other W62 (Or.inl (Nat.ne_of_lt (Nat.lt_of_lt_of_le f28.lt (Nat.le_of_eq g48.symm))))).other W72 (Or.inl (Nat.ne_of_lt (Nat.lt_of_lt_of_le (f28.ext E48).lt (Nat.le_of_eq g53.symm))))).other W84 (Or.inl (Nat.ne_of_lt (Nat.lt_of_lt_of_le (f28.ext E48).lt (Nat.le_of_eq g53.symm))))).other W96 (Or.inl (Nat.ne_of_lt (Nat.lt_of_lt_of_le (f28.ext E48).lt (Nat.le_of_eq g53.symm))))).other W108 (Or.inl (Nat.ne_of_lt (Nat.lt_of_lt_of_le Fw.lt (Nat.le_of_eq g4.symm)))))
      obtain ⟨T116, X116, e116, st116⟩ := getF X108 hx hZ hown (host := "") (Or.inl (own_hw hw 23 rfl)) Via.refl e108 f115 (g := (mkF m 173 #[sR a1, sR l1, sI 0, sR f0, sI 1, sR b48, sR b53, sI 0, sI 3] [(.ref a1)])) rfl rfl (hb hby dp22_1_173)
      have P117 : Rg p e below (T116.setTop (mkF m 176 #[sR a1, sR l1, sI 0, sR f0, sI 1, sR b48, sR b53, sI 0, sI 3] [(.ref b19)])) B0 := fun t k => P111 t (by
        refine XS.aloadN X108.here hx rfl (hb hby dp22_1_172) rfl rfl ?_
        show Sg p e below (T108.setTop (mkF m 173 #[sR a1, sR l1, sI 0, sR f0, sI 1, sR b48, sR b53, sI 0, sI 3] [(.ref a1)])) _
        exact st116 _ k)
      have f118 := ((((((((v23.other W26 (Ne.symm (Nat.ne_of_lt (Nat.lt_of_lt_of_le f13.lt (Nat.le_of_eq g19.symm))))).ext E48).ext E53).other W62 (Nat.ne_of_lt (Nat.lt_of_lt_of_le (v23.other W26 (Ne.symm (Nat.ne_of_lt (Nat.lt_of_lt_of_le f13.lt (Nat.le_of_eq g19.symm))))).lt (Nat.le_of_eq g48.symm)))).other W72 (Nat.ne_of_lt (Nat.lt_of_lt_of_le ((v23.other W26 (Ne.symm (Nat.ne_of_lt (Nat.lt_of_lt_of_le f13.lt (Nat.le_of_eq g19.symm))))).ext E48).lt (Nat.le_of_eq g53.symm)))).other W84 (Nat.ne_of_lt (Nat.lt_of_lt_of_le ((v23.other W26 (Ne.symm (Nat.ne_of_lt (Nat.lt_of_lt_of_le f13.lt (Nat.le_of_eq g19.symm))))).ext E48).lt (Nat.le_of_eq g53.symm)))).other W96 (Nat.ne_of_lt (Nat.lt_of_lt_of_le ((v23.other W26 (Ne.symm (Nat.ne_of_lt (Nat.lt_of_lt_of_le f13.lt (Nat.le_of_eq g19.symm))))).ext E48).lt (Nat.le_of_eq g53.symm)))).other W108 (Ne.symm (Nat.ne_of_lt (Nat.lt_of_lt_of_le (v8.other W11 (Ne.symm (Nat.ne_of_lt (Nat.lt_of_lt_of_le Fw.lt (Nat.le_of_eq g4.symm))))).lt (Nat.le_of_eq g19.symm)))))
      have f120 := (((((B53.wr W62).wr W72).wr W84).wr W96).wr W108)
      obtain ⟨cl119, Ar119, q119, S119, N119, H119, G119⟩ := id f118
      obtain ⟨T119, h119, X119, e119, W119, st119⟩ := stR X116 hx hZ e116 Ar119 (j := (0 : Int32)) (inb_of S119 ⟨by decide, by decide⟩) rfl (Sto.ofVA Ar119 q119 O19 (Ins.self f120)) (g := (mkF m 179 #[sR a1, sR l1, sI 0, sR f0, sI 1, sR b48, sR b53, sI 0, sI 3] [(.ref b53), (.int (0 : Int32)), (.ref b19)])) rfl rfl (hb hby dp22_1_179)
      have v121 : Arv Z h119 b19 k19 (.array .long) (1 : Int32) [(.ref b53)] .null := Arv.set Ar119 q119 S119 N119 H119 G119 rfl W119 0 rfl (Nat.le_of_ble_eq_true rfl)
      have P122 : Rg p e below (T119.setTop (mkF m 180 #[sR a1, sR l1, sI 0, sR f0, sI 1, sR b48, sR b53, sI 0, sI 3] [])) B0 := fun t k => P117 t (by
        refine XS.iloadN X116.here hx rfl (hb hby dp22_1_176) rfl ?_
        refine XS.aload X116.here hx rfl (hb hby dp22_1_177) rfl rfl ?_
        show Sg p e below (T116.setTop (mkF m 179 #[sR a1, sR l1, sI 0, sR f0, sI 1, sR b48, sR b53, sI 0, sI 3] [(.ref b53), (.int (0 : Int32)), (.ref b19)])) _
        exact st119 _ k)
      have N123 := Fr.snoc X119 N112 g_b19
      have Z124 : n0 ≤ h119.size := Nat.le_trans Z113 (Keep.of_wr W119).1
      have K125 : Keep h0 h119 [a1] := K114.wr W119 (Or.inr sz_b19)
      have f126 := ((((((((f32.ext E48).ext E53).other W62 (Nat.ne_of_lt (Nat.lt_of_lt_of_le f32.lt (Nat.le_of_eq g48.symm)))).other W72 (Nat.ne_of_lt (Nat.lt_of_lt_of_le (f32.ext E48).lt (Nat.le_of_eq g53.symm)))).other W84 (Nat.ne_of_lt (Nat.lt_of_lt_of_le (f32.ext E48).lt (Nat.le_of_eq g53.symm)))).other W96 (Nat.ne_of_lt (Nat.lt_of_lt_of_le (f32.ext E48).lt (Nat.le_of_eq g53.symm)))).other W108 (Nat.ne_of_lt (Nat.lt_of_lt_of_le Al.lt (Nat.le_of_eq g4.symm)))).other W119 (Nat.ne_of_lt (Nat.lt_of_lt_of_le f17.lt (Nat.le_of_eq g19.symm))))
      obtain ⟨cl127, Ar127, -, S127, N127, -, -⟩ := id f126
      have f128 := (((((v63.other W72 (Nat.ne_of_lt (Nat.lt_of_lt_of_le B48.lt (Nat.le_of_eq g53.symm)))).other W84 (Nat.ne_of_lt (Nat.lt_of_lt_of_le B48.lt (Nat.le_of_eq g53.symm)))).other W96 (Nat.ne_of_lt (Nat.lt_of_lt_of_le B48.lt (Nat.le_of_eq g53.symm)))).other W108 (Ne.symm (Nat.ne_of_lt (Nat.lt_of_lt_of_le (((v8.other W11 (Ne.symm (Nat.ne_of_lt (Nat.lt_of_lt_of_le Fw.lt (Nat.le_of_eq g4.symm))))).ext E19).other W26 (Ne.symm (Nat.ne_of_lt (Nat.lt_of_lt_of_le Fw.lt (Nat.le_of_eq g4.symm))))).lt (Nat.le_of_eq g48.symm))))).other W119 (Ne.symm (Nat.ne_of_lt (Nat.lt_of_lt_of_le (v23.other W26 (Ne.symm (Nat.ne_of_lt (Nat.lt_of_lt_of_le f13.lt (Nat.le_of_eq g19.symm))))).lt (Nat.le_of_eq g48.symm)))))
      have f129 := ((v97.other W108 (Ne.symm (Nat.ne_of_lt (Nat.lt_of_lt_of_le ((((v8.other W11 (Ne.symm (Nat.ne_of_lt (Nat.lt_of_lt_of_le Fw.lt (Nat.le_of_eq g4.symm))))).ext E19).other W26 (Ne.symm (Nat.ne_of_lt (Nat.lt_of_lt_of_le Fw.lt (Nat.le_of_eq g4.symm))))).ext E48).lt (Nat.le_of_eq g53.symm))))).other W119 (Ne.symm (Nat.ne_of_lt (Nat.lt_of_lt_of_le ((v23.other W26 (Ne.symm (Nat.ne_of_lt (Nat.lt_of_lt_of_le f13.lt (Nat.le_of_eq g19.symm))))).ext E48).lt (Nat.le_of_eq g53.symm)))))
      have f130 := ((f109.wr W108).wr W119)
      have f131 := (f120.wr W119)
      have f132 := (((((((((f25.wr W26).ext E48).ext E53).wr W62).wr W72).wr W84).wr W96).wr W108).wr W119)
      have f133 := ((f104.other W108 (Or.inl (Nat.ne_of_lt (Nat.lt_of_lt_of_le Fw.lt (Nat.le_of_eq g4.symm))))).other W119 (Or.inl (Nat.ne_of_lt (Nat.lt_of_lt_of_le f13.lt (Nat.le_of_eq g19.symm)))))
      have f134 := (f115.other W119 (Or.inl (Nat.ne_of_lt (Nat.lt_of_lt_of_le f13.lt (Nat.le_of_eq g19.symm)))))
      have f135 := (v110.other W119 (Nat.ne_of_lt (Nat.lt_of_lt_of_le (v8.other W11 (Ne.symm (Nat.ne_of_lt (Nat.lt_of_lt_of_le Fw.lt (Nat.le_of_eq g4.symm))))).lt (Nat.le_of_eq g19.symm))))
      obtain ⟨fs136, hr136, hrun136, hended136, hW136, hsame136⟩ := X119.leave (v := none) (fun _ => rfl)
      refine ⟨_, _, pre0 _ (P122 _ ?_), hrun136, hended136, _, _, rfl, ?_, ⟨⟨_, rfl⟩, hW136, hsame136.mono (Nat.le_of_ble_eq_true rfl) (Nat.le_of_ble_eq_true rfl)⟩⟩
      · show Sg p e below (T119.setTop (mkF m 180 #[sR a1, sR l1, sI 0, sR f0, sI 1, sR b48, sR b53, sI 0, sI 3] [])) _
        refine XS.iinc X119.here hx rfl (hb hby dp22_1_180) rfl (l' := #[sR a1, sR l1, sI 1, sR f0, sI 1, sR b48, sR b53, sI 0, sI 3]) rfl ?_
        refine XS.goto X119.here hx rfl (pc0 := 183) (pc' := 24) rfl (hb hby dp22_1_183) (by decide) (by decide) ?_
        refine XS.iloadN X119.here hx rfl (hb hby dp22_1_24) rfl ?_
        refine XS.aloadN X119.here hx rfl (hb hby dp22_1_25) rfl rfl ?_
        show Sg p e below (T119.setTop (mkF m 26 #[sR a1, sR l1, sI 1, sR f0, sI 1, sR b48, sR b53, sI 0, sI 3] [(.ref l1), (.int (1 : Int32))])) _
        refine X119.arraylength hx (by rw [e119]; exact Ar127.1) (State.isArrayOf_alike hZ.alike Ar127.2.1) (g := (mkF m 26 #[sR a1, sR l1, sI 1, sR f0, sI 1, sR b48, sR b53, sI 0, sI 3] [(.ref l1), (.int (1 : Int32))])) rfl rfl (hb hby dp22_1_26) _ ?_
        rw [len_of S127 N127]
        show Sg p e below (T119.setTop (mkF m 27 #[sR a1, sR l1, sI 1, sR f0, sI 1, sR b48, sR b53, sI 0, sI 3] [(.int (1 : Int32)), (.int (1 : Int32))])) _
        refine XS.icmpYes X119.here hx rfl (pc0 := 27) (pc' := 186) rfl (hb hby dp22_1_27) rfl (flt (show ¬ ((1 : Int32) < (1 : Int32)) from (by decide))).2.1 (by decide) (by decide) ?_
        show Sg p e below (T119.setTop (mkF m 186 #[sR a1, sR l1, sI 1, sR f0, sI 1, sR b48, sR b53, sI 0, sI 3] [])) _
        exact X119.returnOut hx Bd.returns (hb hby dp22_1_186) hr136
      · show Q_wsInit Z a1 x00 x01 x02 h0 n0 _ T119.heap _
        rw [e119]
        exact ⟨rfl, N123, K125, f132, b4, b19, _, _, b48, b53, f133, f134, f135, v121, sz_b4, sz_b19, ⟨_, _, ([((x00.toUInt32 >>> ((6 : Int32) &&& 31).toUInt32).toInt32)] : List Int32), ([((((0 : Int64) ||| ((1 : Int64) <<< (x00 &&& 0x3f).toInt64)) ||| ((1 : Int64) <<< (x01 &&& 0x3f).toInt64)) ||| ((1 : Int64) <<< (x02 &&& 0x3f).toInt64))] : List Int64), (1 : Int32), ((if_pos q41).trans ((if_pos q46))).symm, ((if_pos q41).trans ((if_pos q46))).symm, rfl, f128, f129, f130, f131, sz_b48, sz_b53⟩⟩
    · skip
      obtain ⟨cl137, Ar137, -, S137, N137, -, -⟩ := id f35
      obtain ⟨T138, h138, k138, X138, e138, E138, A138, B138, st138⟩ := newPE X26 hx hZ (own_hw hw 7 rfl) e26 (g := (mkF m 82 #[sR a1, sR l1, sI 0, sR f0, sI 2, sI 3, sU, sU, sU] [(.int (2 : Int32))])) rfl (hb hby dp22_1_82) rfl (by decide) (cap := 2) (by decide) (by decide) (by decide) (by decide) (ad := "[I") (by decide)
      obtain ⟨b138, g138⟩ : ∃ z, z = h26.size := ⟨_, rfl⟩
      rw [← g138] at A138 B138 st138
      have g_b138 : n0 ≤ b138 := Nat.le_trans Z30 (Nat.le_of_eq g138.symm)
      have sz_b138 : h0.size ≤ b138 := Nat.le_trans K31.1 (Nat.le_of_eq g138.symm)
      have P139 : Rg p e below (T138.setTop (mkF m 84 #[sR a1, sR l1, sI 0, sR f0, sI 2, sI 3, sU, sU, sU] [(.ref b138)])) B0 := fun t k => P45 t (by
        refine XS.icmpNo X26.here hx rfl (hb hby dp22_1_68) rfl (feq (show ¬ (((x02.toUInt32 >>> ((6 : Int32) &&& 31).toUInt32).toInt32) = ((x01.toUInt32 >>> ((6 : Int32) &&& 31).toUInt32).toInt32)) from q46)).1 ?_
        refine XS.iinc X26.here hx rfl (hb hby dp22_1_71) rfl (l' := #[sR a1, sR l1, sI 0, sR f0, sI 2, sI 2, sU, sU, sU]) rfl ?_
        refine XS.iinc X26.here hx rfl (hb hby dp22_1_74) rfl (l' := #[sR a1, sR l1, sI 0, sR f0, sI 2, sI 3, sU, sU, sU]) rfl ?_
        refine XS.goto X26.here hx rfl (pc0 := 77) (pc' := 40) rfl (hb hby dp22_1_77) (by decide) (by decide) ?_
        refine XS.iload X26.here hx rfl (hb hby dp22_1_40) rfl ?_
        refine XS.aloadN X26.here hx rfl (hb hby dp22_1_42) rfl rfl ?_
        show Sg p e below (T26.setTop (mkF m 43 #[sR a1, sR l1, sI 0, sR f0, sI 2, sI 3, sU, sU, sU] [(.ref f0), (.int (3 : Int32))])) _
        refine X26.arraylength hx (by rw [e26]; exact Ar137.1) (State.isArrayOf_alike hZ.alike Ar137.2.1) (g := (mkF m 43 #[sR a1, sR l1, sI 0, sR f0, sI 2, sI 3, sU, sU, sU] [(.ref f0), (.int (3 : Int32))])) rfl rfl (hb hby dp22_1_43) _ ?_
        rw [len_of S137 N137]
        show Sg p e below (T26.setTop (mkF m 44 #[sR a1, sR l1, sI 0, sR f0, sI 2, sI 3, sU, sU, sU] [(.int (3 : Int32)), (.int (3 : Int32))])) _
        refine XS.icmpYes X26.here hx rfl (pc0 := 44) (pc' := 80) rfl (hb hby dp22_1_44) rfl (flt (show ¬ ((3 : Int32) < (3 : Int32)) from (by decide))).2.1 (by decide) (by decide) ?_
        refine XS.iload X26.here hx rfl (hb hby dp22_1_80) rfl ?_
        show Sg p e below (T26.setTop (mkF m 82 #[sR a1, sR l1, sI 0, sR f0, sI 2, sI 3, sU, sU, sU] [(.int (2 : Int32))])) _
        exact st138 _ k)
      have Z140 : n0 ≤ h138.size := Nat.le_trans Z30 E138.1
      have K141 : Keep h0 h138 [a1] := K31.ext E138
      have v142 : Arv Z h138 b138 k138 .int (2 : Int32) [(.int (0 : Int32)), (.int (0 : Int32))] (.int (0 : Int32)) := (Arv.new A138 (by decide)).pad (pad_rep [] (.int (0 : Int32)) 2)
      obtain ⟨T143, h143, k143, X143, e143, E143, A143, B143, st143⟩ := newPE X138 hx hZ (own_hw hw 25 rfl) e138 (g := (mkF m 88 #[sR a1, sR l1, sI 0, sR f0, sI 2, sR b138, sU, sU, sU] [(.int (2 : Int32))])) rfl (hb hby dp22_1_88) rfl (by decide) (cap := 2) (by decide) (by decide) (by decide) (by decide) (ad := "[J") (by decide)
      obtain ⟨b143, g143⟩ : ∃ z, z = h138.size := ⟨_, rfl⟩
      rw [← g143] at A143 B143 st143
      have g_b143 : n0 ≤ b143 := Nat.le_trans Z140 (Nat.le_of_eq g143.symm)
      have sz_b143 : h0.size ≤ b143 := Nat.le_trans K141.1 (Nat.le_of_eq g143.symm)
      have P144 : Rg p e below (T143.setTop (mkF m 90 #[sR a1, sR l1, sI 0, sR f0, sI 2, sR b138, sU, sU, sU] [(.ref b143)])) B0 := fun t k => P139 t (by
        refine XS.astore X138.here hx rfl (hb hby dp22_1_84) rfl rfl (l' := #[sR a1, sR l1, sI 0, sR f0, sI 2, sR b138, sU, sU, sU]) rfl ?_
        refine XS.iload X138.here hx rfl (hb hby dp22_1_86) rfl ?_
        show Sg p e below (T138.setTop (mkF m 88 #[sR a1, sR l1, sI 0, sR f0, sI 2, sR b138, sU, sU, sU] [(.int (2 : Int32))])) _
        exact st143 _ k)
      have Z145 : n0 ≤ h143.size := Nat.le_trans Z140 E143.1
      have K146 : Keep h0 h143 [a1] := K141.ext E143
      have v147 : Arv Z h143 b143 k143 .long (2 : Int32) [(.long (0 : Int64)), (.long (0 : Int64))] (.long (0 : Int64)) := (Arv.new A143 (by decide)).pad (pad_rep [] (.long (0 : Int64)) 2)
      have f148 := ((f35.ext E138).ext E143)
      obtain ⟨cl149, Ar149, -, S149, N149, -, -⟩ := id f148
      obtain ⟨cl150, Ar150, -, S150, N150, H150, -⟩ := id f148
      have hin150 : ¬ ((0 : Int32) < 0 ∨ cl150.slots.size ≤ ((0 : Int32)).toNatClampNeg) := inb_of S150 ⟨by decide, by decide⟩
      have f151 := (v142.ext E143)
      obtain ⟨cl152, Ar152, q152, S152, N152, H152, G152⟩ := id f151
      obtain ⟨T152, h152, X152, e152, W152, st152⟩ := stI X143 hx hZ e143 Ar152 (j := (0 : Int32)) (inb_of S152 ⟨by decide, by decide⟩) (g := (mkF m 143 #[sR a1, sR l1, sI 0, sR f0, sI 2, sR b138, sR b143, sI 0, sI 0] [(.int ((x00.toUInt32 >>> ((6 : Int32) &&& 31).toUInt32).toInt32)), (.int (0 : Int32)), (.ref b138)])) rfl rfl (hb hby dp22_1_143)
      have v153 : Arv Z h152 b138 k138 .int (2 : Int32) [(.int ((x00.toUInt32 >>> ((6 : Int32) &&& 31).toUInt32).toInt32)), (.int (0 : Int32))] (.int (0 : Int32)) := Arv.set Ar152 q152 S152 N152 H152 G152 rfl W152 0 rfl (Nat.le_of_ble_eq_true rfl)
      have P154 : Rg p e below (T152.setTop (mkF m 144 #[sR a1, sR l1, sI 0, sR f0, sI 2, sR b138, sR b143, sI 0, sI 0] [])) B0 := fun t k => P144 t (by
        refine XS.astore X143.here hx rfl (hb hby dp22_1_90) rfl rfl (l' := #[sR a1, sR l1, sI 0, sR f0, sI 2, sR b138, sR b143, sU, sU]) rfl ?_
        refine XS.iconst X143.here hx rfl (hb hby dp22_1_92) ?_
        refine XS.istore X143.here hx rfl (hb hby dp22_1_93) rfl (l' := #[sR a1, sR l1, sI 0, sR f0, sI 2, sR b138, sR b143, sI (-1), sU]) rfl ?_
        refine XS.iconst X143.here hx rfl (hb hby dp22_1_95) ?_
        refine XS.istore X143.here hx rfl (hb hby dp22_1_96) rfl (l' := #[sR a1, sR l1, sI 0, sR f0, sI 2, sR b138, sR b143, sI (-1), sI 0]) rfl ?_
        refine XS.iload X143.here hx rfl (hb hby dp22_1_98) rfl ?_
        refine XS.aloadN X143.here hx rfl (hb hby dp22_1_100) rfl rfl ?_
        show Sg p e below (T143.setTop (mkF m 101 #[sR a1, sR l1, sI 0, sR f0, sI 2, sR b138, sR b143, sI (-1), sI 0] [(.ref f0), (.int (0 : Int32))])) _
        refine X143.arraylength hx (by rw [e143]; exact Ar149.1) (State.isArrayOf_alike hZ.alike Ar149.2.1) (g := (mkF m 101 #[sR a1, sR l1, sI 0, sR f0, sI 2, sR b138, sR b143, sI (-1), sI 0] [(.ref f0), (.int (0 : Int32))])) rfl rfl (hb hby dp22_1_101) _ ?_
        rw [len_of S149 N149]
        show Sg p e below (T143.setTop (mkF m 102 #[sR a1, sR l1, sI 0, sR f0, sI 2, sR b138, sR b143, sI (-1), sI 0] [(.int (3 : Int32)), (.int (0 : Int32))])) _
        refine XS.icmpNo X143.here hx rfl (hb hby dp22_1_102) rfl (tlt (show (0 : Int32) < (3 : Int32) from (by decide))).2.1 ?_
        refine XS.iload X143.here hx rfl (hb hby dp22_1_105) rfl ?_
        refine XS.ifYes X143.here hx rfl (pc0 := 107) (pc' := 129) rfl (hb hby dp22_1_107) rfl ((if0 _ _).trans (teq (show (0 : Int32) = (0 : Int32) from (by decide))).1) (by decide) (by decide) ?_
        refine XS.aload X143.here hx rfl (hb hby dp22_1_129) rfl rfl ?_
        refine XS.iinc X143.here hx rfl (hb hby dp22_1_131) rfl (l' := #[sR a1, sR l1, sI 0, sR f0, sI 2, sR b138, sR b143, sI 0, sI 0]) rfl ?_
        refine XS.iload X143.here hx rfl (hb hby dp22_1_134) rfl ?_
        refine XS.aloadN X143.here hx rfl (hb hby dp22_1_136) rfl rfl ?_
        refine XS.iload X143.here hx rfl (hb hby dp22_1_137) rfl ?_
        show Sg p e below (T143.setTop (mkF m 139 #[sR a1, sR l1, sI 0, sR f0, sI 2, sR b138, sR b143, sI 0, sI 0] [(.int (0 : Int32)), (.ref f0), (.int (0 : Int32)), (.ref b138)])) _
        refine X143.iaload hx (j := (0 : Int32)) (v := (.int x00)) (by rw [e143]; exact Ar150.1) (State.isArrayOf_alike hZ.alike Ar150.2.1) Ar150.2.2 hin150 (H150.at hin150 rfl) (g := (mkF m 139 #[sR a1, sR l1, sI 0, sR f0, sI 2, sR b138, sR b143, sI 0, sI 0] [(.int (0 : Int32)), (.ref f0), (.int (0 : Int32)), (.ref b138)])) rfl rfl (hb hby dp22_1_139) _ ?_
        show Sg p e below (T143.setTop (mkF m 140 #[sR a1, sR l1, sI 0, sR f0, sI 2, sR b138, sR b143, sI 0, sI 0] [(.int x00), (.int (0 : Int32)), (.ref b138)])) _
        refine XS.bipush X143.here hx rfl (hb hby dp22_1_140) ?_
        refine XS.iushr X143.here hx rfl (hb hby dp22_1_142) rfl ?_
        show Sg p e below (T143.setTop (mkF m 143 #[sR a1, sR l1, sI 0, sR f0, sI 2, sR b138, sR b143, sI 0, sI 0] [(.int ((x00.toUInt32 >>> ((6 : Int32) &&& 31).toUInt32).toInt32)), (.int (0 : Int32)), (.ref b138)])) _
        exact st152 _ k)
      have N155 := Fr.snoc X152 N29 g_b138
      have Z156 : n0 ≤ h152.size := Nat.le_trans Z145 (Keep.of_wr W152).1
      have K157 : Keep h0 h152 [a1] := K146.wr W152 (Or.inr sz_b138)
      have f158 := (v147.other W152 (Ne.symm (Nat.ne_of_lt (Nat.lt_of_lt_of_le B138.lt (Nat.le_of_eq g143.symm)))))
      obtain ⟨cl159, Ar159, -, S159, N159, H159, -⟩ := id f158
      have hin159 : ¬ ((0 : Int32) < 0 ∨ cl159.slots.size ≤ ((0 : Int32)).toNatClampNeg) := inb_of S159 ⟨by decide, by decide⟩
      have f160 := (f148.other W152 (Nat.ne_of_lt (Nat.lt_of_lt_of_le f35.lt (Nat.le_of_eq g138.symm))))
      obtain ⟨cl161, Ar161, -, S161, N161, H161, -⟩ := id f160
      have hin161 : ¬ ((0 : Int32) < 0 ∨ cl161.slots.size ≤ ((0 : Int32)).toNatClampNeg) := inb_of S161 ⟨by decide, by decide⟩
      obtain ⟨cl162, Ar162, q162, S162, N162, H162, G162⟩ := id f158
      obtain ⟨T162, h162, X162, e162, W162, st162⟩ := stJ X152 hx hZ e152 Ar162 (j := (0 : Int32)) (inb_of S162 ⟨by decide, by decide⟩) (g := (mkF m 157 #[sR a1, sR l1, sI 0, sR f0, sI 2, sR b138, sR b143, sI 0, sI 0] [(.long ((0 : Int64) ||| ((1 : Int64) <<< (x00 &&& 0x3f).toInt64))), (.int (0 : Int32)), (.ref b143)])) rfl rfl (hb hby dp22_1_157)
      have v163 : Arv Z h162 b143 k143 .long (2 : Int32) [(.long ((0 : Int64) ||| ((1 : Int64) <<< (x00 &&& 0x3f).toInt64))), (.long (0 : Int64))] (.long (0 : Int64)) := Arv.set Ar162 q162 S162 N162 H162 G162 rfl W162 0 rfl (Nat.le_of_ble_eq_true rfl)
      have P164 : Rg p e below (T162.setTop (mkF m 158 #[sR a1, sR l1, sI 0, sR f0, sI 2, sR b138, sR b143, sI 0, sI 0] [])) B0 := fun t k => P154 t (by
        refine XS.aload X152.here hx rfl (hb hby dp22_1_144) rfl rfl ?_
        refine XS.iload X152.here hx rfl (hb hby dp22_1_146) rfl ?_
        refine XT.dup2 X152.here hx rfl (hb hby dp22_1_148) rfl rfl rfl ?_
        show Sg p e below (T152.setTop (mkF m 149 #[sR a1, sR l1, sI 0, sR f0, sI 2, sR b138, sR b143, sI 0, sI 0] [(.int (0 : Int32)), (.ref b143), (.int (0 : Int32)), (.ref b143)])) _
        refine X152.laload hx (j := (0 : Int32)) (v := (.long (0 : Int64))) (by rw [e152]; exact Ar159.1) (State.isArrayOf_alike hZ.alike Ar159.2.1) Ar159.2.2 hin159 (H159.at hin159 rfl) (g := (mkF m 149 #[sR a1, sR l1, sI 0, sR f0, sI 2, sR b138, sR b143, sI 0, sI 0] [(.int (0 : Int32)), (.ref b143), (.int (0 : Int32)), (.ref b143)])) rfl rfl (hb hby dp22_1_149) _ ?_
        show Sg p e below (T152.setTop (mkF m 150 #[sR a1, sR l1, sI 0, sR f0, sI 2, sR b138, sR b143, sI 0, sI 0] [(.long (0 : Int64)), (.int (0 : Int32)), (.ref b143)])) _
        refine XS.lconst X152.here hx rfl (hb hby dp22_1_150) ?_
        refine XS.aloadN X152.here hx rfl (hb hby dp22_1_151) rfl rfl ?_
        refine XS.iload X152.here hx rfl (hb hby dp22_1_152) rfl ?_
        show Sg p e below (T152.setTop (mkF m 154 #[sR a1, sR l1, sI 0, sR f0, sI 2, sR b138, sR b143, sI 0, sI 0] [(.int (0 : Int32)), (.ref f0), (.long (1 : Int64)), (.long (0 : Int64)), (.int (0 : Int32)), (.ref b143)])) _
        refine X152.iaload hx (j := (0 : Int32)) (v := (.int x00)) (by rw [e152]; exact Ar161.1) (State.isArrayOf_alike hZ.alike Ar161.2.1) Ar161.2.2 hin161 (H161.at hin161 rfl) (g := (mkF m 154 #[sR a1, sR l1, sI 0, sR f0, sI 2, sR b138, sR b143, sI 0, sI 0] [(.int (0 : Int32)), (.ref f0), (.long (1 : Int64)), (.long (0 : Int64)), (.int (0 : Int32)), (.ref b143)])) rfl rfl (hb hby dp22_1_154) _ ?_
        show Sg p e below (T152.setTop (mkF m 155 #[sR a1, sR l1, sI 0, sR f0, sI 2, sR b138, sR b143, sI 0, sI 0] [(.int x00), (.long (1 : Int64)), (.long (0 : Int64)), (.int (0 : Int32)), (.ref b143)])) _
        refine XS.lshl X152.here hx rfl (hb hby dp22_1_155) rfl ?_
        refine XS.lor X152.here hx rfl (hb hby dp22_1_156) rfl ?_
        show Sg p e below (T152.setTop (mkF m 157 #[sR a1, sR l1, sI 0, sR f0, sI 2, sR b138, sR b143, sI 0, sI 0] [(.long ((0 : Int64) ||| ((1 : Int64) <<< (x00 &&& 0x3f).toInt64))), (.int (0 : Int32)), (.ref b143)])) _
        exact st162 _ k)
      have N165 := Fr.snoc X162 N155 g_b143
      have Z166 : n0 ≤ h162.size := Nat.le_trans Z156 (Keep.of_wr W162).1
      have K167 : Keep h0 h162 [a1] := K157.wr W162 (Or.inr sz_b143)
      have f168 := (f160.other W162 (Nat.ne_of_lt (Nat.lt_of_lt_of_le (f35.ext E138).lt (Nat.le_of_eq g143.symm))))
      obtain ⟨cl169, Ar169, -, S169, N169, -, -⟩ := id f168
      obtain ⟨cl170, Ar170, -, S170, N170, H170, -⟩ := id f168
      have hin170 : ¬ ((1 : Int32) < 0 ∨ cl170.slots.size ≤ ((1 : Int32)).toNatClampNeg) := inb_of S170 ⟨by decide, by decide⟩
      obtain ⟨cl171, Ar171, -, S171, N171, H171, -⟩ := id f168
      have hin171 : ¬ ((0 : Int32) < 0 ∨ cl171.slots.size ≤ ((0 : Int32)).toNatClampNeg) := inb_of S171 ⟨by decide, by decide⟩
      obtain ⟨cl172, Ar172, -, S172, N172, H172, -⟩ := id v163
      have hin172 : ¬ ((0 : Int32) < 0 ∨ cl172.slots.size ≤ ((0 : Int32)).toNatClampNeg) := inb_of S172 ⟨by decide, by decide⟩
      obtain ⟨cl173, Ar173, -, S173, N173, H173, -⟩ := id f168
      have hin173 : ¬ ((1 : Int32) < 0 ∨ cl173.slots.size ≤ ((1 : Int32)).toNatClampNeg) := inb_of S173 ⟨by decide, by decide⟩
      obtain ⟨cl174, Ar174, q174, S174, N174, H174, G174⟩ := id v163
      obtain ⟨T174, h174, X174, e174, W174, st174⟩ := stJ X162 hx hZ e162 Ar174 (j := (0 : Int32)) (inb_of S174 ⟨by decide, by decide⟩) (g := (mkF m 157 #[sR a1, sR l1, sI 0, sR f0, sI 2, sR b138, sR b143, sI 0, sI 1] [(.long (((0 : Int64) ||| ((1 : Int64) <<< (x00 &&& 0x3f).toInt64)) ||| ((1 : Int64) <<< (x01 &&& 0x3f).toInt64))), (.int (0 : Int32)), (.ref b143)])) rfl rfl (hb hby dp22_1_157)
      have v175 : Arv Z h174 b143 k143 .long (2 : Int32) [(.long (((0 : Int64) ||| ((1 : Int64) <<< (x00 &&& 0x3f).toInt64)) ||| ((1 : Int64) <<< (x01 &&& 0x3f).toInt64))), (.long (0 : Int64))] (.long (0 : Int64)) := Arv.set Ar174 q174 S174 N174 H174 G174 rfl W174 0 rfl (Nat.le_of_ble_eq_true rfl)
      have P176 : Rg p e below (T174.setTop (mkF m 158 #[sR a1, sR l1, sI 0, sR f0, sI 2, sR b138, sR b143, sI 0, sI 1] [])) B0 := fun t k => P164 t (by
        refine XS.iinc X162.here hx rfl (hb hby dp22_1_158) rfl (l' := #[sR a1, sR l1, sI 0, sR f0, sI 2, sR b138, sR b143, sI 0, sI 1]) rfl ?_
        refine XS.goto X162.here hx rfl (pc0 := 161) (pc' := 98) rfl (hb hby dp22_1_161) (by decide) (by decide) ?_
        refine XS.iload X162.here hx rfl (hb hby dp22_1_98) rfl ?_
        refine XS.aloadN X162.here hx rfl (hb hby dp22_1_100) rfl rfl ?_
        show Sg p e below (T162.setTop (mkF m 101 #[sR a1, sR l1, sI 0, sR f0, sI 2, sR b138, sR b143, sI 0, sI 1] [(.ref f0), (.int (1 : Int32))])) _
        refine X162.arraylength hx (by rw [e162]; exact Ar169.1) (State.isArrayOf_alike hZ.alike Ar169.2.1) (g := (mkF m 101 #[sR a1, sR l1, sI 0, sR f0, sI 2, sR b138, sR b143, sI 0, sI 1] [(.ref f0), (.int (1 : Int32))])) rfl rfl (hb hby dp22_1_101) _ ?_
        rw [len_of S169 N169]
        show Sg p e below (T162.setTop (mkF m 102 #[sR a1, sR l1, sI 0, sR f0, sI 2, sR b138, sR b143, sI 0, sI 1] [(.int (3 : Int32)), (.int (1 : Int32))])) _
        refine XS.icmpNo X162.here hx rfl (hb hby dp22_1_102) rfl (tlt (show (1 : Int32) < (3 : Int32) from (by decide))).2.1 ?_
        refine XS.iload X162.here hx rfl (hb hby dp22_1_105) rfl ?_
        refine XS.ifNo X162.here hx rfl (hb hby dp22_1_107) rfl ((if0 _ _).trans (feq (show ¬ ((1 : Int32) = (0 : Int32)) from (by decide))).1) ?_
        refine XS.aloadN X162.here hx rfl (hb hby dp22_1_110) rfl rfl ?_
        refine XS.iload X162.here hx rfl (hb hby dp22_1_111) rfl ?_
        show Sg p e below (T162.setTop (mkF m 113 #[sR a1, sR l1, sI 0, sR f0, sI 2, sR b138, sR b143, sI 0, sI 1] [(.int (1 : Int32)), (.ref f0)])) _
        refine X162.iaload hx (j := (1 : Int32)) (v := (.int x01)) (by rw [e162]; exact Ar170.1) (State.isArrayOf_alike hZ.alike Ar170.2.1) Ar170.2.2 hin170 (H170.at hin170 rfl) (g := (mkF m 113 #[sR a1, sR l1, sI 0, sR f0, sI 2, sR b138, sR b143, sI 0, sI 1] [(.int (1 : Int32)), (.ref f0)])) rfl rfl (hb hby dp22_1_113) _ ?_
        show Sg p e below (T162.setTop (mkF m 114 #[sR a1, sR l1, sI 0, sR f0, sI 2, sR b138, sR b143, sI 0, sI 1] [(.int x01)])) _
        refine XS.bipush X162.here hx rfl (hb hby dp22_1_114) ?_
        refine XS.iushr X162.here hx rfl (hb hby dp22_1_116) rfl ?_
        refine XS.aloadN X162.here hx rfl (hb hby dp22_1_117) rfl rfl ?_
        refine XS.iload X162.here hx rfl (hb hby dp22_1_118) rfl ?_
        refine XS.iconst X162.here hx rfl (hb hby dp22_1_120) ?_
        refine XS.isub X162.here hx rfl (hb hby dp22_1_121) rfl ?_
        show Sg p e below (T162.setTop (mkF m 122 #[sR a1, sR l1, sI 0, sR f0, sI 2, sR b138, sR b143, sI 0, sI 1] [(.int (0 : Int32)), (.ref f0), (.int ((x01.toUInt32 >>> ((6 : Int32) &&& 31).toUInt32).toInt32))])) _
        refine X162.iaload hx (j := (0 : Int32)) (v := (.int x00)) (by rw [e162]; exact Ar171.1) (State.isArrayOf_alike hZ.alike Ar171.2.1) Ar171.2.2 hin171 (H171.at hin171 rfl) (g := (mkF m 122 #[sR a1, sR l1, sI 0, sR f0, sI 2, sR b138, sR b143, sI 0, sI 1] [(.int (0 : Int32)), (.ref f0), (.int ((x01.toUInt32 >>> ((6 : Int32) &&& 31).toUInt32).toInt32))])) rfl rfl (hb hby dp22_1_122) _ ?_
        show Sg p e below (T162.setTop (mkF m 123 #[sR a1, sR l1, sI 0, sR f0, sI 2, sR b138, sR b143, sI 0, sI 1] [(.int x00), (.int ((x01.toUInt32 >>> ((6 : Int32) &&& 31).toUInt32).toInt32))])) _
        refine XS.bipush X162.here hx rfl (hb hby dp22_1_123) ?_
        refine XS.iushr X162.here hx rfl (hb hby dp22_1_125) rfl ?_
        refine XS.icmpYes X162.here hx rfl (pc0 := 126) (pc' := 144) rfl (hb hby dp22_1_126) rfl (teq (show ((x01.toUInt32 >>> ((6 : Int32) &&& 31).toUInt32).toInt32) = ((x00.toUInt32 >>> ((6 : Int32) &&& 31).toUInt32).toInt32) from q41)).1 (by decide) (by decide) ?_
        refine XS.aload X162.here hx rfl (hb hby dp22_1_144) rfl rfl ?_
        refine XS.iload X162.here hx rfl (hb hby dp22_1_146) rfl ?_
        refine XT.dup2 X162.here hx rfl (hb hby dp22_1_148) rfl rfl rfl ?_
        show Sg p e below (T162.setTop (mkF m 149 #[sR a1, sR l1, sI 0, sR f0, sI 2, sR b138, sR b143, sI 0, sI 1] [(.int (0 : Int32)), (.ref b143), (.int (0 : Int32)), (.ref b143)])) _
        refine X162.laload hx (j := (0 : Int32)) (v := (.long ((0 : Int64) ||| ((1 : Int64) <<< (x00 &&& 0x3f).toInt64)))) (by rw [e162]; exact Ar172.1) (State.isArrayOf_alike hZ.alike Ar172.2.1) Ar172.2.2 hin172 (H172.at hin172 rfl) (g := (mkF m 149 #[sR a1, sR l1, sI 0, sR f0, sI 2, sR b138, sR b143, sI 0, sI 1] [(.int (0 : Int32)), (.ref b143), (.int (0 : Int32)), (.ref b143)])) rfl rfl (hb hby dp22_1_149) _ ?_
        show Sg p e below (T162.setTop (mkF m 150 #[sR a1, sR l1, sI 0, sR f0, sI 2, sR b138, sR b143, sI 0, sI 1] [(.long ((0 : Int64) ||| ((1 : Int64) <<< (x00 &&& 0x3f).toInt64))), (.int (0 : Int32)), (.ref b143)])) _
        refine XS.lconst X162.here hx rfl (hb hby dp22_1_150) ?_
        refine XS.aloadN X162.here hx rfl (hb hby dp22_1_151) rfl rfl ?_
        refine XS.iload X162.here hx rfl (hb hby dp22_1_152) rfl ?_
        show Sg p e below (T162.setTop (mkF m 154 #[sR a1, sR l1, sI 0, sR f0, sI 2, sR b138, sR b143, sI 0, sI 1] [(.int (1 : Int32)), (.ref f0), (.long (1 : Int64)), (.long ((0 : Int64) ||| ((1 : Int64) <<< (x00 &&& 0x3f).toInt64))), (.int (0 : Int32)), (.ref b143)])) _
        refine X162.iaload hx (j := (1 : Int32)) (v := (.int x01)) (by rw [e162]; exact Ar173.1) (State.isArrayOf_alike hZ.alike Ar173.2.1) Ar173.2.2 hin173 (H173.at hin173 rfl) (g := (mkF m 154 #[sR a1, sR l1, sI 0, sR f0, sI 2, sR b138, sR b143, sI 0, sI 1] [(.int (1 : Int32)), (.ref f0), (.long (1 : Int64)), (.long ((0 : Int64) ||| ((1 : Int64) <<< (x00 &&& 0x3f).toInt64))), (.int (0 : Int32)), (.ref b143)])) rfl rfl (hb hby dp22_1_154) _ ?_
        show Sg p e below (T162.setTop (mkF m 155 #[sR a1, sR l1, sI 0, sR f0, sI 2, sR b138, sR b143, sI 0, sI 1] [(.int x01), (.long (1 : Int64)), (.long ((0 : Int64) ||| ((1 : Int64) <<< (x00 &&& 0x3f).toInt64))), (.int (0 : Int32)), (.ref b143)])) _
        refine XS.lshl X162.here hx rfl (hb hby dp22_1_155) rfl ?_
        refine XS.lor X162.here hx rfl (hb hby dp22_1_156) rfl ?_
        show Sg p e below (T162.setTop (mkF m 157 #[sR a1, sR l1, sI 0, sR f0, sI 2, sR b138, sR b143, sI 0, sI 1] [(.long (((0 : Int64) ||| ((1 : Int64) <<< (x00 &&& 0x3f).toInt64)) ||| ((1 : Int64) <<< (x01 &&& 0x3f).toInt64))), (.int (0 : Int32)), (.ref b143)])) _
        exact st174 _ k)
      have N177 := Fr.snoc X174 N165 g_b143
      have Z178 : n0 ≤ h174.size := Nat.le_trans Z166 (Keep.of_wr W174).1
      have K179 : Keep h0 h174 [a1] := K167.wr W174 (Or.inr sz_b143)
      have f180 := (f168.other W174 (Nat.ne_of_lt (Nat.lt_of_lt_of_le (f35.ext E138).lt (Nat.le_of_eq g143.symm))))
      obtain ⟨cl181, Ar181, -, S181, N181, -, -⟩ := id f180
      obtain ⟨cl182, Ar182, -, S182, N182, H182, -⟩ := id f180
      have hin182 : ¬ ((2 : Int32) < 0 ∨ cl182.slots.size ≤ ((2 : Int32)).toNatClampNeg) := inb_of S182 ⟨by decide, by decide⟩
      obtain ⟨cl183, Ar183, -, S183, N183, H183, -⟩ := id f180
      have hin183 : ¬ ((1 : Int32) < 0 ∨ cl183.slots.size ≤ ((1 : Int32)).toNatClampNeg) := inb_of S183 ⟨by decide, by decide⟩
      obtain ⟨cl184, Ar184, -, S184, N184, H184, -⟩ := id f180
      have hin184 : ¬ ((2 : Int32) < 0 ∨ cl184.slots.size ≤ ((2 : Int32)).toNatClampNeg) := inb_of S184 ⟨by decide, by decide⟩
      have f185 := ((v153.other W162 (Nat.ne_of_lt (Nat.lt_of_lt_of_le B138.lt (Nat.le_of_eq g143.symm)))).other W174 (Nat.ne_of_lt (Nat.lt_of_lt_of_le B138.lt (Nat.le_of_eq g143.symm))))
      obtain ⟨cl186, Ar186, q186, S186, N186, H186, G186⟩ := id f185
      obtain ⟨T186, h186, X186, e186, W186, st186⟩ := stI X174 hx hZ e174 Ar186 (j := (1 : Int32)) (inb_of S186 ⟨by decide, by decide⟩) (g := (mkF m 143 #[sR a1, sR l1, sI 0, sR f0, sI 2, sR b138, sR b143, sI 1, sI 2] [(.int ((x02.toUInt32 >>> ((6 : Int32) &&& 31).toUInt32).toInt32)), (.int (1 : Int32)), (.ref b138)])) rfl rfl (hb hby dp22_1_143)
      have v187 : Arv Z h186 b138 k138 .int (2 : Int32) [(.int ((x00.toUInt32 >>> ((6 : Int32) &&& 31).toUInt32).toInt32)), (.int ((x02.toUInt32 >>> ((6 : Int32) &&& 31).toUInt32).toInt32))] (.int (0 : Int32)) := Arv.set Ar186 q186 S186 N186 H186 G186 rfl W186 1 rfl (Nat.le_of_ble_eq_true rfl)
      have P188 : Rg p e below (T186.setTop (mkF m 144 #[sR a1, sR l1, sI 0, sR f0, sI 2, sR b138, sR b143, sI 1, sI 2] [])) B0 := fun t k => P176 t (by
        refine XS.iinc X174.here hx rfl (hb hby dp22_1_158) rfl (l' := #[sR a1, sR l1, sI 0, sR f0, sI 2, sR b138, sR b143, sI 0, sI 2]) rfl ?_
        refine XS.goto X174.here hx rfl (pc0 := 161) (pc' := 98) rfl (hb hby dp22_1_161) (by decide) (by decide) ?_
        refine XS.iload X174.here hx rfl (hb hby dp22_1_98) rfl ?_
        refine XS.aloadN X174.here hx rfl (hb hby dp22_1_100) rfl rfl ?_
        show Sg p e below (T174.setTop (mkF m 101 #[sR a1, sR l1, sI 0, sR f0, sI 2, sR b138, sR b143, sI 0, sI 2] [(.ref f0), (.int (2 : Int32))])) _
        refine X174.arraylength hx (by rw [e174]; exact Ar181.1) (State.isArrayOf_alike hZ.alike Ar181.2.1) (g := (mkF m 101 #[sR a1, sR l1, sI 0, sR f0, sI 2, sR b138, sR b143, sI 0, sI 2] [(.ref f0), (.int (2 : Int32))])) rfl rfl (hb hby dp22_1_101) _ ?_
        rw [len_of S181 N181]
        show Sg p e below (T174.setTop (mkF m 102 #[sR a1, sR l1, sI 0, sR f0, sI 2, sR b138, sR b143, sI 0, sI 2] [(.int (3 : Int32)), (.int (2 : Int32))])) _
        refine XS.icmpNo X174.here hx rfl (hb hby dp22_1_102) rfl (tlt (show (2 : Int32) < (3 : Int32) from (by decide))).2.1 ?_
        refine XS.iload X174.here hx rfl (hb hby dp22_1_105) rfl ?_
        refine XS.ifNo X174.here hx rfl (hb hby dp22_1_107) rfl ((if0 _ _).trans (feq (show ¬ ((2 : Int32) = (0 : Int32)) from (by decide))).1) ?_
        refine XS.aloadN X174.here hx rfl (hb hby dp22_1_110) rfl rfl ?_
        refine XS.iload X174.here hx rfl (hb hby dp22_1_111) rfl ?_
        show Sg p e below (T174.setTop (mkF m 113 #[sR a1, sR l1, sI 0, sR f0, sI 2, sR b138, sR b143, sI 0, sI 2] [(.int (2 : Int32)), (.ref f0)])) _
        refine X174.iaload hx (j := (2 : Int32)) (v := (.int x02)) (by rw [e174]; exact Ar182.1) (State.isArrayOf_alike hZ.alike Ar182.2.1) Ar182.2.2 hin182 (H182.at hin182 rfl) (g := (mkF m 113 #[sR a1, sR l1, sI 0, sR f0, sI 2, sR b138, sR b143, sI 0, sI 2] [(.int (2 : Int32)), (.ref f0)])) rfl rfl (hb hby dp22_1_113) _ ?_
        show Sg p e below (T174.setTop (mkF m 114 #[sR a1, sR l1, sI 0, sR f0, sI 2, sR b138, sR b143, sI 0, sI 2] [(.int x02)])) _
        refine XS.bipush X174.here hx rfl (hb hby dp22_1_114) ?_
        refine XS.iushr X174.here hx rfl (hb hby dp22_1_116) rfl ?_
        refine XS.aloadN X174.here hx rfl (hb hby dp22_1_117) rfl rfl ?_
        refine XS.iload X174.here hx rfl (hb hby dp22_1_118) rfl ?_
        refine XS.iconst X174.here hx rfl (hb hby dp22_1_120) ?_
        refine XS.isub X174.here hx rfl (hb hby dp22_1_121) rfl ?_
        show Sg p e below (T174.setTop (mkF m 122 #[sR a1, sR l1, sI 0, sR f0, sI 2, sR b138, sR b143, sI 0, sI 2] [(.int (1 : Int32)), (.ref f0), (.int ((x02.toUInt32 >>> ((6 : Int32) &&& 31).toUInt32).toInt32))])) _
        refine X174.iaload hx (j := (1 : Int32)) (v := (.int x01)) (by rw [e174]; exact Ar183.1) (State.isArrayOf_alike hZ.alike Ar183.2.1) Ar183.2.2 hin183 (H183.at hin183 rfl) (g := (mkF m 122 #[sR a1, sR l1, sI 0, sR f0, sI 2, sR b138, sR b143, sI 0, sI 2] [(.int (1 : Int32)), (.ref f0), (.int ((x02.toUInt32 >>> ((6 : Int32) &&& 31).toUInt32).toInt32))])) rfl rfl (hb hby dp22_1_122) _ ?_
        show Sg p e below (T174.setTop (mkF m 123 #[sR a1, sR l1, sI 0, sR f0, sI 2, sR b138, sR b143, sI 0, sI 2] [(.int x01), (.int ((x02.toUInt32 >>> ((6 : Int32) &&& 31).toUInt32).toInt32))])) _
        refine XS.bipush X174.here hx rfl (hb hby dp22_1_123) ?_
        refine XS.iushr X174.here hx rfl (hb hby dp22_1_125) rfl ?_
        refine XS.icmpNo X174.here hx rfl (hb hby dp22_1_126) rfl (feq (show ¬ (((x02.toUInt32 >>> ((6 : Int32) &&& 31).toUInt32).toInt32) = ((x01.toUInt32 >>> ((6 : Int32) &&& 31).toUInt32).toInt32)) from q46)).1 ?_
        refine XS.aload X174.here hx rfl (hb hby dp22_1_129) rfl rfl ?_
        refine XS.iinc X174.here hx rfl (hb hby dp22_1_131) rfl (l' := #[sR a1, sR l1, sI 0, sR f0, sI 2, sR b138, sR b143, sI 1, sI 2]) rfl ?_
        refine XS.iload X174.here hx rfl (hb hby dp22_1_134) rfl ?_
        refine XS.aloadN X174.here hx rfl (hb hby dp22_1_136) rfl rfl ?_
        refine XS.iload X174.here hx rfl (hb hby dp22_1_137) rfl ?_
        show Sg p e below (T174.setTop (mkF m 139 #[sR a1, sR l1, sI 0, sR f0, sI 2, sR b138, sR b143, sI 1, sI 2] [(.int (2 : Int32)), (.ref f0), (.int (1 : Int32)), (.ref b138)])) _
        refine X174.iaload hx (j := (2 : Int32)) (v := (.int x02)) (by rw [e174]; exact Ar184.1) (State.isArrayOf_alike hZ.alike Ar184.2.1) Ar184.2.2 hin184 (H184.at hin184 rfl) (g := (mkF m 139 #[sR a1, sR l1, sI 0, sR f0, sI 2, sR b138, sR b143, sI 1, sI 2] [(.int (2 : Int32)), (.ref f0), (.int (1 : Int32)), (.ref b138)])) rfl rfl (hb hby dp22_1_139) _ ?_
        show Sg p e below (T174.setTop (mkF m 140 #[sR a1, sR l1, sI 0, sR f0, sI 2, sR b138, sR b143, sI 1, sI 2] [(.int x02), (.int (1 : Int32)), (.ref b138)])) _
        refine XS.bipush X174.here hx rfl (hb hby dp22_1_140) ?_
        refine XS.iushr X174.here hx rfl (hb hby dp22_1_142) rfl ?_
        show Sg p e below (T174.setTop (mkF m 143 #[sR a1, sR l1, sI 0, sR f0, sI 2, sR b138, sR b143, sI 1, sI 2] [(.int ((x02.toUInt32 >>> ((6 : Int32) &&& 31).toUInt32).toInt32)), (.int (1 : Int32)), (.ref b138)])) _
        exact st186 _ k)
      have N189 := Fr.snoc X186 N177 g_b138
      have Z190 : n0 ≤ h186.size := Nat.le_trans Z178 (Keep.of_wr W186).1
      have K191 : Keep h0 h186 [a1] := K179.wr W186 (Or.inr sz_b138)
      have f192 := (v175.other W186 (Ne.symm (Nat.ne_of_lt (Nat.lt_of_lt_of_le B138.lt (Nat.le_of_eq g143.symm)))))
      obtain ⟨cl193, Ar193, -, S193, N193, H193, -⟩ := id f192
      have hin193 : ¬ ((1 : Int32) < 0 ∨ cl193.slots.size ≤ ((1 : Int32)).toNatClampNeg) := inb_of S193 ⟨by decide, by decide⟩
      have f194 := (f180.other W186 (Nat.ne_of_lt (Nat.lt_of_lt_of_le f35.lt (Nat.le_of_eq g138.symm))))
      obtain ⟨cl195, Ar195, -, S195, N195, H195, -⟩ := id f194
      have hin195 : ¬ ((2 : Int32) < 0 ∨ cl195.slots.size ≤ ((2 : Int32)).toNatClampNeg) := inb_of S195 ⟨by decide, by decide⟩
      obtain ⟨cl196, Ar196, q196, S196, N196, H196, G196⟩ := id f192
      obtain ⟨T196, h196, X196, e196, W196, st196⟩ := stJ X186 hx hZ e186 Ar196 (j := (1 : Int32)) (inb_of S196 ⟨by decide, by decide⟩) (g := (mkF m 157 #[sR a1, sR l1, sI 0, sR f0, sI 2, sR b138, sR b143, sI 1, sI 2] [(.long ((0 : Int64) ||| ((1 : Int64) <<< (x02 &&& 0x3f).toInt64))), (.int (1 : Int32)), (.ref b143)])) rfl rfl (hb hby dp22_1_157)
      have v197 : Arv Z h196 b143 k143 .long (2 : Int32) [(.long (((0 : Int64) ||| ((1 : Int64) <<< (x00 &&& 0x3f).toInt64)) ||| ((1 : Int64) <<< (x01 &&& 0x3f).toInt64))), (.long ((0 : Int64) ||| ((1 : Int64) <<< (x02 &&& 0x3f).toInt64)))] (.long (0 : Int64)) := Arv.set Ar196 q196 S196 N196 H196 G196 rfl W196 1 rfl (Nat.le_of_ble_eq_true rfl)
      have P198 : Rg p e below (T196.setTop (mkF m 158 #[sR a1, sR l1, sI 0, sR f0, sI 2, sR b138, sR b143, sI 1, sI 2] [])) B0 := fun t k => P188 t (by
        refine XS.aload X186.here hx rfl (hb hby dp22_1_144) rfl rfl ?_
        refine XS.iload X186.here hx rfl (hb hby dp22_1_146) rfl ?_
        refine XT.dup2 X186.here hx rfl (hb hby dp22_1_148) rfl rfl rfl ?_
        show Sg p e below (T186.setTop (mkF m 149 #[sR a1, sR l1, sI 0, sR f0, sI 2, sR b138, sR b143, sI 1, sI 2] [(.int (1 : Int32)), (.ref b143), (.int (1 : Int32)), (.ref b143)])) _
        refine X186.laload hx (j := (1 : Int32)) (v := (.long (0 : Int64))) (by rw [e186]; exact Ar193.1) (State.isArrayOf_alike hZ.alike Ar193.2.1) Ar193.2.2 hin193 (H193.at hin193 rfl) (g := (mkF m 149 #[sR a1, sR l1, sI 0, sR f0, sI 2, sR b138, sR b143, sI 1, sI 2] [(.int (1 : Int32)), (.ref b143), (.int (1 : Int32)), (.ref b143)])) rfl rfl (hb hby dp22_1_149) _ ?_
        show Sg p e below (T186.setTop (mkF m 150 #[sR a1, sR l1, sI 0, sR f0, sI 2, sR b138, sR b143, sI 1, sI 2] [(.long (0 : Int64)), (.int (1 : Int32)), (.ref b143)])) _
        refine XS.lconst X186.here hx rfl (hb hby dp22_1_150) ?_
        refine XS.aloadN X186.here hx rfl (hb hby dp22_1_151) rfl rfl ?_
        refine XS.iload X186.here hx rfl (hb hby dp22_1_152) rfl ?_
        show Sg p e below (T186.setTop (mkF m 154 #[sR a1, sR l1, sI 0, sR f0, sI 2, sR b138, sR b143, sI 1, sI 2] [(.int (2 : Int32)), (.ref f0), (.long (1 : Int64)), (.long (0 : Int64)), (.int (1 : Int32)), (.ref b143)])) _
        refine X186.iaload hx (j := (2 : Int32)) (v := (.int x02)) (by rw [e186]; exact Ar195.1) (State.isArrayOf_alike hZ.alike Ar195.2.1) Ar195.2.2 hin195 (H195.at hin195 rfl) (g := (mkF m 154 #[sR a1, sR l1, sI 0, sR f0, sI 2, sR b138, sR b143, sI 1, sI 2] [(.int (2 : Int32)), (.ref f0), (.long (1 : Int64)), (.long (0 : Int64)), (.int (1 : Int32)), (.ref b143)])) rfl rfl (hb hby dp22_1_154) _ ?_
        show Sg p e below (T186.setTop (mkF m 155 #[sR a1, sR l1, sI 0, sR f0, sI 2, sR b138, sR b143, sI 1, sI 2] [(.int x02), (.long (1 : Int64)), (.long (0 : Int64)), (.int (1 : Int32)), (.ref b143)])) _
        refine XS.lshl X186.here hx rfl (hb hby dp22_1_155) rfl ?_
        refine XS.lor X186.here hx rfl (hb hby dp22_1_156) rfl ?_
        show Sg p e below (T186.setTop (mkF m 157 #[sR a1, sR l1, sI 0, sR f0, sI 2, sR b138, sR b143, sI 1, sI 2] [(.long ((0 : Int64) ||| ((1 : Int64) <<< (x02 &&& 0x3f).toInt64))), (.int (1 : Int32)), (.ref b143)])) _
        exact st196 _ k)
      have N199 := Fr.snoc X196 N189 g_b143
      have Z200 : n0 ≤ h196.size := Nat.le_trans Z190 (Keep.of_wr W196).1
      have K201 : Keep h0 h196 [a1] := K191.wr W196 (Or.inr sz_b143)
      have f202 := (f194.other W196 (Nat.ne_of_lt (Nat.lt_of_lt_of_le (f35.ext E138).lt (Nat.le_of_eq g143.symm))))
      obtain ⟨cl203, Ar203, -, S203, N203, -, -⟩ := id f202
      have f204 := (((((((((f13.ext E19).other W26 (Or.inr (slot_ne (Or.inr (own_hw hw 20 rfl)) (Or.inr (own_hw hw 24 rfl)) (by decide) (t := (.array (.array .int))) (t' := (.array (.array .long))) (by decide) (by decide)))).ext E138).ext E143).other W152 (Or.inl (Nat.ne_of_lt (Nat.lt_of_lt_of_le f28.lt (Nat.le_of_eq g138.symm))))).other W162 (Or.inl (Nat.ne_of_lt (Nat.lt_of_lt_of_le (f28.ext E138).lt (Nat.le_of_eq g143.symm))))).other W174 (Or.inl (Nat.ne_of_lt (Nat.lt_of_lt_of_le (f28.ext E138).lt (Nat.le_of_eq g143.symm))))).other W186 (Or.inl (Nat.ne_of_lt (Nat.lt_of_lt_of_le f28.lt (Nat.le_of_eq g138.symm))))).other W196 (Or.inl (Nat.ne_of_lt (Nat.lt_of_lt_of_le (f28.ext E138).lt (Nat.le_of_eq g143.symm)))))
      obtain ⟨T205, X205, e205, st205⟩ := getF X196 hx hZ hown (host := "") (Or.inl (own_hw hw 19 rfl)) Via.refl e196 f204 (g := (mkF m 165 #[sR a1, sR l1, sI 0, sR f0, sI 2, sR b138, sR b143, sI 1, sI 3] [(.ref a1)])) rfl rfl (hb hby dp22_1_165)
      have P206 : Rg p e below (T205.setTop (mkF m 168 #[sR a1, sR l1, sI 0, sR f0, sI 2, sR b138, sR b143, sI 1, sI 3] [(.ref b4)])) B0 := fun t k => P198 t (by
        refine XS.iinc X196.here hx rfl (hb hby dp22_1_158) rfl (l' := #[sR a1, sR l1, sI 0, sR f0, sI 2, sR b138, sR b143, sI 1, sI 3]) rfl ?_
        refine XS.goto X196.here hx rfl (pc0 := 161) (pc' := 98) rfl (hb hby dp22_1_161) (by decide) (by decide) ?_
        refine XS.iload X196.here hx rfl (hb hby dp22_1_98) rfl ?_
        refine XS.aloadN X196.here hx rfl (hb hby dp22_1_100) rfl rfl ?_
        show Sg p e below (T196.setTop (mkF m 101 #[sR a1, sR l1, sI 0, sR f0, sI 2, sR b138, sR b143, sI 1, sI 3] [(.ref f0), (.int (3 : Int32))])) _
        refine X196.arraylength hx (by rw [e196]; exact Ar203.1) (State.isArrayOf_alike hZ.alike Ar203.2.1) (g := (mkF m 101 #[sR a1, sR l1, sI 0, sR f0, sI 2, sR b138, sR b143, sI 1, sI 3] [(.ref f0), (.int (3 : Int32))])) rfl rfl (hb hby dp22_1_101) _ ?_
        rw [len_of S203 N203]
        show Sg p e below (T196.setTop (mkF m 102 #[sR a1, sR l1, sI 0, sR f0, sI 2, sR b138, sR b143, sI 1, sI 3] [(.int (3 : Int32)), (.int (3 : Int32))])) _
        refine XS.icmpYes X196.here hx rfl (pc0 := 102) (pc' := 164) rfl (hb hby dp22_1_102) rfl (flt (show ¬ ((3 : Int32) < (3 : Int32)) from (by decide))).2.1 (by decide) (by decide) ?_
        refine XS.aloadN X196.here hx rfl (hb hby dp22_1_164) rfl rfl ?_
        show Sg p e below (T196.setTop (mkF m 165 #[sR a1, sR l1, sI 0, sR f0, sI 2, sR b138, sR b143, sI 1, sI 3] [(.ref a1)])) _
        exact st205 _ k)
      have f207 := ((((((((((v8.other W11 (Ne.symm (Nat.ne_of_lt (Nat.lt_of_lt_of_le Fw.lt (Nat.le_of_eq g4.symm))))).ext E19).other W26 (Ne.symm (Nat.ne_of_lt (Nat.lt_of_lt_of_le Fw.lt (Nat.le_of_eq g4.symm))))).ext E138).ext E143).other W152 (Nat.ne_of_lt (Nat.lt_of_lt_of_le (((v8.other W11 (Ne.symm (Nat.ne_of_lt (Nat.lt_of_lt_of_le Fw.lt (Nat.le_of_eq g4.symm))))).ext E19).other W26 (Ne.symm (Nat.ne_of_lt (Nat.lt_of_lt_of_le Fw.lt (Nat.le_of_eq g4.symm))))).lt (Nat.le_of_eq g138.symm)))).other W162 (Nat.ne_of_lt (Nat.lt_of_lt_of_le ((((v8.other W11 (Ne.symm (Nat.ne_of_lt (Nat.lt_of_lt_of_le Fw.lt (Nat.le_of_eq g4.symm))))).ext E19).other W26 (Ne.symm (Nat.ne_of_lt (Nat.lt_of_lt_of_le Fw.lt (Nat.le_of_eq g4.symm))))).ext E138).lt (Nat.le_of_eq g143.symm)))).other W174 (Nat.ne_of_lt (Nat.lt_of_lt_of_le ((((v8.other W11 (Ne.symm (Nat.ne_of_lt (Nat.lt_of_lt_of_le Fw.lt (Nat.le_of_eq g4.symm))))).ext E19).other W26 (Ne.symm (Nat.ne_of_lt (Nat.lt_of_lt_of_le Fw.lt (Nat.le_of_eq g4.symm))))).ext E138).lt (Nat.le_of_eq g143.symm)))).other W186 (Nat.ne_of_lt (Nat.lt_of_lt_of_le (((v8.other W11 (Ne.symm (Nat.ne_of_lt (Nat.lt_of_lt_of_le Fw.lt (Nat.le_of_eq g4.symm))))).ext E19).other W26 (Ne.symm (Nat.ne_of_lt (Nat.lt_of_lt_of_le Fw.lt (Nat.le_of_eq g4.symm))))).lt (Nat.le_of_eq g138.symm)))).other W196 (Nat.ne_of_lt (Nat.lt_of_lt_of_le ((((v8.other W11 (Ne.symm (Nat.ne_of_lt (Nat.lt_of_lt_of_le Fw.lt (Nat.le_of_eq g4.symm))))).ext E19).other W26 (Ne.symm (Nat.ne_of_lt (Nat.lt_of_lt_of_le Fw.lt (Nat.le_of_eq g4.symm))))).ext E138).lt (Nat.le_of_eq g143.symm))))
      have f209 := ((((((B138.ext E143).wr W152).wr W162).wr W174).wr W186).wr W196)
      obtain ⟨cl208, Ar208, q208, S208, N208, H208, G208⟩ := id f207
      obtain ⟨T208, h208, X208, e208, W208, st208⟩ := stR X205 hx hZ e205 Ar208 (j := (0 : Int32)) (inb_of S208 ⟨by decide, by decide⟩) rfl (Sto.ofVA Ar208 q208 O4 (Ins.self f209)) (g := (mkF m 171 #[sR a1, sR l1, sI 0, sR f0, sI 2, sR b138, sR b143, sI 1, sI 3] [(.ref b138), (.int (0 : Int32)), (.ref b4)])) rfl rfl (hb hby dp22_1_171)
      have v210 : Arv Z h208 b4 k4 (.array .int) (1 : Int32) [(.ref b138)] .null := Arv.set Ar208 q208 S208 N208 H208 G208 rfl W208 0 rfl (Nat.le_of_ble_eq_true rfl)
      have P211 : Rg p e below (T208.setTop (mkF m 172 #[sR a1, sR l1, sI 0, sR f0, sI 2, sR b138, sR b143, sI 1, sI 3] [])) B0 := fun t k => P206 t (by
        refine XS.iloadN X205.here hx rfl (hb hby dp22_1_168) rfl ?_
        refine XS.aload X205.here hx rfl (hb hby dp22_1_169) rfl rfl ?_
        show Sg p e below (T205.setTop (mkF m 171 #[sR a1, sR l1, sI 0, sR f0, sI 2, sR b138, sR b143, sI 1, sI 3] [(.ref b138), (.int (0 : Int32)), (.ref b4)])) _
        exact st208 _ k)
      have N212 := Fr.snoc X208 N199 g_b4
      have Z213 : n0 ≤ h208.size := Nat.le_trans Z200 (Keep.of_wr W208).1
      have K214 : Keep h0 h208 [a1] := K201.wr W208 (Or.inr sz_b4)
      have f215 := ((((((((f28.ext E138).ext E143).other W152 (Or.inl (Nat.ne_of_lt (Nat.lt_of_lt_of_le f28.lt (Nat.le_of_eq g138.symm))))).other W162 (Or.inl (Nat.ne_of_lt (Nat.lt_of_lt_of_le (f28.ext E138).lt (Nat.le_of_eq g143.symm))))).other W174 (Or.inl (Nat.ne_of_lt (Nat.lt_of_lt_of_le (f28.ext E138).lt (Nat.le_of_eq g143.symm))))).other W186 (Or.inl (Nat.ne_of_lt (Nat.lt_of_lt_of_le f28.lt (Nat.le_of_eq g138.symm))))).other W196 (Or.inl (Nat.ne_of_lt (Nat.lt_of_lt_of_le (f28.ext E138).lt (Nat.le_of_eq g143.symm))))).other W208 (Or.inl (Nat.ne_of_lt (Nat.lt_of_lt_of_le Fw.lt (Nat.le_of_eq g4.symm)))))
      obtain ⟨T216, X216, e216, st216⟩ := getF X208 hx hZ hown (host := "") (Or.inl (own_hw hw 23 rfl)) Via.refl e208 f215 (g := (mkF m 173 #[sR a1, sR l1, sI 0, sR f0, sI 2, sR b138, sR b143, sI 1, sI 3] [(.ref a1)])) rfl rfl (hb hby dp22_1_173)
      have P217 : Rg p e below (T216.setTop (mkF m 176 #[sR a1, sR l1, sI 0, sR f0, sI 2, sR b138, sR b143, sI 1, sI 3] [(.ref b19)])) B0 := fun t k => P211 t (by
        refine XS.aloadN X208.here hx rfl (hb hby dp22_1_172) rfl rfl ?_
        show Sg p e below (T208.setTop (mkF m 173 #[sR a1, sR l1, sI 0, sR f0, sI 2, sR b138, sR b143, sI 1, sI 3] [(.ref a1)])) _
        exact st216 _ k)
      have f218 := (((((((((v23.other W26 (Ne.symm (Nat.ne_of_lt (Nat.lt_of_lt_of_le f13.lt (Nat.le_of_eq g19.symm))))).ext E138).ext E143).other W152 (Nat.ne_of_lt (Nat.lt_of_lt_of_le (v23.other W26 (Ne.symm (Nat.ne_of_lt (Nat.lt_of_lt_of_le f13.lt (Nat.le_of_eq g19.symm))))).lt (Nat.le_of_eq g138.symm)))).other W162 (Nat.ne_of_lt (Nat.lt_of_lt_of_le ((v23.other W26 (Ne.symm (Nat.ne_of_lt (Nat.lt_of_lt_of_le f13.lt (Nat.le_of_eq g19.symm))))).ext E138).lt (Nat.le_of_eq g143.symm)))).other W174 (Nat.ne_of_lt (Nat.lt_of_lt_of_le ((v23.other W26 (Ne.symm (Nat.ne_of_lt (Nat.lt_of_lt_of_le f13.lt (Nat.le_of_eq g19.symm))))).ext E138).lt (Nat.le_of_eq g143.symm)))).other W186 (Nat.ne_of_lt (Nat.lt_of_lt_of_le (v23.other W26 (Ne.symm (Nat.ne_of_lt (Nat.lt_of_lt_of_le f13.lt (Nat.le_of_eq g19.symm))))).lt (Nat.le_of_eq g138.symm)))).other W196 (Nat.ne_of_lt (Nat.lt_of_lt_of_le ((v23.other W26 (Ne.symm (Nat.ne_of_lt (Nat.lt_of_lt_of_le f13.lt (Nat.le_of_eq g19.symm))))).ext E138).lt (Nat.le_of_eq g143.symm)))).other W208 (Ne.symm (Nat.ne_of_lt (Nat.lt_of_lt_of_le (v8.other W11 (Ne.symm (Nat.ne_of_lt (Nat.lt_of_lt_of_le Fw.lt (Nat.le_of_eq g4.symm))))).lt (Nat.le_of_eq g19.symm)))))
      have f220 := ((((((B143.wr W152).wr W162).wr W174).wr W186).wr W196).wr W208)
      obtain ⟨cl219, Ar219, q219, S219, N219, H219, G219⟩ := id f218
      obtain ⟨T219, h219, X219, e219, W219, st219⟩ := stR X216 hx hZ e216 Ar219 (j := (0 : Int32)) (inb_of S219 ⟨by decide, by decide⟩) rfl (Sto.ofVA Ar219 q219 O19 (Ins.self f220)) (g := (mkF m 179 #[sR a1, sR l1, sI 0, sR f0, sI 2, sR b138, sR b143, sI 1, sI 3] [(.ref b143), (.int (0 : Int32)), (.ref b19)])) rfl rfl (hb hby dp22_1_179)
      have v221 : Arv Z h219 b19 k19 (.array .long) (1 : Int32) [(.ref b143)] .null := Arv.set Ar219 q219 S219 N219 H219 G219 rfl W219 0 rfl (Nat.le_of_ble_eq_true rfl)
      have P222 : Rg p e below (T219.setTop (mkF m 180 #[sR a1, sR l1, sI 0, sR f0, sI 2, sR b138, sR b143, sI 1, sI 3] [])) B0 := fun t k => P217 t (by
        refine XS.iloadN X216.here hx rfl (hb hby dp22_1_176) rfl ?_
        refine XS.aload X216.here hx rfl (hb hby dp22_1_177) rfl rfl ?_
        show Sg p e below (T216.setTop (mkF m 179 #[sR a1, sR l1, sI 0, sR f0, sI 2, sR b138, sR b143, sI 1, sI 3] [(.ref b143), (.int (0 : Int32)), (.ref b19)])) _
        exact st219 _ k)
      have N223 := Fr.snoc X219 N212 g_b19
      have Z224 : n0 ≤ h219.size := Nat.le_trans Z213 (Keep.of_wr W219).1
      have K225 : Keep h0 h219 [a1] := K214.wr W219 (Or.inr sz_b19)
      have f226 := (((((((((f32.ext E138).ext E143).other W152 (Nat.ne_of_lt (Nat.lt_of_lt_of_le f32.lt (Nat.le_of_eq g138.symm)))).other W162 (Nat.ne_of_lt (Nat.lt_of_lt_of_le (f32.ext E138).lt (Nat.le_of_eq g143.symm)))).other W174 (Nat.ne_of_lt (Nat.lt_of_lt_of_le (f32.ext E138).lt (Nat.le_of_eq g143.symm)))).other W186 (Nat.ne_of_lt (Nat.lt_of_lt_of_le f32.lt (Nat.le_of_eq g138.symm)))).other W196 (Nat.ne_of_lt (Nat.lt_of_lt_of_le (f32.ext E138).lt (Nat.le_of_eq g143.symm)))).other W208 (Nat.ne_of_lt (Nat.lt_of_lt_of_le Al.lt (Nat.le_of_eq g4.symm)))).other W219 (Nat.ne_of_lt (Nat.lt_of_lt_of_le f17.lt (Nat.le_of_eq g19.symm))))
      obtain ⟨cl227, Ar227, -, S227, N227, -, -⟩ := id f226
      have f228 := (((v187.other W196 (Nat.ne_of_lt (Nat.lt_of_lt_of_le B138.lt (Nat.le_of_eq g143.symm)))).other W208 (Ne.symm (Nat.ne_of_lt (Nat.lt_of_lt_of_le (((v8.other W11 (Ne.symm (Nat.ne_of_lt (Nat.lt_of_lt_of_le Fw.lt (Nat.le_of_eq g4.symm))))).ext E19).other W26 (Ne.symm (Nat.ne_of_lt (Nat.lt_of_lt_of_le Fw.lt (Nat.le_of_eq g4.symm))))).lt (Nat.le_of_eq g138.symm))))).other W219 (Ne.symm (Nat.ne_of_lt (Nat.lt_of_lt_of_le (v23.other W26 (Ne.symm (Nat.ne_of_lt (Nat.lt_of_lt_of_le f13.lt (Nat.le_of_eq g19.symm))))).lt (Nat.le_of_eq g138.symm)))))
      have f229 := ((v197.other W208 (Ne.symm (Nat.ne_of_lt (Nat.lt_of_lt_of_le ((((v8.other W11 (Ne.symm (Nat.ne_of_lt (Nat.lt_of_lt_of_le Fw.lt (Nat.le_of_eq g4.symm))))).ext E19).other W26 (Ne.symm (Nat.ne_of_lt (Nat.lt_of_lt_of_le Fw.lt (Nat.le_of_eq g4.symm))))).ext E138).lt (Nat.le_of_eq g143.symm))))).other W219 (Ne.symm (Nat.ne_of_lt (Nat.lt_of_lt_of_le ((v23.other W26 (Ne.symm (Nat.ne_of_lt (Nat.lt_of_lt_of_le f13.lt (Nat.le_of_eq g19.symm))))).ext E138).lt (Nat.le_of_eq g143.symm)))))
      have f230 := ((f209.wr W208).wr W219)
      have f231 := (f220.wr W219)
      have f232 := ((((((((((f25.wr W26).ext E138).ext E143).wr W152).wr W162).wr W174).wr W186).wr W196).wr W208).wr W219)
      have f233 := ((f204.other W208 (Or.inl (Nat.ne_of_lt (Nat.lt_of_lt_of_le Fw.lt (Nat.le_of_eq g4.symm))))).other W219 (Or.inl (Nat.ne_of_lt (Nat.lt_of_lt_of_le f13.lt (Nat.le_of_eq g19.symm)))))
      have f234 := (f215.other W219 (Or.inl (Nat.ne_of_lt (Nat.lt_of_lt_of_le f13.lt (Nat.le_of_eq g19.symm)))))
      have f235 := (v210.other W219 (Nat.ne_of_lt (Nat.lt_of_lt_of_le (v8.other W11 (Ne.symm (Nat.ne_of_lt (Nat.lt_of_lt_of_le Fw.lt (Nat.le_of_eq g4.symm))))).lt (Nat.le_of_eq g19.symm))))
      obtain ⟨fs236, hr236, hrun236, hended236, hW236, hsame236⟩ := X219.leave (v := none) (fun _ => rfl)
      refine ⟨_, _, pre0 _ (P222 _ ?_), hrun236, hended236, _, _, rfl, ?_, ⟨⟨_, rfl⟩, hW236, hsame236.mono (Nat.le_of_ble_eq_true rfl) (Nat.le_of_ble_eq_true rfl)⟩⟩
      · show Sg p e below (T219.setTop (mkF m 180 #[sR a1, sR l1, sI 0, sR f0, sI 2, sR b138, sR b143, sI 1, sI 3] [])) _
        refine XS.iinc X219.here hx rfl (hb hby dp22_1_180) rfl (l' := #[sR a1, sR l1, sI 1, sR f0, sI 2, sR b138, sR b143, sI 1, sI 3]) rfl ?_
        refine XS.goto X219.here hx rfl (pc0 := 183) (pc' := 24) rfl (hb hby dp22_1_183) (by decide) (by decide) ?_
        refine XS.iloadN X219.here hx rfl (hb hby dp22_1_24) rfl ?_
        refine XS.aloadN X219.here hx rfl (hb hby dp22_1_25) rfl rfl ?_
        show Sg p e below (T219.setTop (mkF m 26 #[sR a1, sR l1, sI 1, sR f0, sI 2, sR b138, sR b143, sI 1, sI 3] [(.ref l1), (.int (1 : Int32))])) _
        refine X219.arraylength hx (by rw [e219]; exact Ar227.1) (State.isArrayOf_alike hZ.alike Ar227.2.1) (g := (mkF m 26 #[sR a1, sR l1, sI 1, sR f0, sI 2, sR b138, sR b143, sI 1, sI 3] [(.ref l1), (.int (1 : Int32))])) rfl rfl (hb hby dp22_1_26) _ ?_
        rw [len_of S227 N227]
        show Sg p e below (T219.setTop (mkF m 27 #[sR a1, sR l1, sI 1, sR f0, sI 2, sR b138, sR b143, sI 1, sI 3] [(.int (1 : Int32)), (.int (1 : Int32))])) _
        refine XS.icmpYes X219.here hx rfl (pc0 := 27) (pc' := 186) rfl (hb hby dp22_1_27) rfl (flt (show ¬ ((1 : Int32) < (1 : Int32)) from (by decide))).2.1 (by decide) (by decide) ?_
        show Sg p e below (T219.setTop (mkF m 186 #[sR a1, sR l1, sI 1, sR f0, sI 2, sR b138, sR b143, sI 1, sI 3] [])) _
        exact X219.returnOut hx Bd.returns (hb hby dp22_1_186) hr236
      · show Q_wsInit Z a1 x00 x01 x02 h0 n0 _ T219.heap _
        rw [e219]
        exact ⟨rfl, N223, K225, f232, b4, b19, _, _, b138, b143, f233, f234, f235, v221, sz_b4, sz_b19, ⟨_, _, ([((x00.toUInt32 >>> ((6 : Int32) &&& 31).toUInt32).toInt32), ((x02.toUInt32 >>> ((6 : Int32) &&& 31).toUInt32).toInt32)] : List Int32), ([(((0 : Int64) ||| ((1 : Int64) <<< (x00 &&& 0x3f).toInt64)) ||| ((1 : Int64) <<< (x01 &&& 0x3f).toInt64)), ((0 : Int64) ||| ((1 : Int64) <<< (x02 &&& 0x3f).toInt64))] : List Int64), (2 : Int32), ((if_pos q41).trans ((if_neg q46))).symm, ((if_pos q41).trans ((if_neg q46))).symm, rfl, f228, f229, f230, f231, sz_b138, sz_b143⟩⟩
  · skip
    obtain ⟨cl237, Ar237, -, S237, N237, -, -⟩ := id f35
    obtain ⟨cl238, Ar238, -, S238, N238, H238, -⟩ := id f35
    have hin238 : ¬ ((2 : Int32) < 0 ∨ cl238.slots.size ≤ ((2 : Int32)).toNatClampNeg) := inb_of S238 ⟨by decide, by decide⟩
    obtain ⟨cl239, Ar239, -, S239, N239, H239, -⟩ := id f35
    have hin239 : ¬ ((1 : Int32) < 0 ∨ cl239.slots.size ≤ ((1 : Int32)).toNatClampNeg) := inb_of S239 ⟨by decide, by decide⟩
    have P240 : Rg p e below (T26.setTop (mkF m 68 #[sR a1, sR l1, sI 0, sR f0, sI 2, sI 2, sU, sU, sU] [(.int ((x01.toUInt32 >>> ((6 : Int32) &&& 31).toUInt32).toInt32)), (.int ((x02.toUInt32 >>> ((6 : Int32) &&& 31).toUInt32).toInt32))])) B0 := fun t k => P40 t (by
      refine XS.icmpNo X26.here hx rfl (hb hby dp22_1_68) rfl (feq (show ¬ (((x01.toUInt32 >>> ((6 : Int32) &&& 31).toUInt32).toInt32) = ((x00.toUInt32 >>> ((6 : Int32) &&& 31).toUInt32).toInt32)) from q41)).1 ?_
      refine XS.iinc X26.here hx rfl (hb hby dp22_1_71) rfl (l' := #[sR a1, sR l1, sI 0, sR f0, sI 2, sI 1, sU, sU, sU]) rfl ?_
      refine XS.iinc X26.here hx rfl (hb hby dp22_1_74) rfl (l' := #[sR a1, sR l1, sI 0, sR f0, sI 2, sI 2, sU, sU, sU]) rfl ?_
      refine XS.goto X26.here hx rfl (pc0 := 77) (pc' := 40) rfl (hb hby dp22_1_77) (by decide) (by decide) ?_
      refine XS.iload X26.here hx rfl (hb hby dp22_1_40) rfl ?_
      refine XS.aloadN X26.here hx rfl (hb hby dp22_1_42) rfl rfl ?_
      show Sg p e below (T26.setTop (mkF m 43 #[sR a1, sR l1, sI 0, sR f0, sI 2, sI 2, sU, sU, sU] [(.ref f0), (.int (2 : Int32))])) _
      refine X26.arraylength hx (by rw [e26]; exact Ar237.1) (State.isArrayOf_alike hZ.alike Ar237.2.1) (g := (mkF m 43 #[sR a1, sR l1, sI 0, sR f0, sI 2, sI 2, sU, sU, sU] [(.ref f0), (.int (2 : Int32))])) rfl rfl (hb hby dp22_1_43) _ ?_
      rw [len_of S237 N237]
      show Sg p e below (T26.setTop (mkF m 44 #[sR a1, sR l1, sI 0, sR f0, sI 2, sI 2, sU, sU, sU] [(.int (3 : Int32)), (.int (2 : Int32))])) _
      refine XS.icmpNo X26.here hx rfl (hb hby dp22_1_44) rfl (tlt (show (2 : Int32) < (3 : Int32) from (by decide))).2.1 ?_
      refine XS.iload X26.here hx rfl (hb hby dp22_1_47) rfl ?_
      refine XS.ifNo X26.here hx rfl (hb hby dp22_1_49) rfl ((if0 _ _).trans (feq (show ¬ ((2 : Int32) = (0 : Int32)) from (by decide))).1) ?_
      refine XS.aloadN X26.here hx rfl (hb hby dp22_1_52) rfl rfl ?_
      refine XS.iload X26.here hx rfl (hb hby dp22_1_53) rfl ?_
      show Sg p e below (T26.setTop (mkF m 55 #[sR a1, sR l1, sI 0, sR f0, sI 2, sI 2, sU, sU, sU] [(.int (2 : Int32)), (.ref f0)])) _
      refine X26.iaload hx (j := (2 : Int32)) (v := (.int x02)) (by rw [e26]; exact Ar238.1) (State.isArrayOf_alike hZ.alike Ar238.2.1) Ar238.2.2 hin238 (H238.at hin238 rfl) (g := (mkF m 55 #[sR a1, sR l1, sI 0, sR f0, sI 2, sI 2, sU, sU, sU] [(.int (2 : Int32)), (.ref f0)])) rfl rfl (hb hby dp22_1_55) _ ?_
      show Sg p e below (T26.setTop (mkF m 56 #[sR a1, sR l1, sI 0, sR f0, sI 2, sI 2, sU, sU, sU] [(.int x02)])) _
      refine XS.bipush X26.here hx rfl (hb hby dp22_1_56) ?_
      refine XS.iushr X26.here hx rfl (hb hby dp22_1_58) rfl ?_
      refine XS.aloadN X26.here hx rfl (hb hby dp22_1_59) rfl rfl ?_
      refine XS.iload X26.here hx rfl (hb hby dp22_1_60) rfl ?_
      refine XS.iconst X26.here hx rfl (hb hby dp22_1_62) ?_
      refine XS.isub X26.here hx rfl (hb hby dp22_1_63) rfl ?_
      show Sg p e below (T26.setTop (mkF m 64 #[sR a1, sR l1, sI 0, sR f0, sI 2, sI 2, sU, sU, sU] [(.int (1 : Int32)), (.ref f0), (.int ((x02.toUInt32 >>> ((6 : Int32) &&& 31).toUInt32).toInt32))])) _
      refine X26.iaload hx (j := (1 : Int32)) (v := (.int x01)) (by rw [e26]; exact Ar239.1) (State.isArrayOf_alike hZ.alike Ar239.2.1) Ar239.2.2 hin239 (H239.at hin239 rfl) (g := (mkF m 64 #[sR a1, sR l1, sI 0, sR f0, sI 2, sI 2, sU, sU, sU] [(.int (1 : Int32)), (.ref f0), (.int ((x02.toUInt32 >>> ((6 : Int32) &&& 31).toUInt32).toInt32))])) rfl rfl (hb hby dp22_1_64) _ ?_
      show Sg p e below (T26.setTop (mkF m 65 #[sR a1, sR l1, sI 0, sR f0, sI 2, sI 2, sU, sU, sU] [(.int x01), (.int ((x02.toUInt32 >>> ((6 : Int32) &&& 31).toUInt32).toInt32))])) _
      refine XS.bipush X26.here hx rfl (hb hby dp22_1_65) ?_
      refine XS.iushr X26.here hx rfl (hb hby dp22_1_67) rfl ?_
      show Sg p e below (T26.setTop (mkF m 68 #[sR a1, sR l1, sI 0, sR f0, sI 2, sI 2, sU, sU, sU] [(.int ((x01.toUInt32 >>> ((6 : Int32) &&& 31).toUInt32).toInt32)), (.int ((x02.toUInt32 >>> ((6 : Int32) &&& 31).toUInt32).toInt32))])) _
      exact k)
    by_cases q241 : ((x02.toUInt32 >>> ((6 : Int32) &&& 31).toUInt32).toInt32) = ((x01.toUInt32 >>> ((6 : Int32) &&& 31).toUInt32).toInt32)
    · skip
      obtain ⟨cl242, Ar242, -, S242, N242, -, -⟩ := id f35
      obtain ⟨T243, h243, k243, X243, e243, E243, A243, B243, st243⟩ := newPE X26 hx hZ (own_hw hw 7 rfl) e26 (g := (mkF m 82 #[sR a1, sR l1, sI 0, sR f0, sI 2, sI 3, sU, sU, sU] [(.int (2 : Int32))])) rfl (hb hby dp22_1_82) rfl (by decide) (cap := 2) (by decide) (by decide) (by decide) (by decide) (ad := "[I") (by decide)
      obtain ⟨b243, g243⟩ : ∃ z, z = h26.size := ⟨_, rfl⟩
      rw [← g243] at A243 B243 st243
      have g_b243 : n0 ≤ b243 := Nat.le_trans Z30 (Nat.le_of_eq g243.symm)
      have sz_b243 : h0.size ≤ b243 := Nat.le_trans K31.1 (Nat.le_of_eq g243.symm)
      have P244 : Rg p e below (T243.setTop (mkF m 84 #[sR a1, sR l1, sI 0, sR f0, sI 2, sI 3, sU, sU, sU] [(.ref b243)])) B0 := fun t k => P240 t (by
        refine XS.icmpYes X26.here hx rfl (pc0 := 68) (pc' := 74) rfl (hb hby dp22_1_68) rfl (teq (show ((x02.toUInt32 >>> ((6 : Int32) &&& 31).toUInt32).toInt32) = ((x01.toUInt32 >>> ((6 : Int32) &&& 31).toUInt32).toInt32) from q241)).1 (by decide) (by decide) ?_
        refine XS.iinc X26.here hx rfl (hb hby dp22_1_74) rfl (l' := #[sR a1, sR l1, sI 0, sR f0, sI 2, sI 3, sU, sU, sU]) rfl ?_
        refine XS.goto X26.here hx rfl (pc0 := 77) (pc' := 40) rfl (hb hby dp22_1_77) (by decide) (by decide) ?_
        refine XS.iload X26.here hx rfl (hb hby dp22_1_40) rfl ?_
        refine XS.aloadN X26.here hx rfl (hb hby dp22_1_42) rfl rfl ?_
        show Sg p e below (T26.setTop (mkF m 43 #[sR a1, sR l1, sI 0, sR f0, sI 2, sI 3, sU, sU, sU] [(.ref f0), (.int (3 : Int32))])) _
        refine X26.arraylength hx (by rw [e26]; exact Ar242.1) (State.isArrayOf_alike hZ.alike Ar242.2.1) (g := (mkF m 43 #[sR a1, sR l1, sI 0, sR f0, sI 2, sI 3, sU, sU, sU] [(.ref f0), (.int (3 : Int32))])) rfl rfl (hb hby dp22_1_43) _ ?_
        rw [len_of S242 N242]
        show Sg p e below (T26.setTop (mkF m 44 #[sR a1, sR l1, sI 0, sR f0, sI 2, sI 3, sU, sU, sU] [(.int (3 : Int32)), (.int (3 : Int32))])) _
        refine XS.icmpYes X26.here hx rfl (pc0 := 44) (pc' := 80) rfl (hb hby dp22_1_44) rfl (flt (show ¬ ((3 : Int32) < (3 : Int32)) from (by decide))).2.1 (by decide) (by decide) ?_
        refine XS.iload X26.here hx rfl (hb hby dp22_1_80) rfl ?_
        show Sg p e below (T26.setTop (mkF m 82 #[sR a1, sR l1, sI 0, sR f0, sI 2, sI 3, sU, sU, sU] [(.int (2 : Int32))])) _
        exact st243 _ k)
      have Z245 : n0 ≤ h243.size := Nat.le_trans Z30 E243.1
      have K246 : Keep h0 h243 [a1] := K31.ext E243
      have v247 : Arv Z h243 b243 k243 .int (2 : Int32) [(.int (0 : Int32)), (.int (0 : Int32))] (.int (0 : Int32)) := (Arv.new A243 (by decide)).pad (pad_rep [] (.int (0 : Int32)) 2)
      obtain ⟨T248, h248, k248, X248, e248, E248, A248, B248, st248⟩ := newPE X243 hx hZ (own_hw hw 25 rfl) e243 (g := (mkF m 88 #[sR a1, sR l1, sI 0, sR f0, sI 2, sR b243, sU, sU, sU] [(.int (2 : Int32))])) rfl (hb hby dp22_1_88) rfl (by decide) (cap := 2) (by decide) (by decide) (by decide) (by decide) (ad := "[J") (by decide)
      obtain ⟨b248, g248⟩ : ∃ z, z = h243.size := ⟨_, rfl⟩
      rw [← g248] at A248 B248 st248
      have g_b248 : n0 ≤ b248 := Nat.le_trans Z245 (Nat.le_of_eq g248.symm)
      have sz_b248 : h0.size ≤ b248 := Nat.le_trans K246.1 (Nat.le_of_eq g248.symm)
      have P249 : Rg p e below (T248.setTop (mkF m 90 #[sR a1, sR l1, sI 0, sR f0, sI 2, sR b243, sU, sU, sU] [(.ref b248)])) B0 := fun t k => P244 t (by
        refine XS.astore X243.here hx rfl (hb hby dp22_1_84) rfl rfl (l' := #[sR a1, sR l1, sI 0, sR f0, sI 2, sR b243, sU, sU, sU]) rfl ?_
        refine XS.iload X243.here hx rfl (hb hby dp22_1_86) rfl ?_
        show Sg p e below (T243.setTop (mkF m 88 #[sR a1, sR l1, sI 0, sR f0, sI 2, sR b243, sU, sU, sU] [(.int (2 : Int32))])) _
        exact st248 _ k)
      have Z250 : n0 ≤ h248.size := Nat.le_trans Z245 E248.1
      have K251 : Keep h0 h248 [a1] := K246.ext E248
      have v252 : Arv Z h248 b248 k248 .long (2 : Int32) [(.long (0 : Int64)), (.long (0 : Int64))] (.long (0 : Int64)) := (Arv.new A248 (by decide)).pad (pad_rep [] (.long (0 : Int64)) 2)
      have f253 := ((f35.ext E243).ext E248)
      obtain ⟨cl254, Ar254, -, S254, N254, -, -⟩ := id f253
      obtain ⟨cl255, Ar255, -, S255, N255, H255, -⟩ := id f253
      have hin255 : ¬ ((0 : Int32) < 0 ∨ cl255.slots.size ≤ ((0 : Int32)).toNatClampNeg) := inb_of S255 ⟨by decide, by decide⟩
      have f256 := (v247.ext E248)
      obtain ⟨cl257, Ar257, q257, S257, N257, H257, G257⟩ := id f256
      obtain ⟨T257, h257, X257, e257, W257, st257⟩ := stI X248 hx hZ e248 Ar257 (j := (0 : Int32)) (inb_of S257 ⟨by decide, by decide⟩) (g := (mkF m 143 #[sR a1, sR l1, sI 0, sR f0, sI 2, sR b243, sR b248, sI 0, sI 0] [(.int ((x00.toUInt32 >>> ((6 : Int32) &&& 31).toUInt32).toInt32)), (.int (0 : Int32)), (.ref b243)])) rfl rfl (hb hby dp22_1_143)
      have v258 : Arv Z h257 b243 k243 .int (2 : Int32) [(.int ((x00.toUInt32 >>> ((6 : Int32) &&& 31).toUInt32).toInt32)), (.int (0 : Int32))] (.int (0 : Int32)) := Arv.set Ar257 q257 S257 N257 H257 G257 rfl W257 0 rfl (Nat.le_of_ble_eq_true rfl)
      have P259 : Rg p e below (T257.setTop (mkF m 144 #[sR a1, sR l1, sI 0, sR f0, sI 2, sR b243, sR b248, sI 0, sI 0] [])) B0 := fun t k => P249 t (by
        refine XS.astore X248.here hx rfl (hb hby dp22_1_90) rfl rfl (l' := #[sR a1, sR l1, sI 0, sR f0, sI 2, sR b243, sR b248, sU, sU]) rfl ?_
        refine XS.iconst X248.here hx rfl (hb hby dp22_1_92) ?_
        refine XS.istore X248.here hx rfl (hb hby dp22_1_93) rfl (l' := #[sR a1, sR l1, sI 0, sR f0, sI 2, sR b243, sR b248, sI (-1), sU]) rfl ?_
        refine XS.iconst X248.here hx rfl (hb hby dp22_1_95) ?_
        refine XS.istore X248.here hx rfl (hb hby dp22_1_96) rfl (l' := #[sR a1, sR l1, sI 0, sR f0, sI 2, sR b243, sR b248, sI (-1), sI 0]) rfl ?_
        refine XS.iload X248.here hx rfl (hb hby dp22_1_98) rfl ?_
        refine XS.aloadN X248.here hx rfl (hb hby dp22_1_100) rfl rfl ?_
        show Sg p e below (T248.setTop (mkF m 101 #[sR a1, sR l1, sI 0, sR f0, sI 2, sR b243, sR b248, sI (-1), sI 0] [(.ref f0), (.int (0 : Int32))])) _
        refine X248.arraylength hx (by rw [e248]; exact Ar254.1) (State.isArrayOf_alike hZ.alike Ar254.2.1) (g := (mkF m 101 #[sR a1, sR l1, sI 0, sR f0, sI 2, sR b243, sR b248, sI (-1), sI 0] [(.ref f0), (.int (0 : Int32))])) rfl rfl (hb hby dp22_1_101) _ ?_
        rw [len_of S254 N254]
        show Sg p e below (T248.setTop (mkF m 102 #[sR a1, sR l1, sI 0, sR f0, sI 2, sR b243, sR b248, sI (-1), sI 0] [(.int (3 : Int32)), (.int (0 : Int32))])) _
        refine XS.icmpNo X248.here hx rfl (hb hby dp22_1_102) rfl (tlt (show (0 : Int32) < (3 : Int32) from (by decide))).2.1 ?_
        refine XS.iload X248.here hx rfl (hb hby dp22_1_105) rfl ?_
        refine XS.ifYes X248.here hx rfl (pc0 := 107) (pc' := 129) rfl (hb hby dp22_1_107) rfl ((if0 _ _).trans (teq (show (0 : Int32) = (0 : Int32) from (by decide))).1) (by decide) (by decide) ?_
        refine XS.aload X248.here hx rfl (hb hby dp22_1_129) rfl rfl ?_
        refine XS.iinc X248.here hx rfl (hb hby dp22_1_131) rfl (l' := #[sR a1, sR l1, sI 0, sR f0, sI 2, sR b243, sR b248, sI 0, sI 0]) rfl ?_
        refine XS.iload X248.here hx rfl (hb hby dp22_1_134) rfl ?_
        refine XS.aloadN X248.here hx rfl (hb hby dp22_1_136) rfl rfl ?_
        refine XS.iload X248.here hx rfl (hb hby dp22_1_137) rfl ?_
        show Sg p e below (T248.setTop (mkF m 139 #[sR a1, sR l1, sI 0, sR f0, sI 2, sR b243, sR b248, sI 0, sI 0] [(.int (0 : Int32)), (.ref f0), (.int (0 : Int32)), (.ref b243)])) _
        refine X248.iaload hx (j := (0 : Int32)) (v := (.int x00)) (by rw [e248]; exact Ar255.1) (State.isArrayOf_alike hZ.alike Ar255.2.1) Ar255.2.2 hin255 (H255.at hin255 rfl) (g := (mkF m 139 #[sR a1, sR l1, sI 0, sR f0, sI 2, sR b243, sR b248, sI 0, sI 0] [(.int (0 : Int32)), (.ref f0), (.int (0 : Int32)), (.ref b243)])) rfl rfl (hb hby dp22_1_139) _ ?_
        show Sg p e below (T248.setTop (mkF m 140 #[sR a1, sR l1, sI 0, sR f0, sI 2, sR b243, sR b248, sI 0, sI 0] [(.int x00), (.int (0 : Int32)), (.ref b243)])) _
        refine XS.bipush X248.here hx rfl (hb hby dp22_1_140) ?_
        refine XS.iushr X248.here hx rfl (hb hby dp22_1_142) rfl ?_
        show Sg p e below (T248.setTop (mkF m 143 #[sR a1, sR l1, sI 0, sR f0, sI 2, sR b243, sR b248, sI 0, sI 0] [(.int ((x00.toUInt32 >>> ((6 : Int32) &&& 31).toUInt32).toInt32)), (.int (0 : Int32)), (.ref b243)])) _
        exact st257 _ k)
      have N260 := Fr.snoc X257 N29 g_b243
      have Z261 : n0 ≤ h257.size := Nat.le_trans Z250 (Keep.of_wr W257).1
      have K262 : Keep h0 h257 [a1] := K251.wr W257 (Or.inr sz_b243)
      have f263 := (v252.other W257 (Ne.symm (Nat.ne_of_lt (Nat.lt_of_lt_of_le B243.lt (Nat.le_of_eq g248.symm)))))
      obtain ⟨cl264, Ar264, -, S264, N264, H264, -⟩ := id f263
      have hin264 : ¬ ((0 : Int32) < 0 ∨ cl264.slots.size ≤ ((0 : Int32)).toNatClampNeg) := inb_of S264 ⟨by decide, by decide⟩
      have f265 := (f253.other W257 (Nat.ne_of_lt (Nat.lt_of_lt_of_le f35.lt (Nat.le_of_eq g243.symm))))
      obtain ⟨cl266, Ar266, -, S266, N266, H266, -⟩ := id f265
      have hin266 : ¬ ((0 : Int32) < 0 ∨ cl266.slots.size ≤ ((0 : Int32)).toNatClampNeg) := inb_of S266 ⟨by decide, by decide⟩
      obtain ⟨cl267, Ar267, q267, S267, N267, H267, G267⟩ := id f263
      obtain ⟨T267, h267, X267, e267, W267, st267⟩ := stJ X257 hx hZ e257 Ar267 (j := (0 : Int32)) (inb_of S267 ⟨by decide, by decide⟩) (g := (mkF m 157 #[sR a1, sR l1, sI 0, sR f0, sI 2, sR b243, sR b248, sI 0, sI 0] [(.long ((0 : Int64) ||| ((1 : Int64) <<< (x00 &&& 0x3f).toInt64))), (.int (0 : Int32)), (.ref b248)])) rfl rfl (hb hby dp22_1_157)
      have v268 : Arv Z h267 b248 k248 .long (2 : Int32) [(.long ((0 : Int64) ||| ((1 : Int64) <<< (x00 &&& 0x3f).toInt64))), (.long (0 : Int64))] (.long (0 : Int64)) := Arv.set Ar267 q267 S267 N267 H267 G267 rfl W267 0 rfl (Nat.le_of_ble_eq_true rfl)
      have P269 : Rg p e below (T267.setTop (mkF m 158 #[sR a1, sR l1, sI 0, sR f0, sI 2, sR b243, sR b248, sI 0, sI 0] [])) B0 := fun t k => P259 t (by
        refine XS.aload X257.here hx rfl (hb hby dp22_1_144) rfl rfl ?_
        refine XS.iload X257.here hx rfl (hb hby dp22_1_146) rfl ?_
        refine XT.dup2 X257.here hx rfl (hb hby dp22_1_148) rfl rfl rfl ?_
        show Sg p e below (T257.setTop (mkF m 149 #[sR a1, sR l1, sI 0, sR f0, sI 2, sR b243, sR b248, sI 0, sI 0] [(.int (0 : Int32)), (.ref b248), (.int (0 : Int32)), (.ref b248)])) _
        refine X257.laload hx (j := (0 : Int32)) (v := (.long (0 : Int64))) (by rw [e257]; exact Ar264.1) (State.isArrayOf_alike hZ.alike Ar264.2.1) Ar264.2.2 hin264 (H264.at hin264 rfl) (g := (mkF m 149 #[sR a1, sR l1, sI 0, sR f0, sI 2, sR b243, sR b248, sI 0, sI 0] [(.int (0 : Int32)), (.ref b248), (.int (0 : Int32)), (.ref b248)])) rfl rfl (hb hby dp22_1_149) _ ?_
        show Sg p e below (T257.setTop (mkF m 150 #[sR a1, sR l1, sI 0, sR f0, sI 2, sR b243, sR b248, sI 0, sI 0] [(.long (0 : Int64)), (.int (0 : Int32)), (.ref b248)])) _
        refine XS.lconst X257.here hx rfl (hb hby dp22_1_150) ?_
        refine XS.aloadN X257.here hx rfl (hb hby dp22_1_151) rfl rfl ?_
        refine XS.iload X257.here hx rfl (hb hby dp22_1_152) rfl ?_
        show Sg p e below (T257.setTop (mkF m 154 #[sR a1, sR l1, sI 0, sR f0, sI 2, sR b243, sR b248, sI 0, sI 0] [(.int (0 : Int32)), (.ref f0), (.long (1 : Int64)), (.long (0 : Int64)), (.int (0 : Int32)), (.ref b248)])) _
        refine X257.iaload hx (j := (0 : Int32)) (v := (.int x00)) (by rw [e257]; exact Ar266.1) (State.isArrayOf_alike hZ.alike Ar266.2.1) Ar266.2.2 hin266 (H266.at hin266 rfl) (g := (mkF m 154 #[sR a1, sR l1, sI 0, sR f0, sI 2, sR b243, sR b248, sI 0, sI 0] [(.int (0 : Int32)), (.ref f0), (.long (1 : Int64)), (.long (0 : Int64)), (.int (0 : Int32)), (.ref b248)])) rfl rfl (hb hby dp22_1_154) _ ?_
        show Sg p e below (T257.setTop (mkF m 155 #[sR a1, sR l1, sI 0, sR f0, sI 2, sR b243, sR b248, sI 0, sI 0] [(.int x00), (.long (1 : Int64)), (.long (0 : Int64)), (.int (0 : Int32)), (.ref b248)])) _
        refine XS.lshl X257.here hx rfl (hb hby dp22_1_155) rfl ?_
        refine XS.lor X257.here hx rfl (hb hby dp22_1_156) rfl ?_
        show Sg p e below (T257.setTop (mkF m 157 #[sR a1, sR l1, sI 0, sR f0, sI 2, sR b243, sR b248, sI 0, sI 0] [(.long ((0 : Int64) ||| ((1 : Int64) <<< (x00 &&& 0x3f).toInt64))), (.int (0 : Int32)), (.ref b248)])) _
        exact st267 _ k)
      have N270 := Fr.snoc X267 N260 g_b248
      have Z271 : n0 ≤ h267.size := Nat.le_trans Z261 (Keep.of_wr W267).1
      have K272 : Keep h0 h267 [a1] := K262.wr W267 (Or.inr sz_b248)
      have f273 := (f265.other W267 (Nat.ne_of_lt (Nat.lt_of_lt_of_le (f35.ext E243).lt (Nat.le_of_eq g248.symm))))
      obtain ⟨cl274, Ar274, -, S274, N274, -, -⟩ := id f273
      obtain ⟨cl275, Ar275, -, S275, N275, H275, -⟩ := id f273
      have hin275 : ¬ ((1 : Int32) < 0 ∨ cl275.slots.size ≤ ((1 : Int32)).toNatClampNeg) := inb_of S275 ⟨by decide, by decide⟩
      obtain ⟨cl276, Ar276, -, S276, N276, H276, -⟩ := id f273
      have hin276 : ¬ ((0 : Int32) < 0 ∨ cl276.slots.size ≤ ((0 : Int32)).toNatClampNeg) := inb_of S276 ⟨by decide, by decide⟩
      obtain ⟨cl277, Ar277, -, S277, N277, H277, -⟩ := id f273
      have hin277 : ¬ ((1 : Int32) < 0 ∨ cl277.slots.size ≤ ((1 : Int32)).toNatClampNeg) := inb_of S277 ⟨by decide, by decide⟩
      have f278 := (v258.other W267 (Nat.ne_of_lt (Nat.lt_of_lt_of_le B243.lt (Nat.le_of_eq g248.symm))))
      obtain ⟨cl279, Ar279, q279, S279, N279, H279, G279⟩ := id f278
      obtain ⟨T279, h279, X279, e279, W279, st279⟩ := stI X267 hx hZ e267 Ar279 (j := (1 : Int32)) (inb_of S279 ⟨by decide, by decide⟩) (g := (mkF m 143 #[sR a1, sR l1, sI 0, sR f0, sI 2, sR b243, sR b248, sI 1, sI 1] [(.int ((x01.toUInt32 >>> ((6 : Int32) &&& 31).toUInt32).toInt32)), (.int (1 : Int32)), (.ref b243)])) rfl rfl (hb hby dp22_1_143)
      have v280 : Arv Z h279 b243 k243 .int (2 : Int32) [(.int ((x00.toUInt32 >>> ((6 : Int32) &&& 31).toUInt32).toInt32)), (.int ((x01.toUInt32 >>> ((6 : Int32) &&& 31).toUInt32).toInt32))] (.int (0 : Int32)) := Arv.set Ar279 q279 S279 N279 H279 G279 rfl W279 1 rfl (Nat.le_of_ble_eq_true rfl)
      have P281 : Rg p e below (T279.setTop (mkF m 144 #[sR a1, sR l1, sI 0, sR f0, sI 2, sR b243, sR b248, sI 1, sI 1] [])) B0 := fun t k => P269 t (by
        refine XS.iinc X267.here hx rfl (hb hby dp22_1_158) rfl (l' := #[sR a1, sR l1, sI 0, sR f0, sI 2, sR b243, sR b248, sI 0, sI 1]) rfl ?_
        refine XS.goto X267.here hx rfl (pc0 := 161) (pc' := 98) rfl (hb hby dp22_1_161) (by decide) (by decide) ?_
        refine XS.iload X267.here hx rfl (hb hby dp22_1_98) rfl ?_
        refine XS.aloadN X267.here hx rfl (hb hby dp22_1_100) rfl rfl ?_
        show Sg p e below (T267.setTop (mkF m 101 #[sR a1, sR l1, sI 0, sR f0, sI 2, sR b243, sR b248, sI 0, sI 1] [(.ref f0), (.int (1 : Int32))])) _
        refine X267.arraylength hx (by rw [e267]; exact Ar274.1) (State.isArrayOf_alike hZ.alike Ar274.2.1) (g := (mkF m 101 #[sR a1, sR l1, sI 0, sR f0, sI 2, sR b243, sR b248, sI 0, sI 1] [(.ref f0), (.int (1 : Int32))])) rfl rfl (hb hby dp22_1_101) _ ?_
        rw [len_of S274 N274]
        show Sg p e below (T267.setTop (mkF m 102 #[sR a1, sR l1, sI 0, sR f0, sI 2, sR b243, sR b248, sI 0, sI 1] [(.int (3 : Int32)), (.int (1 : Int32))])) _
        refine XS.icmpNo X267.here hx rfl (hb hby dp22_1_102) rfl (tlt (show (1 : Int32) < (3 : Int32) from (by decide))).2.1 ?_
        refine XS.iload X267.here hx rfl (hb hby dp22_1_105) rfl ?_
        refine XS.ifNo X267.here hx rfl (hb hby dp22_1_107) rfl ((if0 _ _).trans (feq (show ¬ ((1 : Int32) = (0 : Int32)) from (by decide))).1) ?_
        refine XS.aloadN X267.here hx rfl (hb hby dp22_1_110) rfl rfl ?_
        refine XS.iload X267.here hx rfl (hb hby dp22_1_111) rfl ?_
        show Sg p e below (T267.setTop (mkF m 113 #[sR a1, sR l1, sI 0, sR f0, sI 2, sR b243, sR b248, sI 0, sI 1] [(.int (1 : Int32)), (.ref f0)])) _
        refine X267.iaload hx (j := (1 : Int32)) (v := (.int x01)) (by rw [e267]; exact Ar275.1) (State.isArrayOf_alike hZ.alike Ar275.2.1) Ar275.2.2 hin275 (H275.at hin275 rfl) (g := (mkF m 113 #[sR a1, sR l1, sI 0, sR f0, sI 2, sR b243, sR b248, sI 0, sI 1] [(.int (1 : Int32)), (.ref f0)])) rfl rfl (hb hby dp22_1_113) _ ?_
        show Sg p e below (T267.setTop (mkF m 114 #[sR a1, sR l1, sI 0, sR f0, sI 2, sR b243, sR b248, sI 0, sI 1] [(.int x01)])) _
        refine XS.bipush X267.here hx rfl (hb hby dp22_1_114) ?_
        refine XS.iushr X267.here hx rfl (hb hby dp22_1_116) rfl ?_
        refine XS.aloadN X267.here hx rfl (hb hby dp22_1_117) rfl rfl ?_
        refine XS.iload X267.here hx rfl (hb hby dp22_1_118) rfl ?_
        refine XS.iconst X267.here hx rfl (hb hby dp22_1_120) ?_
        refine XS.isub X267.here hx rfl (hb hby dp22_1_121) rfl ?_
        show Sg p e below (T267.setTop (mkF m 122 #[sR a1, sR l1, sI 0, sR f0, sI 2, sR b243, sR b248, sI 0, sI 1] [(.int (0 : Int32)), (.ref f0), (.int ((x01.toUInt32 >>> ((6 : Int32) &&& 31).toUInt32).toInt32))])) _
        refine X267.iaload hx (j := (0 : Int32)) (v := (.int x00)) (by rw [e267]; exact Ar276.1) (State.isArrayOf_alike hZ.alike Ar276.2.1) Ar276.2.2 hin276 (H276.at hin276 rfl) (g := (mkF m 122 #[sR a1, sR l1, sI 0, sR f0, sI 2, sR b243, sR b248, sI 0, sI 1] [(.int (0 : Int32)), (.ref f0), (.int ((x01.toUInt32 >>> ((6 : Int32) &&& 31).toUInt32).toInt32))])) rfl rfl (hb hby dp22_1_122) _ ?_
        show Sg p e below (T267.setTop (mkF m 123 #[sR a1, sR l1, sI 0, sR f0, sI 2, sR b243, sR b248, sI 0, sI 1] [(.int x00), (.int ((x01.toUInt32 >>> ((6 : Int32) &&& 31).toUInt32).toInt32))])) _
        refine XS.bipush X267.here hx rfl (hb hby dp22_1_123) ?_
        refine XS.iushr X267.here hx rfl (hb hby dp22_1_125) rfl ?_
        refine XS.icmpNo X267.here hx rfl (hb hby dp22_1_126) rfl (feq (show ¬ (((x01.toUInt32 >>> ((6 : Int32) &&& 31).toUInt32).toInt32) = ((x00.toUInt32 >>> ((6 : Int32) &&& 31).toUInt32).toInt32)) from q41)).1 ?_
        refine XS.aload X267.here hx rfl (hb hby dp22_1_129) rfl rfl ?_
        refine XS.iinc X267.here hx rfl (hb hby dp22_1_131) rfl (l' := #[sR a1, sR l1, sI 0, sR f0, sI 2, sR b243, sR b248, sI 1, sI 1]) rfl ?_
        refine XS.iload X267.here hx rfl (hb hby dp22_1_134) rfl ?_
        refine XS.aloadN X267.here hx rfl (hb hby dp22_1_136) rfl rfl ?_
        refine XS.iload X267.here hx rfl (hb hby dp22_1_137) rfl ?_
        show Sg p e below (T267.setTop (mkF m 139 #[sR a1, sR l1, sI 0, sR f0, sI 2, sR b243, sR b248, sI 1, sI 1] [(.int (1 : Int32)), (.ref f0), (.int (1 : Int32)), (.ref b243)])) _
        refine X267.iaload hx (j := (1 : Int32)) (v := (.int x01)) (by rw [e267]; exact Ar277.1) (State.isArrayOf_alike hZ.alike Ar277.2.1) Ar277.2.2 hin277 (H277.at hin277 rfl) (g := (mkF m 139 #[sR a1, sR l1, sI 0, sR f0, sI 2, sR b243, sR b248, sI 1, sI 1] [(.int (1 : Int32)), (.ref f0), (.int (1 : Int32)), (.ref b243)])) rfl rfl (hb hby dp22_1_139) _ ?_
        show Sg p e below (T267.setTop (mkF m 140 #[sR a1, sR l1, sI 0, sR f0, sI 2, sR b243, sR b248, sI 1, sI 1] [(.int x01), (.int (1 : Int32)), (.ref b243)])) _
        refine XS.bipush X267.here hx rfl (hb hby dp22_1_140) ?_
        refine XS.iushr X267.here hx rfl (hb hby dp22_1_142) rfl ?_
        show Sg p e below (T267.setTop (mkF m 143 #[sR a1, sR l1, sI 0, sR f0, sI 2, sR b243, sR b248, sI 1, sI 1] [(.int ((x01.toUInt32 >>> ((6 : Int32) &&& 31).toUInt32).toInt32)), (.int (1 : Int32)), (.ref b243)])) _
        exact st279 _ k)
      have N282 := Fr.snoc X279 N270 g_b243
      have Z283 : n0 ≤ h279.size := Nat.le_trans Z271 (Keep.of_wr W279).1
      have K284 : Keep h0 h279 [a1] := K272.wr W279 (Or.inr sz_b243)
      have f285 := (v268.other W279 (Ne.symm (Nat.ne_of_lt (Nat.lt_of_lt_of_le B243.lt (Nat.le_of_eq g248.symm)))))
      obtain ⟨cl286, Ar286, -, S286, N286, H286, -⟩ := id f285
      have hin286 : ¬ ((1 : Int32) < 0 ∨ cl286.slots.size ≤ ((1 : Int32)).toNatClampNeg) := inb_of S286 ⟨by decide, by decide⟩
      have f287 := (f273.other W279 (Nat.ne_of_lt (Nat.lt_of_lt_of_le f35.lt (Nat.le_of_eq g243.symm))))
      obtain ⟨cl288, Ar288, -, S288, N288, H288, -⟩ := id f287
      have hin288 : ¬ ((1 : Int32) < 0 ∨ cl288.slots.size ≤ ((1 : Int32)).toNatClampNeg) := inb_of S288 ⟨by decide, by decide⟩
      obtain ⟨cl289, Ar289, q289, S289, N289, H289, G289⟩ := id f285
      obtain ⟨T289, h289, X289, e289, W289, st289⟩ := stJ X279 hx hZ e279 Ar289 (j := (1 : Int32)) (inb_of S289 ⟨by decide, by decide⟩) (g := (mkF m 157 #[sR a1, sR l1, sI 0, sR f0, sI 2, sR b243, sR b248, sI 1, sI 1] [(.long ((0 : Int64) ||| ((1 : Int64) <<< (x01 &&& 0x3f).toInt64))), (.int (1 : Int32)), (.ref b248)])) rfl rfl (hb hby dp22_1_157)
      have v290 : Arv Z h289 b248 k248 .long (2 : Int32) [(.long ((0 : Int64) ||| ((1 : Int64) <<< (x00 &&& 0x3f).toInt64))), (.long ((0 : Int64) ||| ((1 : Int64) <<< (x01 &&& 0x3f).toInt64)))] (.long (0 : Int64)) := Arv.set Ar289 q289 S289 N289 H289 G289 rfl W289 1 rfl (Nat.le_of_ble_eq_true rfl)
      have P291 : Rg p e below (T289.setTop (mkF m 158 #[sR a1, sR l1, sI 0, sR f0, sI 2, sR b243, sR b248, sI 1, sI 1] [])) B0 := fun t k => P281 t (by
        refine XS.aload X279.here hx rfl (hb hby dp22_1_144) rfl rfl ?_
        refine XS.iload X279.here hx rfl (hb hby dp22_1_146) rfl ?_
        refine XT.dup2 X279.here hx rfl (hb hby dp22_1_148) rfl rfl rfl ?_
        show Sg p e below (T279.setTop (mkF m 149 #[sR a1, sR l1, sI 0, sR f0, sI 2, sR b243, sR b248, sI 1, sI 1] [(.int (1 : Int32)), (.ref b248), (.int (1 : Int32)), (.ref b248)])) _
        refine X279.laload hx (j := (1 : Int32)) (v := (.long (0 : Int64))) (by rw [e279]; exact Ar286.1) (State.isArrayOf_alike hZ.alike Ar286.2.1) Ar286.2.2 hin286 (H286.at hin286 rfl) (g := (mkF m 149 #[sR a1, sR l1, sI 0, sR f0, sI 2, sR b243, sR b248, sI 1, sI 1] [(.int (1 : Int32)), (.ref b248), (.int (1 : Int32)), (.ref b248)])) rfl rfl (hb hby dp22_1_149) _ ?_
        show Sg p e below (T279.setTop (mkF m 150 #[sR a1, sR l1, sI 0, sR f0, sI 2, sR b243, sR b248, sI 1, sI 1] [(.long (0 : Int64)), (.int (1 : Int32)), (.ref b248)])) _
        refine XS.lconst X279.here hx rfl (hb hby dp22_1_150) ?_
        refine XS.aloadN X279.here hx rfl (hb hby dp22_1_151) rfl rfl ?_
        refine XS.iload X279.here hx rfl (hb hby dp22_1_152) rfl ?_
        show Sg p e below (T279.setTop (mkF m 154 #[sR a1, sR l1, sI 0, sR f0, sI 2, sR b243, sR b248, sI 1, sI 1] [(.int (1 : Int32)), (.ref f0), (.long (1 : Int64)), (.long (0 : Int64)), (.int (1 : Int32)), (.ref b248)])) _
        refine X279.iaload hx (j := (1 : Int32)) (v := (.int x01)) (by rw [e279]; exact Ar288.1) (State.isArrayOf_alike hZ.alike Ar288.2.1) Ar288.2.2 hin288 (H288.at hin288 rfl) (g := (mkF m 154 #[sR a1, sR l1, sI 0, sR f0, sI 2, sR b243, sR b248, sI 1, sI 1] [(.int (1 : Int32)), (.ref f0), (.long (1 : Int64)), (.long (0 : Int64)), (.int (1 : Int32)), (.ref b248)])) rfl rfl (hb hby dp22_1_154) _ ?_
        show Sg p e below (T279.setTop (mkF m 155 #[sR a1, sR l1, sI 0, sR f0, sI 2, sR b243, sR b248, sI 1, sI 1] [(.int x01), (.long (1 : Int64)), (.long (0 : Int64)), (.int (1 : Int32)), (.ref b248)])) _
        refine XS.lshl X279.here hx rfl (hb hby dp22_1_155) rfl ?_
        refine XS.lor X279.here hx rfl (hb hby dp22_1_156) rfl ?_
        show Sg p e below (T279.setTop (mkF m 157 #[sR a1, sR l1, sI 0, sR f0, sI 2, sR b243, sR b248, sI 1, sI 1] [(.long ((0 : Int64) ||| ((1 : Int64) <<< (x01 &&& 0x3f).toInt64))), (.int (1 : Int32)), (.ref b248)])) _
        exact st289 _ k)
      have N292 := Fr.snoc X289 N282 g_b248
      have Z293 : n0 ≤ h289.size := Nat.le_trans Z283 (Keep.of_wr W289).1
      have K294 : Keep h0 h289 [a1] := K284.wr W289 (Or.inr sz_b248)
      have f295 := (f287.other W289 (Nat.ne_of_lt (Nat.lt_of_lt_of_le (f35.ext E243).lt (Nat.le_of_eq g248.symm))))
      obtain ⟨cl296, Ar296, -, S296, N296, -, -⟩ := id f295
      obtain ⟨cl297, Ar297, -, S297, N297, H297, -⟩ := id f295
      have hin297 : ¬ ((2 : Int32) < 0 ∨ cl297.slots.size ≤ ((2 : Int32)).toNatClampNeg) := inb_of S297 ⟨by decide, by decide⟩
      obtain ⟨cl298, Ar298, -, S298, N298, H298, -⟩ := id f295
      have hin298 : ¬ ((1 : Int32) < 0 ∨ cl298.slots.size ≤ ((1 : Int32)).toNatClampNeg) := inb_of S298 ⟨by decide, by decide⟩
      obtain ⟨cl299, Ar299, -, S299, N299, H299, -⟩ := id v290
      have hin299 : ¬ ((1 : Int32) < 0 ∨ cl299.slots.size ≤ ((1 : Int32)).toNatClampNeg) := inb_of S299 ⟨by decide, by decide⟩
      obtain ⟨cl300, Ar300, -, S300, N300, H300, -⟩ := id f295
      have hin300 : ¬ ((2 : Int32) < 0 ∨ cl300.slots.size ≤ ((2 : Int32)).toNatClampNeg) := inb_of S300 ⟨by decide, by decide⟩
      obtain ⟨cl301, Ar301, q301, S301, N301, H301, G301⟩ := id v290
      obtain ⟨T301, h301, X301, e301, W301, st301⟩ := stJ X289 hx hZ e289 Ar301 (j := (1 : Int32)) (inb_of S301 ⟨by decide, by decide⟩) (g := (mkF m 157 #[sR a1, sR l1, sI 0, sR f0, sI 2, sR b243, sR b248, sI 1, sI 2] [(.long (((0 : Int64) ||| ((1 : Int64) <<< (x01 &&& 0x3f).toInt64)) ||| ((1 : Int64) <<< (x02 &&& 0x3f).toInt64))), (.int (1 : Int32)), (.ref b248)])) rfl rfl (hb hby dp22_1_157)
      have v302 : Arv Z h301 b248 k248 .long (2 : Int32) [(.long ((0 : Int64) ||| ((1 : Int64) <<< (x00 &&& 0x3f).toInt64))), (.long (((0 : Int64) ||| ((1 : Int64) <<< (x01 &&& 0x3f).toInt64)) ||| ((1 : Int64) <<< (x02 &&& 0x3f).toInt64)))] (.long (0 : Int64)) := Arv.set Ar301 q301 S301 N301 H301 G301 rfl W301 1 rfl (Nat.le_of_ble_eq_true rfl)
      have P303 : Rg p e below (T301.setTop (mkF m 158 #[sR a1, sR l1, sI 0, sR f0, sI 2, sR b243, sR b248, sI 1, sI 2] [])) B0 := fun t k => P291 t (by
        refine XS.iinc X289.here hx rfl (hb hby dp22_1_158) rfl (l' := #[sR a1, sR l1, sI 0, sR f0, sI 2, sR b243, sR b248, sI 1, sI 2]) rfl ?_
        refine XS.goto X289.here hx rfl (pc0 := 161) (pc' := 98) rfl (hb hby dp22_1_161) (by decide) (by decide) ?_
        refine XS.iload X289.here hx rfl (hb hby dp22_1_98) rfl ?_
        refine XS.aloadN X289.here hx rfl (hb hby dp22_1_100) rfl rfl ?_
        show Sg p e below (T289.setTop (mkF m 101 #[sR a1, sR l1, sI 0, sR f0, sI 2, sR b243, sR b248, sI 1, sI 2] [(.ref f0), (.int (2 : Int32))])) _
        refine X289.arraylength hx (by rw [e289]; exact Ar296.1) (State.isArrayOf_alike hZ.alike Ar296.2.1) (g := (mkF m 101 #[sR a1, sR l1, sI 0, sR f0, sI 2, sR b243, sR b248, sI 1, sI 2] [(.ref f0), (.int (2 : Int32))])) rfl rfl (hb hby dp22_1_101) _ ?_
        rw [len_of S296 N296]
        show Sg p e below (T289.setTop (mkF m 102 #[sR a1, sR l1, sI 0, sR f0, sI 2, sR b243, sR b248, sI 1, sI 2] [(.int (3 : Int32)), (.int (2 : Int32))])) _
        refine XS.icmpNo X289.here hx rfl (hb hby dp22_1_102) rfl (tlt (show (2 : Int32) < (3 : Int32) from (by decide))).2.1 ?_
        refine XS.iload X289.here hx rfl (hb hby dp22_1_105) rfl ?_
        refine XS.ifNo X289.here hx rfl (hb hby dp22_1_107) rfl ((if0 _ _).trans (feq (show ¬ ((2 : Int32) = (0 : Int32)) from (by decide))).1) ?_
        refine XS.aloadN X289.here hx rfl (hb hby dp22_1_110) rfl rfl ?_
        refine XS.iload X289.here hx rfl (hb hby dp22_1_111) rfl ?_
        show Sg p e below (T289.setTop (mkF m 113 #[sR a1, sR l1, sI 0, sR f0, sI 2, sR b243, sR b248, sI 1, sI 2] [(.int (2 : Int32)), (.ref f0)])) _
        refine X289.iaload hx (j := (2 : Int32)) (v := (.int x02)) (by rw [e289]; exact Ar297.1) (State.isArrayOf_alike hZ.alike Ar297.2.1) Ar297.2.2 hin297 (H297.at hin297 rfl) (g := (mkF m 113 #[sR a1, sR l1, sI 0, sR f0, sI 2, sR b243, sR b248, sI 1, sI 2] [(.int (2 : Int32)), (.ref f0)])) rfl rfl (hb hby dp22_1_113) _ ?_
        show Sg p e below (T289.setTop (mkF m 114 #[sR a1, sR l1, sI 0, sR f0, sI 2, sR b243, sR b248, sI 1, sI 2] [(.int x02)])) _
        refine XS.bipush X289.here hx rfl (hb hby dp22_1_114) ?_
        refine XS.iushr X289.here hx rfl (hb hby dp22_1_116) rfl ?_
        refine XS.aloadN X289.here hx rfl (hb hby dp22_1_117) rfl rfl ?_
        refine XS.iload X289.here hx rfl (hb hby dp22_1_118) rfl ?_
        refine XS.iconst X289.here hx rfl (hb hby dp22_1_120) ?_
        refine XS.isub X289.here hx rfl (hb hby dp22_1_121) rfl ?_
        show Sg p e below (T289.setTop (mkF m 122 #[sR a1, sR l1, sI 0, sR f0, sI 2, sR b243, sR b248, sI 1, sI 2] [(.int (1 : Int32)), (.ref f0), (.int ((x02.toUInt32 >>> ((6 : Int32) &&& 31).toUInt32).toInt32))])) _
        refine X289.iaload hx (j := (1 : Int32)) (v := (.int x01)) (by rw [e289]; exact Ar298.1) (State.isArrayOf_alike hZ.alike Ar298.2.1) Ar298.2.2 hin298 (H298.at hin298 rfl) (g := (mkF m 122 #[sR a1, sR l1, sI 0, sR f0, sI 2, sR b243, sR b248, sI 1, sI 2] [(.int (1 : Int32)), (.ref f0), (.int ((x02.toUInt32 >>> ((6 : Int32) &&& 31).toUInt32).toInt32))])) rfl rfl (hb hby dp22_1_122) _ ?_
        show Sg p e below (T289.setTop (mkF m 123 #[sR a1, sR l1, sI 0, sR f0, sI 2, sR b243, sR b248, sI 1, sI 2] [(.int x01), (.int ((x02.toUInt32 >>> ((6 : Int32) &&& 31).toUInt32).toInt32))])) _
        refine XS.bipush X289.here hx rfl (hb hby dp22_1_123) ?_
        refine XS.iushr X289.here hx rfl (hb hby dp22_1_125) rfl ?_
        refine XS.icmpYes X289.here hx rfl (pc0 := 126) (pc' := 144) rfl (hb hby dp22_1_126) rfl (teq (show ((x02.toUInt32 >>> ((6 : Int32) &&& 31).toUInt32).toInt32) = ((x01.toUInt32 >>> ((6 : Int32) &&& 31).toUInt32).toInt32) from q241)).1 (by decide) (by decide) ?_
        refine XS.aload X289.here hx rfl (hb hby dp22_1_144) rfl rfl ?_
        refine XS.iload X289.here hx rfl (hb hby dp22_1_146) rfl ?_
        refine XT.dup2 X289.here hx rfl (hb hby dp22_1_148) rfl rfl rfl ?_
        show Sg p e below (T289.setTop (mkF m 149 #[sR a1, sR l1, sI 0, sR f0, sI 2, sR b243, sR b248, sI 1, sI 2] [(.int (1 : Int32)), (.ref b248), (.int (1 : Int32)), (.ref b248)])) _
        refine X289.laload hx (j := (1 : Int32)) (v := (.long ((0 : Int64) ||| ((1 : Int64) <<< (x01 &&& 0x3f).toInt64)))) (by rw [e289]; exact Ar299.1) (State.isArrayOf_alike hZ.alike Ar299.2.1) Ar299.2.2 hin299 (H299.at hin299 rfl) (g := (mkF m 149 #[sR a1, sR l1, sI 0, sR f0, sI 2, sR b243, sR b248, sI 1, sI 2] [(.int (1 : Int32)), (.ref b248), (.int (1 : Int32)), (.ref b248)])) rfl rfl (hb hby dp22_1_149) _ ?_
        show Sg p e below (T289.setTop (mkF m 150 #[sR a1, sR l1, sI 0, sR f0, sI 2, sR b243, sR b248, sI 1, sI 2] [(.long ((0 : Int64) ||| ((1 : Int64) <<< (x01 &&& 0x3f).toInt64))), (.int (1 : Int32)), (.ref b248)])) _
        refine XS.lconst X289.here hx rfl (hb hby dp22_1_150) ?_
        refine XS.aloadN X289.here hx rfl (hb hby dp22_1_151) rfl rfl ?_
        refine XS.iload X289.here hx rfl (hb hby dp22_1_152) rfl ?_
        show Sg p e below (T289.setTop (mkF m 154 #[sR a1, sR l1, sI 0, sR f0, sI 2, sR b243, sR b248, sI 1, sI 2] [(.int (2 : Int32)), (.ref f0), (.long (1 : Int64)), (.long ((0 : Int64) ||| ((1 : Int64) <<< (x01 &&& 0x3f).toInt64))), (.int (1 : Int32)), (.ref b248)])) _
        refine X289.iaload hx (j := (2 : Int32)) (v := (.int x02)) (by rw [e289]; exact Ar300.1) (State.isArrayOf_alike hZ.alike Ar300.2.1) Ar300.2.2 hin300 (H300.at hin300 rfl) (g := (mkF m 154 #[sR a1, sR l1, sI 0, sR f0, sI 2, sR b243, sR b248, sI 1, sI 2] [(.int (2 : Int32)), (.ref f0), (.long (1 : Int64)), (.long ((0 : Int64) ||| ((1 : Int64) <<< (x01 &&& 0x3f).toInt64))), (.int (1 : Int32)), (.ref b248)])) rfl rfl (hb hby dp22_1_154) _ ?_
        show Sg p e below (T289.setTop (mkF m 155 #[sR a1, sR l1, sI 0, sR f0, sI 2, sR b243, sR b248, sI 1, sI 2] [(.int x02), (.long (1 : Int64)), (.long ((0 : Int64) ||| ((1 : Int64) <<< (x01 &&& 0x3f).toInt64))), (.int (1 : Int32)), (.ref b248)])) _
        refine XS.lshl X289.here hx rfl (hb hby dp22_1_155) rfl ?_
        refine XS.lor X289.here hx rfl (hb hby dp22_1_156) rfl ?_
        show Sg p e below (T289.setTop (mkF m 157 #[sR a1, sR l1, sI 0, sR f0, sI 2, sR b243, sR b248, sI 1, sI 2] [(.long (((0 : Int64) ||| ((1 : Int64) <<< (x01 &&& 0x3f).toInt64)) ||| ((1 : Int64) <<< (x02 &&& 0x3f).toInt64))), (.int (1 : Int32)), (.ref b248)])) _
        exact st301 _ k)
      have N304 := Fr.snoc X301 N292 g_b248
      have Z305 : n0 ≤ h301.size := Nat.le_trans Z293 (Keep.of_wr W301).1
      have K306 : Keep h0 h301 [a1] := K294.wr W301 (Or.inr sz_b248)
      have f307 := (f295.other W301 (Nat.ne_of_lt (Nat.lt_of_lt_of_le (f35.ext E243).lt (Nat.le_of_eq g248.symm))))
      obtain ⟨cl308, Ar308, -, S308, N308, -, -⟩ := id f307
      have f309 := (((((((((f13.ext E19).other W26 (Or.inr (slot_ne (Or.inr (own_hw hw 20 rfl)) (Or.inr (own_hw hw 24 rfl)) (by decide) (t := (.array (.array .int))) (t' := (.array (.array .long))) (by decide) (by decide)))).ext E243).ext E248).other W257 (Or.inl (Nat.ne_of_lt (Nat.lt_of_lt_of_le f28.lt (Nat.le_of_eq g243.symm))))).other W267 (Or.inl (Nat.ne_of_lt (Nat.lt_of_lt_of_le (f28.ext E243).lt (Nat.le_of_eq g248.symm))))).other W279 (Or.inl (Nat.ne_of_lt (Nat.lt_of_lt_of_le f28.lt (Nat.le_of_eq g243.symm))))).other W289 (Or.inl (Nat.ne_of_lt (Nat.lt_of_lt_of_le (f28.ext E243).lt (Nat.le_of_eq g248.symm))))).other W301 (Or.inl (Nat.ne_of_lt (Nat.lt_of_lt_of_le (f28.ext E243).lt (Nat.le_of_eq g248.symm)))))
      obtain ⟨T310, X310, e310, st310⟩ := getF X301 hx hZ hown (host := "") (Or.inl (own_hw hw 19 rfl)) Via.refl e301 f309 (g := (mkF m 165 #[sR a1, sR l1, sI 0, sR f0, sI 2, sR b243, sR b248, sI 1, sI 3] [(.ref a1)])) rfl rfl (hb hby dp22_1_165)
      have P311 : Rg p e below (T310.setTop (mkF m 168 #[sR a1, sR l1, sI 0, sR f0, sI 2, sR b243, sR b248, sI 1, sI 3] [(.ref b4)])) B0 := fun t k => P303 t (by
        refine XS.iinc X301.here hx rfl (hb hby dp22_1_158) rfl (l' := #[sR a1, sR l1, sI 0, sR f0, sI 2, sR b243, sR b248, sI 1, sI 3]) rfl ?_
        refine XS.goto X301.here hx rfl (pc0 := 161) (pc' := 98) rfl (hb hby dp22_1_161) (by decide) (by decide) ?_
        refine XS.iload X301.here hx rfl (hb hby dp22_1_98) rfl ?_
        refine XS.aloadN X301.here hx rfl (hb hby dp22_1_100) rfl rfl ?_
        show Sg p e below (T301.setTop (mkF m 101 #[sR a1, sR l1, sI 0, sR f0, sI 2, sR b243, sR b248, sI 1, sI 3] [(.ref f0), (.int (3 : Int32))])) _
        refine X301.arraylength hx (by rw [e301]; exact Ar308.1) (State.isArrayOf_alike hZ.alike Ar308.2.1) (g := (mkF m 101 #[sR a1, sR l1, sI 0, sR f0, sI 2, sR b243, sR b248, sI 1, sI 3] [(.ref f0), (.int (3 : Int32))])) rfl rfl (hb hby dp22_1_101) _ ?_
        rw [len_of S308 N308]
        show Sg p e below (T301.setTop (mkF m 102 #[sR a1, sR l1, sI 0, sR f0, sI 2, sR b243, sR b248, sI 1, sI 3] [(.int (3 : Int32)), (.int (3 : Int32))])) _
        refine XS.icmpYes X301.here hx rfl (pc0 := 102) (pc' := 164) rfl (hb hby dp22_1_102) rfl (flt (show ¬ ((3 : Int32) < (3 : Int32)) from (by decide))).2.1 (by decide) (by decide) ?_
        refine XS.aloadN X301.here hx rfl (hb hby dp22_1_164) rfl rfl ?_
        show Sg p e below (T301.setTop (mkF m 165 #[sR a1, sR l1, sI 0, sR f0, sI 2, sR b243, sR b248, sI 1, sI 3] [(.ref a1)])) _
        exact st310 _ k)
      have f312 := ((((((((((v8.other W11 (Ne.symm (Nat.ne_of_lt (Nat.lt_of_lt_of_le Fw.lt (Nat.le_of_eq g4.symm))))).ext E19).other W26 (Ne.symm (Nat.ne_of_lt (Nat.lt_of_lt_of_le Fw.lt (Nat.le_of_eq g4.symm))))).ext E243).ext E248).other W257 (Nat.ne_of_lt (Nat.lt_of_lt_of_le (((v8.other W11 (Ne.symm (Nat.ne_of_lt (Nat.lt_of_lt_of_le Fw.lt (Nat.le_of_eq g4.symm))))).ext E19).other W26 (Ne.symm (Nat.ne_of_lt (Nat.lt_of_lt_of_le Fw.lt (Nat.le_of_eq g4.symm))))).lt (Nat.le_of_eq g243.symm)))).other W267 (Nat.ne_of_lt (Nat.lt_of_lt_of_le ((((v8.other W11 (Ne.symm (Nat.ne_of_lt (Nat.lt_of_lt_of_le Fw.lt (Nat.le_of_eq g4.symm))))).ext E19).other W26 (Ne.symm (Nat.ne_of_lt (Nat.lt_of_lt_of_le Fw.lt (Nat.le_of_eq g4.symm))))).ext E243).lt (Nat.le_of_eq g248.symm)))).other W279 (Nat.ne_of_lt (Nat.lt_of_lt_of_le (((v8.other W11 (Ne.symm (Nat.ne_of_lt (Nat.lt_of_lt_of_le Fw.lt (Nat.le_of_eq g4.symm))))).ext E19).other W26 (Ne.symm (Nat.ne_of_lt (Nat.lt_of_lt_of_le Fw.lt (Nat.le_of_eq g4.symm))))).lt (Nat.le_of_eq g243.symm)))).other W289 (Nat.ne_of_lt (Nat.lt_of_lt_of_le ((((v8.other W11 (Ne.symm (Nat.ne_of_lt (Nat.lt_of_lt_of_le Fw.lt (Nat.le_of_eq g4.symm))))).ext E19).other W26 (Ne.symm (Nat.ne_of_lt (Nat.lt_of_lt_of_le Fw.lt (Nat.le_of_eq g4.symm))))).ext E243).lt (Nat.le_of_eq g248.symm)))).other W301 (Nat.ne_of_lt (Nat.lt_of_lt_of_le ((((v8.other W11 (Ne.symm (Nat.ne_of_lt (Nat.lt_of_lt_of_le Fw.lt (Nat.le_of_eq g4.symm))))).ext E19).other W26 (Ne.symm (Nat.ne_of_lt (Nat.lt_of_lt_of_le Fw.lt (Nat.le_of_eq g4.symm))))).ext E243).lt (Nat.le_of_eq g248.symm))))
      have f314 := ((((((B243.ext E248).wr W257).wr W267).wr W279).wr W289).wr W301)
      obtain ⟨cl313, Ar313, q313, S313, N313, H313, G313⟩ := id f312
      obtain ⟨T313, h313, X313, e313, W313, st313⟩ := stR X310 hx hZ e310 Ar313 (j := (0 : Int32)) (inb_of S313 ⟨by decide, by decide⟩) rfl (Sto.ofVA Ar313 q313 O4 (Ins.self f314)) (g := (mkF m 171 #[sR a1, sR l1, sI 0, sR f0, sI 2, sR b243, sR b248, sI 1, sI 3] [(.ref b243), (.int (0 : Int32)), (.ref b4)])) rfl rfl (hb hby dp22_1_171)
      have v315 : Arv Z h313 b4 k4 (.array .int) (1 : Int32) [(.ref b243)] .null := Arv.set Ar313 q313 S313 N313 H313 G313 rfl W313 0 rfl (Nat.le_of_ble_eq_true rfl)
      have P316 : Rg p e below (T313.setTop (mkF m 172 #[sR a1, sR l1, sI 0, sR f0, sI 2, sR b243, sR b248, sI 1, sI 3] [])) B0 := fun t k => P311 t (by
        refine XS.iloadN X310.here hx rfl (hb hby dp22_1_168) rfl ?_
        refine XS.aload X310.here hx rfl (hb hby dp22_1_169) rfl rfl ?_
        show Sg p e below (T310.setTop (mkF m 171 #[sR a1, sR l1, sI 0, sR f0, sI 2, sR b243, sR b248, sI 1, sI 3] [(.ref b243), (.int (0 : Int32)), (.ref b4)])) _
        exact st313 _ k)
      have N317 := Fr.snoc X313 N304 g_b4
      have Z318 : n0 ≤ h313.size := Nat.le_trans Z305 (Keep.of_wr W313).1
      have K319 : Keep h0 h313 [a1] := K306.wr W313 (Or.inr sz_b4)
      have f320 := ((((((((f28.ext E243).ext E248).other W257 (Or.inl (Nat.ne_of_lt (Nat.lt_of_lt_of_le f28.lt (Nat.le_of_eq g243.symm))))).other W267 (Or.inl (Nat.ne_of_lt (Nat.lt_of_lt_of_le (f28.ext E243).lt (Nat.le_of_eq g248.symm))))).other W279 (Or.inl (Nat.ne_of_lt (Nat.lt_of_lt_of_le f28.lt (Nat.le_of_eq g243.symm))))).other W289 (Or.inl (Nat.ne_of_lt (Nat.lt_of_lt_of_le (f28.ext E243).lt (Nat.le_of_eq g248.symm))))).other W301 (Or.inl (Nat.ne_of_lt (Nat.lt_of_lt_of_le (f28.ext E243).lt (Nat.le_of_eq g248.symm))))).other W313 (Or.inl (Nat.ne_of_lt (Nat.lt_of_lt_of_le Fw.lt (Nat.le_of_eq g4.symm)))))
      obtain ⟨T321, X321, e321, st321⟩ := getF X313 hx hZ hown (host := "") (Or.inl (own_hw hw 23 rfl)) Via.refl e313 f320 (g := (mkF m 173 #[sR a1, sR l1, sI 0, sR f0, sI 2, sR b243, sR b248, sI 1, sI 3] [(.ref a1)])) rfl rfl (hb hby dp22_1_173)
      have P322 : Rg p e below (T321.setTop (mkF m 176 #[sR a1, sR l1, sI 0, sR f0, sI 2, sR b243, sR b248, sI 1, sI 3] [(.ref b19)])) B0 := fun t k => P316 t (by
        refine XS.aloadN X313.here hx rfl (hb hby dp22_1_172) rfl rfl ?_
        show Sg p e below (T313.setTop (mkF m 173 #[sR a1, sR l1, sI 0, sR f0, sI 2, sR b243, sR b248, sI 1, sI 3] [(.ref a1)])) _
        exact st321 _ k)
      have f323 := (((((((((v23.other W26 (Ne.symm (Nat.ne_of_lt (Nat.lt_of_lt_of_le f13.lt (Nat.le_of_eq g19.symm))))).ext E243).ext E248).other W257 (Nat.ne_of_lt (Nat.lt_of_lt_of_le (v23.other W26 (Ne.symm (Nat.ne_of_lt (Nat.lt_of_lt_of_le f13.lt (Nat.le_of_eq g19.symm))))).lt (Nat.le_of_eq g243.symm)))).other W267 (Nat.ne_of_lt (Nat.lt_of_lt_of_le ((v23.other W26 (Ne.symm (Nat.ne_of_lt (Nat.lt_of_lt_of_le f13.lt (Nat.le_of_eq g19.symm))))).ext E243).lt (Nat.le_of_eq g248.symm)))).other W279 (Nat.ne_of_lt (Nat.lt_of_lt_of_le (v23.other W26 (Ne.symm (Nat.ne_of_lt (Nat.lt_of_lt_of_le f13.lt (Nat.le_of_eq g19.symm))))).lt (Nat.le_of_eq g243.symm)))).other W289 (Nat.ne_of_lt (Nat.lt_of_lt_of_le ((v23.other W26 (Ne.symm (Nat.ne_of_lt (Nat.lt_of_lt_of_le f13.lt (Nat.le_of_eq g19.symm))))).ext E243).lt (Nat.le_of_eq g248.symm)))).other W301 (Nat.ne_of_lt (Nat.lt_of_lt_of_le ((v23.other W26 (Ne.symm (Nat.ne_of_lt (Nat.lt_of_lt_of_le f13.lt (Nat.le_of_eq g19.symm))))).ext E243).lt (Nat.le_of_eq g248.symm)))).other W313 (Ne.symm (Nat.ne_of_lt (Nat.lt_of_lt_of_le (v8.other W11 (Ne.symm (Nat.ne_of_lt (Nat.lt_of_lt_of_le Fw.lt (Nat.le_of_eq g4.symm))))).lt (Nat.le_of_eq g19.symm)))))
      have f325 := ((((((B248.wr W257).wr W267).wr W279).wr W289).wr W301).wr W313)
      obtain ⟨cl324, Ar324, q324, S324, N324, H324, G324⟩ := id f323
      obtain ⟨T324, h324, X324, e324, W324, st324⟩ := stR X321 hx hZ e321 Ar324 (j := (0 : Int32)) (inb_of S324 ⟨by decide, by decide⟩) rfl (Sto.ofVA Ar324 q324 O19 (Ins.self f325)) (g := (mkF m 179 #[sR a1, sR l1, sI 0, sR f0, sI 2, sR b243, sR b248, sI 1, sI 3] [(.ref b248), (.int (0 : Int32)), (.ref b19)])) rfl rfl (hb hby dp22_1_179)
      have v326 : Arv Z h324 b19 k19 (.array .long) (1 : Int32) [(.ref b248)] .null := Arv.set Ar324 q324 S324 N324 H324 G324 rfl W324 0 rfl (Nat.le_of_ble_eq_true rfl)
      have P327 : Rg p e below (T324.setTop (mkF m 180 #[sR a1, sR l1, sI 0, sR f0, sI 2, sR b243, sR b248, sI 1, sI 3] [])) B0 := fun t k => P322 t (by
        refine XS.iloadN X321.here hx rfl (hb hby dp22_1_176) rfl ?_
        refine XS.aload X321.here hx rfl (hb hby dp22_1_177) rfl rfl ?_
        show Sg p e below (T321.setTop (mkF m 179 #[sR a1, sR l1, sI 0, sR f0, sI 2, sR b243, sR b248, sI 1, sI 3] [(.ref b248), (.int (0 : Int32)), (.ref b19)])) _
        exact st324 _ k)
      have N328 := Fr.snoc X324 N317 g_b19
      have Z329 : n0 ≤ h324.size := Nat.le_trans Z318 (Keep.of_wr W324).1
      have K330 : Keep h0 h324 [a1] := K319.wr W324 (Or.inr sz_b19)
      have f331 := (((((((((f32.ext E243).ext E248).other W257 (Nat.ne_of_lt (Nat.lt_of_lt_of_le f32.lt (Nat.le_of_eq g243.symm)))).other W267 (Nat.ne_of_lt (Nat.lt_of_lt_of_le (f32.ext E243).lt (Nat.le_of_eq g248.symm)))).other W279 (Nat.ne_of_lt (Nat.lt_of_lt_of_le f32.lt (Nat.le_of_eq g243.symm)))).other W289 (Nat.ne_of_lt (Nat.lt_of_lt_of_le (f32.ext E243).lt (Nat.le_of_eq g248.symm)))).other W301 (Nat.ne_of_lt (Nat.lt_of_lt_of_le (f32.ext E243).lt (Nat.le_of_eq g248.symm)))).other W313 (Nat.ne_of_lt (Nat.lt_of_lt_of_le Al.lt (Nat.le_of_eq g4.symm)))).other W324 (Nat.ne_of_lt (Nat.lt_of_lt_of_le f17.lt (Nat.le_of_eq g19.symm))))
      obtain ⟨cl332, Ar332, -, S332, N332, -, -⟩ := id f331
      have f333 := ((((v280.other W289 (Nat.ne_of_lt (Nat.lt_of_lt_of_le B243.lt (Nat.le_of_eq g248.symm)))).other W301 (Nat.ne_of_lt (Nat.lt_of_lt_of_le B243.lt (Nat.le_of_eq g248.symm)))).other W313 (Ne.symm (Nat.ne_of_lt (Nat.lt_of_lt_of_le (((v8.other W11 (Ne.symm (Nat.ne_of_lt (Nat.lt_of_lt_of_le Fw.lt (Nat.le_of_eq g4.symm))))).ext E19).other W26 (Ne.symm (Nat.ne_of_lt (Nat.lt_of_lt_of_le Fw.lt (Nat.le_of_eq g4.symm))))).lt (Nat.le_of_eq g243.symm))))).other W324 (Ne.symm (Nat.ne_of_lt (Nat.lt_of_lt_of_le (v23.other W26 (Ne.symm (Nat.ne_of_lt (Nat.lt_of_lt_of_le f13.lt (Nat.le_of_eq g19.symm))))).lt (Nat.le_of_eq g243.symm)))))
      have f334 := ((v302.other W313 (Ne.symm (Nat.ne_of_lt (Nat.lt_of_lt_of_le ((((v8.other W11 (Ne.symm (Nat.ne_of_lt (Nat.lt_of_lt_of_le Fw.lt (Nat.le_of_eq g4.symm))))).ext E19).other W26 (Ne.symm (Nat.ne_of_lt (Nat.lt_of_lt_of_le Fw.lt (Nat.le_of_eq g4.symm))))).ext E243).lt (Nat.le_of_eq g248.symm))))).other W324 (Ne.symm (Nat.ne_of_lt (Nat.lt_of_lt_of_le ((v23.other W26 (Ne.symm (Nat.ne_of_lt (Nat.lt_of_lt_of_le f13.lt (Nat.le_of_eq g19.symm))))).ext E243).lt (Nat.le_of_eq g248.symm)))))
      have f335 := ((f314.wr W313).wr W324)
      have f336 := (f325.wr W324)
      have f337 := ((((((((((f25.wr W26).ext E243).ext E248).wr W257).wr W267).wr W279).wr W289).wr W301).wr W313).wr W324)
      have f338 := ((f309.other W313 (Or.inl (Nat.ne_of_lt (Nat.lt_of_lt_of_le Fw.lt (Nat.le_of_eq g4.symm))))).other W324 (Or.inl (Nat.ne_of_lt (Nat.lt_of_lt_of_le f13.lt (Nat.le_of_eq g19.symm)))))
      have f339 := (f320.other W324 (Or.inl (Nat.ne_of_lt (Nat.lt_of_lt_of_le f13.lt (Nat.le_of_eq g19.symm)))))
      have f340 := (v315.other W324 (Nat.ne_of_lt (Nat.lt_of_lt_of_le (v8.other W11 (Ne.symm (Nat.ne_of_lt (Nat.lt_of_lt_of_le Fw.lt (Nat.le_of_eq g4.symm))))).lt (Nat.le_of_eq g19.symm))))
      obtain ⟨fs341, hr341, hrun341, hended341, hW341, hsame341⟩ := X324.leave (v := none) (fun _ => rfl)
      refine ⟨_, _, pre0 _ (P327 _ ?_), hrun341, hended341, _, _, rfl, ?_, ⟨⟨_, rfl⟩, hW341, hsame341.mono (Nat.le_of_ble_eq_true rfl) (Nat.le_of_ble_eq_true rfl)⟩⟩
      · show Sg p e below (T324.setTop (mkF m 180 #[sR a1, sR l1, sI 0, sR f0, sI 2, sR b243, sR b248, sI 1, sI 3] [])) _
        refine XS.iinc X324.here hx rfl (hb hby dp22_1_180) rfl (l' := #[sR a1, sR l1, sI 1, sR f0, sI 2, sR b243, sR b248, sI 1, sI 3]) rfl ?_
        refine XS.goto X324.here hx rfl (pc0 := 183) (pc' := 24) rfl (hb hby dp22_1_183) (by decide) (by decide) ?_
        refine XS.iloadN X324.here hx rfl (hb hby dp22_1_24) rfl ?_
        refine XS.aloadN X324.here hx rfl (hb hby dp22_1_25) rfl rfl ?_
        show Sg p e below (T324.setTop (mkF m 26 #[sR a1, sR l1, sI 1, sR f0, sI 2, sR b243, sR b248, sI 1, sI 3] [(.ref l1), (.int (1 : Int32))])) _
        refine X324.arraylength hx (by rw [e324]; exact Ar332.1) (State.isArrayOf_alike hZ.alike Ar332.2.1) (g := (mkF m 26 #[sR a1, sR l1, sI 1, sR f0, sI 2, sR b243, sR b248, sI 1, sI 3] [(.ref l1), (.int (1 : Int32))])) rfl rfl (hb hby dp22_1_26) _ ?_
        rw [len_of S332 N332]
        show Sg p e below (T324.setTop (mkF m 27 #[sR a1, sR l1, sI 1, sR f0, sI 2, sR b243, sR b248, sI 1, sI 3] [(.int (1 : Int32)), (.int (1 : Int32))])) _
        refine XS.icmpYes X324.here hx rfl (pc0 := 27) (pc' := 186) rfl (hb hby dp22_1_27) rfl (flt (show ¬ ((1 : Int32) < (1 : Int32)) from (by decide))).2.1 (by decide) (by decide) ?_
        show Sg p e below (T324.setTop (mkF m 186 #[sR a1, sR l1, sI 1, sR f0, sI 2, sR b243, sR b248, sI 1, sI 3] [])) _
        exact X324.returnOut hx Bd.returns (hb hby dp22_1_186) hr341
      · show Q_wsInit Z a1 x00 x01 x02 h0 n0 _ T324.heap _
        rw [e324]
        exact ⟨rfl, N328, K330, f337, b4, b19, _, _, b243, b248, f338, f339, f340, v326, sz_b4, sz_b19, ⟨_, _, ([((x00.toUInt32 >>> ((6 : Int32) &&& 31).toUInt32).toInt32), ((x01.toUInt32 >>> ((6 : Int32) &&& 31).toUInt32).toInt32)] : List Int32), ([((0 : Int64) ||| ((1 : Int64) <<< (x00 &&& 0x3f).toInt64)), (((0 : Int64) ||| ((1 : Int64) <<< (x01 &&& 0x3f).toInt64)) ||| ((1 : Int64) <<< (x02 &&& 0x3f).toInt64))] : List Int64), (2 : Int32), ((if_neg q41).trans ((if_pos q241))).symm, ((if_neg q41).trans ((if_pos q241))).symm, rfl, f333, f334, f335, f336, sz_b243, sz_b248⟩⟩
    · skip
      obtain ⟨cl342, Ar342, -, S342, N342, -, -⟩ := id f35
      obtain ⟨T343, h343, k343, X343, e343, E343, A343, B343, st343⟩ := newPE X26 hx hZ (own_hw hw 7 rfl) e26 (g := (mkF m 82 #[sR a1, sR l1, sI 0, sR f0, sI 3, sI 3, sU, sU, sU] [(.int (3 : Int32))])) rfl (hb hby dp22_1_82) rfl (by decide) (cap := 3) (by decide) (by decide) (by decide) (by decide) (ad := "[I") (by decide)
      obtain ⟨b343, g343⟩ : ∃ z, z = h26.size := ⟨_, rfl⟩
      rw [← g343] at A343 B343 st343
      have g_b343 : n0 ≤ b343 := Nat.le_trans Z30 (Nat.le_of_eq g343.symm)
      have sz_b343 : h0.size ≤ b343 := Nat.le_trans K31.1 (Nat.le_of_eq g343.symm)
      have P344 : Rg p e below (T343.setTop (mkF m 84 #[sR a1, sR l1, sI 0, sR f0, sI 3, sI 3, sU, sU, sU] [(.ref b343)])) B0 := fun t k => P240 t (by
        refine XS.icmpNo X26.here hx rfl (hb hby dp22_1_68) rfl (feq (show ¬ (((x02.toUInt32 >>> ((6 : Int32) &&& 31).toUInt32).toInt32) = ((x01.toUInt32 >>> ((6 : Int32) &&& 31).toUInt32).toInt32)) from q241)).1 ?_
        refine XS.iinc X26.here hx rfl (hb hby dp22_1_71) rfl (l' := #[sR a1, sR l1, sI 0, sR f0, sI 3, sI 2, sU, sU, sU]) rfl ?_
        refine XS.iinc X26.here hx rfl (hb hby dp22_1_74) rfl (l' := #[sR a1, sR l1, sI 0, sR f0, sI 3, sI 3, sU, sU, sU]) rfl ?_
        refine XS.goto X26.here hx rfl (pc0 := 77) (pc' := 40) rfl (hb hby dp22_1_77) (by decide) (by decide) ?_
        refine XS.iload X26.here hx rfl (hb hby dp22_1_40) rfl ?_
        refine XS.aloadN X26.here hx rfl (hb hby dp22_1_42) rfl rfl ?_
        show Sg p e below (T26.setTop (mkF m 43 #[sR a1, sR l1, sI 0, sR f0, sI 3, sI 3, sU, sU, sU] [(.ref f0), (.int (3 : Int32))])) _
        refine X26.arraylength hx (by rw [e26]; exact Ar342.1) (State.isArrayOf_alike hZ.alike Ar342.2.1) (g := (mkF m 43 #[sR a1, sR l1, sI 0, sR f0, sI 3, sI 3, sU, sU, sU] [(.ref f0), (.int (3 : Int32))])) rfl rfl (hb hby dp22_1_43) _ ?_
        rw [len_of S342 N342]
        show Sg p e below (T26.setTop (mkF m 44 #[sR a1, sR l1, sI 0, sR f0, sI 3, sI 3, sU, sU, sU] [(.int (3 : Int32)), (.int (3 : Int32))])) _
        refine XS.icmpYes X26.here hx rfl (pc0 := 44) (pc' := 80) rfl (hb hby dp22_1_44) rfl (flt (show ¬ ((3 : Int32) < (3 : Int32)) from (by decide))).2.1 (by decide) (by decide) ?_
        refine XS.iload X26.here hx rfl (hb hby dp22_1_80) rfl ?_
        show Sg p e below (T26.setTop (mkF m 82 #[sR a1, sR l1, sI 0, sR f0, sI 3, sI 3, sU, sU, sU] [(.int (3 : Int32))])) _
        exact st343 _ k)
      have Z345 : n0 ≤ h343.size := Nat.le_trans Z30 E343.1
      have K346 : Keep h0 h343 [a1] := K31.ext E343
      have v347 : Arv Z h343 b343 k343 .int (3 : Int32) [(.int (0 : Int32)), (.int (0 : Int32)), (.int (0 : Int32))] (.int (0 : Int32)) := (Arv.new A343 (by decide)).pad (pad_rep [] (.int (0 : Int32)) 3)
      obtain ⟨T348, h348, k348, X348, e348, E348, A348, B348, st348⟩ := newPE X343 hx hZ (own_hw hw 25 rfl) e343 (g := (mkF m 88 #[sR a1, sR l1, sI 0, sR f0, sI 3, sR b343, sU, sU, sU] [(.int (3 : Int32))])) rfl (hb hby dp22_1_88) rfl (by decide) (cap := 3) (by decide) (by decide) (by decide) (by decide) (ad := "[J") (by decide)
      obtain ⟨b348, g348⟩ : ∃ z, z = h343.size := ⟨_, rfl⟩
      rw [← g348] at A348 B348 st348
      have g_b348 : n0 ≤ b348 := Nat.le_trans Z345 (Nat.le_of_eq g348.symm)
      have sz_b348 : h0.size ≤ b348 := Nat.le_trans K346.1 (Nat.le_of_eq g348.symm)
      have P349 : Rg p e below (T348.setTop (mkF m 90 #[sR a1, sR l1, sI 0, sR f0, sI 3, sR b343, sU, sU, sU] [(.ref b348)])) B0 := fun t k => P344 t (by
        refine XS.astore X343.here hx rfl (hb hby dp22_1_84) rfl rfl (l' := #[sR a1, sR l1, sI 0, sR f0, sI 3, sR b343, sU, sU, sU]) rfl ?_
        refine XS.iload X343.here hx rfl (hb hby dp22_1_86) rfl ?_
        show Sg p e below (T343.setTop (mkF m 88 #[sR a1, sR l1, sI 0, sR f0, sI 3, sR b343, sU, sU, sU] [(.int (3 : Int32))])) _
        exact st348 _ k)
      have Z350 : n0 ≤ h348.size := Nat.le_trans Z345 E348.1
      have K351 : Keep h0 h348 [a1] := K346.ext E348
      have v352 : Arv Z h348 b348 k348 .long (3 : Int32) [(.long (0 : Int64)), (.long (0 : Int64)), (.long (0 : Int64))] (.long (0 : Int64)) := (Arv.new A348 (by decide)).pad (pad_rep [] (.long (0 : Int64)) 3)
      have f353 := ((f35.ext E343).ext E348)
      obtain ⟨cl354, Ar354, -, S354, N354, -, -⟩ := id f353
      obtain ⟨cl355, Ar355, -, S355, N355, H355, -⟩ := id f353
      have hin355 : ¬ ((0 : Int32) < 0 ∨ cl355.slots.size ≤ ((0 : Int32)).toNatClampNeg) := inb_of S355 ⟨by decide, by decide⟩
      have f356 := (v347.ext E348)
      obtain ⟨cl357, Ar357, q357, S357, N357, H357, G357⟩ := id f356
      obtain ⟨T357, h357, X357, e357, W357, st357⟩ := stI X348 hx hZ e348 Ar357 (j := (0 : Int32)) (inb_of S357 ⟨by decide, by decide⟩) (g := (mkF m 143 #[sR a1, sR l1, sI 0, sR f0, sI 3, sR b343, sR b348, sI 0, sI 0] [(.int ((x00.toUInt32 >>> ((6 : Int32) &&& 31).toUInt32).toInt32)), (.int (0 : Int32)), (.ref b343)])) rfl rfl (hb hby dp22_1_143)
      have v358 : Arv Z h357 b343 k343 .int (3 : Int32) [(.int ((x00.toUInt32 >>> ((6 : Int32) &&& 31).toUInt32).toInt32)), (.int (0 : Int32)), (.int (0 : Int32))] (.int (0 : Int32)) := Arv.set Ar357 q357 S357 N357 H357 G357 rfl W357 0 rfl (Nat.le_of_ble_eq_true rfl)
      have P359 : Rg p e below (T357.setTop (mkF m 144 #[sR a1, sR l1, sI 0, sR f0, sI 3, sR b343, sR b348, sI 0, sI 0] [])) B0 := fun t k => P349 t (by
        refine XS.astore X348.here hx rfl (hb hby dp22_1_90) rfl rfl (l' := #[sR a1, sR l1, sI 0, sR f0, sI 3, sR b343, sR b348, sU, sU]) rfl ?_
        refine XS.iconst X348.here hx rfl (hb hby dp22_1_92) ?_
        refine XS.istore X348.here hx rfl (hb hby dp22_1_93) rfl (l' := #[sR a1, sR l1, sI 0, sR f0, sI 3, sR b343, sR b348, sI (-1), sU]) rfl ?_
        refine XS.iconst X348.here hx rfl (hb hby dp22_1_95) ?_
        refine XS.istore X348.here hx rfl (hb hby dp22_1_96) rfl (l' := #[sR a1, sR l1, sI 0, sR f0, sI 3, sR b343, sR b348, sI (-1), sI 0]) rfl ?_
        refine XS.iload X348.here hx rfl (hb hby dp22_1_98) rfl ?_
        refine XS.aloadN X348.here hx rfl (hb hby dp22_1_100) rfl rfl ?_
        show Sg p e below (T348.setTop (mkF m 101 #[sR a1, sR l1, sI 0, sR f0, sI 3, sR b343, sR b348, sI (-1), sI 0] [(.ref f0), (.int (0 : Int32))])) _
        refine X348.arraylength hx (by rw [e348]; exact Ar354.1) (State.isArrayOf_alike hZ.alike Ar354.2.1) (g := (mkF m 101 #[sR a1, sR l1, sI 0, sR f0, sI 3, sR b343, sR b348, sI (-1), sI 0] [(.ref f0), (.int (0 : Int32))])) rfl rfl (hb hby dp22_1_101) _ ?_
        rw [len_of S354 N354]
        show Sg p e below (T348.setTop (mkF m 102 #[sR a1, sR l1, sI 0, sR f0, sI 3, sR b343, sR b348, sI (-1), sI 0] [(.int (3 : Int32)), (.int (0 : Int32))])) _
        refine XS.icmpNo X348.here hx rfl (hb hby dp22_1_102) rfl (tlt (show (0 : Int32) < (3 : Int32) from (by decide))).2.1 ?_
        refine XS.iload X348.here hx rfl (hb hby dp22_1_105) rfl ?_
        refine XS.ifYes X348.here hx rfl (pc0 := 107) (pc' := 129) rfl (hb hby dp22_1_107) rfl ((if0 _ _).trans (teq (show (0 : Int32) = (0 : Int32) from (by decide))).1) (by decide) (by decide) ?_
        refine XS.aload X348.here hx rfl (hb hby dp22_1_129) rfl rfl ?_
        refine XS.iinc X348.here hx rfl (hb hby dp22_1_131) rfl (l' := #[sR a1, sR l1, sI 0, sR f0, sI 3, sR b343, sR b348, sI 0, sI 0]) rfl ?_
        refine XS.iload X348.here hx rfl (hb hby dp22_1_134) rfl ?_
        refine XS.aloadN X348.here hx rfl (hb hby dp22_1_136) rfl rfl ?_
        refine XS.iload X348.here hx rfl (hb hby dp22_1_137) rfl ?_
        show Sg p e below (T348.setTop (mkF m 139 #[sR a1, sR l1, sI 0, sR f0, sI 3, sR b343, sR b348, sI 0, sI 0] [(.int (0 : Int32)), (.ref f0), (.int (0 : Int32)), (.ref b343)])) _
        refine X348.iaload hx (j := (0 : Int32)) (v := (.int x00)) (by rw [e348]; exact Ar355.1) (State.isArrayOf_alike hZ.alike Ar355.2.1) Ar355.2.2 hin355 (H355.at hin355 rfl) (g := (mkF m 139 #[sR a1, sR l1, sI 0, sR f0, sI 3, sR b343, sR b348, sI 0, sI 0] [(.int (0 : Int32)), (.ref f0), (.int (0 : Int32)), (.ref b343)])) rfl rfl (hb hby dp22_1_139) _ ?_
        show Sg p e below (T348.setTop (mkF m 140 #[sR a1, sR l1, sI 0, sR f0, sI 3, sR b343, sR b348, sI 0, sI 0] [(.int x00), (.int (0 : Int32)), (.ref b343)])) _
        refine XS.bipush X348.here hx rfl (hb hby dp22_1_140) ?_
        refine XS.iushr X348.here hx rfl (hb hby dp22_1_142) rfl ?_
        show Sg p e below (T348.setTop (mkF m 143 #[sR a1, sR l1, sI 0, sR f0, sI 3, sR b343, sR b348, sI 0, sI 0] [(.int ((x00.toUInt32 >>> ((6 : Int32) &&& 31).toUInt32).toInt32)), (.int (0 : Int32)), (.ref b343)])) _
        exact st357 _ k)
      have N360 := Fr.snoc X357 N29 g_b343
      have Z361 : n0 ≤ h357.size := Nat.le_trans Z350 (Keep.of_wr W357).1
      have K362 : Keep h0 h357 [a1] := K351.wr W357 (Or.inr sz_b343)
      have f363 := (v352.other W357 (Ne.symm (Nat.ne_of_lt (Nat.lt_of_lt_of_le B343.lt (Nat.le_of_eq g348.symm)))))
      obtain ⟨cl364, Ar364, -, S364, N364, H364, -⟩ := id f363
      have hin364 : ¬ ((0 : Int32) < 0 ∨ cl364.slots.size ≤ ((0 : Int32)).toNatClampNeg) := inb_of S364 ⟨by decide, by decide⟩
      have f365 := (f353.other W357 (Nat.ne_of_lt (Nat.lt_of_lt_of_le f35.lt (Nat.le_of_eq g343.symm))))
      obtain ⟨cl366, Ar366, -, S366, N366, H366, -⟩ := id f365
      have hin366 : ¬ ((0 : Int32) < 0 ∨ cl366.slots.size ≤ ((0 : Int32)).toNatClampNeg) := inb_of S366 ⟨by decide, by decide⟩
      obtain ⟨cl367, Ar367, q367, S367, N367, H367, G367⟩ := id f363
      obtain ⟨T367, h367, X367, e367, W367, st367⟩ := stJ X357 hx hZ e357 Ar367 (j := (0 : Int32)) (inb_of S367 ⟨by decide, by decide⟩) (g := (mkF m 157 #[sR a1, sR l1, sI 0, sR f0, sI 3, sR b343, sR b348, sI 0, sI 0] [(.long ((0 : Int64) ||| ((1 : Int64) <<< (x00 &&& 0x3f).toInt64))), (.int (0 : Int32)), (.ref b348)])) rfl rfl (hb hby dp22_1_157)
      have v368 : Arv Z h367 b348 k348 .long (3 : Int32) [(.long ((0 : Int64) ||| ((1 : Int64) <<< (x00 &&& 0x3f).toInt64))), (.long (0 : Int64)), (.long (0 : Int64))] (.long (0 : Int64)) := Arv.set Ar367 q367 S367 N367 H367 G367 rfl W367 0 rfl (Nat.le_of_ble_eq_true rfl)
      have P369 : Rg p e below (T367.setTop (mkF m 158 #[sR a1, sR l1, sI 0, sR f0, sI 3, sR b343, sR b348, sI 0, sI 0] [])) B0 := fun t k => P359 t (by
        refine XS.aload X357.here hx rfl (hb hby dp22_1_144) rfl rfl ?_
        refine XS.iload X357.here hx rfl (hb hby dp22_1_146) rfl ?_
        refine XT.dup2 X357.here hx rfl (hb hby dp22_1_148) rfl rfl rfl ?_
        show Sg p e below (T357.setTop (mkF m 149 #[sR a1, sR l1, sI 0, sR f0, sI 3, sR b343, sR b348, sI 0, sI 0] [(.int (0 : Int32)), (.ref b348), (.int (0 : Int32)), (.ref b348)])) _
        refine X357.laload hx (j := (0 : Int32)) (v := (.long (0 : Int64))) (by rw [e357]; exact Ar364.1) (State.isArrayOf_alike hZ.alike Ar364.2.1) Ar364.2.2 hin364 (H364.at hin364 rfl) (g := (mkF m 149 #[sR a1, sR l1, sI 0, sR f0, sI 3, sR b343, sR b348, sI 0, sI 0] [(.int (0 : Int32)), (.ref b348), (.int (0 : Int32)), (.ref b348)])) rfl rfl (hb hby dp22_1_149) _ ?_
        show Sg p e below (T357.setTop (mkF m 150 #[sR a1, sR l1, sI 0, sR f0, sI 3, sR b343, sR b348, sI 0, sI 0] [(.long (0 : Int64)), (.int (0 : Int32)), (.ref b348)])) _
        refine XS.lconst X357.here hx rfl (hb hby dp22_1_150) ?_
        refine XS.aloadN X357.here hx rfl (hb hby dp22_1_151) rfl rfl ?_
        refine XS.iload X357.here hx rfl (hb hby dp22_1_152) rfl ?_
        show Sg p e below (T357.setTop (mkF m 154 #[sR a1, sR l1, sI 0, sR f0, sI 3, sR b343, sR b348, sI 0, sI 0] [(.int (0 : Int32)), (.ref f0), (.long (1 : Int64)), (.long (0 : Int64)), (.int (0 : Int32)), (.ref b348)])) _
        refine X357.iaload hx (j := (0 : Int32)) (v := (.int x00)) (by rw [e357]; exact Ar366.1) (State.isArrayOf_alike hZ.alike Ar366.2.1) Ar366.2.2 hin366 (H366.at hin366 rfl) (g := (mkF m 154 #[sR a1, sR l1, sI 0, sR f0, sI 3, sR b343, sR b348, sI 0, sI 0] [(.int (0 : Int32)), (.ref f0), (.long (1 : Int64)), (.long (0 : Int64)), (.int (0 : Int32)), (.ref b348)])) rfl rfl (hb hby dp22_1_154) _ ?_
        show Sg p e below (T357.setTop (mkF m 155 #[sR a1, sR l1, sI 0, sR f0, sI 3, sR b343, sR b348, sI 0, sI 0] [(.int x00), (.long (1 : Int64)), (.long (0 : Int64)), (.int (0 : Int32)), (.ref b348)])) _
        refine XS.lshl X357.here hx rfl (hb hby dp22_1_155) rfl ?_
        refine XS.lor X357.here hx rfl (hb hby dp22_1_156) rfl ?_
        show Sg p e below (T357.setTop (mkF m 157 #[sR a1, sR l1, sI 0, sR f0, sI 3, sR b343, sR b348, sI 0, sI 0] [(.long ((0 : Int64) ||| ((1 : Int64) <<< (x00 &&& 0x3f).toInt64))), (.int (0 : Int32)), (.ref b348)])) _
        exact st367 _ k)
      have N370 := Fr.snoc X367 N360 g_b348
      have Z371 : n0 ≤ h367.size := Nat.le_trans Z361 (Keep.of_wr W367).1
      have K372 : Keep h0 h367 [a1] := K362.wr W367 (Or.inr sz_b348)
      have f373 := (f365.other W367 (Nat.ne_of_lt (Nat.lt_of_lt_of_le (f35.ext E343).lt (Nat.le_of_eq g348.symm))))
      obtain ⟨cl374, Ar374, -, S374, N374, -, -⟩ := id f373
      obtain ⟨cl375, Ar375, -, S375, N375, H375, -⟩ := id f373
      have hin375 : ¬ ((1 : Int32) < 0 ∨ cl375.slots.size ≤ ((1 : Int32)).toNatClampNeg) := inb_of S375 ⟨by decide, by decide⟩
      obtain ⟨cl376, Ar376, -, S376, N376, H376, -⟩ := id f373
      have hin376 : ¬ ((0 : Int32) < 0 ∨ cl376.slots.size ≤ ((0 : Int32)).toNatClampNeg) := inb_of S376 ⟨by decide, by decide⟩
      obtain ⟨cl377, Ar377, -, S377, N377, H377, -⟩ := id f373
      have hin377 : ¬ ((1 : Int32) < 0 ∨ cl377.slots.size ≤ ((1 : Int32)).toNatClampNeg) := inb_of S377 ⟨by decide, by decide⟩
      have f378 := (v358.other W367 (Nat.ne_of_lt (Nat.lt_of_lt_of_le B343.lt (Nat.le_of_eq g348.symm))))
      obtain ⟨cl379, Ar379, q379, S379, N379, H379, G379⟩ := id f378
      obtain ⟨T379, h379, X379, e379, W379, st379⟩ := stI X367 hx hZ e367 Ar379 (j := (1 : Int32)) (inb_of S379 ⟨by decide, by decide⟩) (g := (mkF m 143 #[sR a1, sR l1, sI 0, sR f0, sI 3, sR b343, sR b348, sI 1, sI 1] [(.int ((x01.toUInt32 >>> ((6 : Int32) &&& 31).toUInt32).toInt32)), (.int (1 : Int32)), (.ref b343)])) rfl rfl (hb hby dp22_1_143)
      have v380 : Arv Z h379 b343 k343 .int (3 : Int32) [(.int ((x00.toUInt32 >>> ((6 : Int32) &&& 31).toUInt32).toInt32)), (.int ((x01.toUInt32 >>> ((6 : Int32) &&& 31).toUInt32).toInt32)), (.int (0 : Int32))] (.int (0 : Int32)) := Arv.set Ar379 q379 S379 N379 H379 G379 rfl W379 1 rfl (Nat.le_of_ble_eq_true rfl)
      have P381 : Rg p e below (T379.setTop (mkF m 144 #[sR a1, sR l1, sI 0, sR f0, sI 3, sR b343, sR b348, sI 1, sI 1] [])) B0 := fun t k => P369 t (by
        refine XS.iinc X367.here hx rfl (hb hby dp22_1_158) rfl (l' := #[sR a1, sR l1, sI 0, sR f0, sI 3, sR b343, sR b348, sI 0, sI 1]) rfl ?_
        refine XS.goto X367.here hx rfl (pc0 := 161) (pc' := 98) rfl (hb hby dp22_1_161) (by decide) (by decide) ?_
        refine XS.iload X367.here hx rfl (hb hby dp22_1_98) rfl ?_
        refine XS.aloadN X367.here hx rfl (hb hby dp22_1_100) rfl rfl ?_
        show Sg p e below (T367.setTop (mkF m 101 #[sR a1, sR l1, sI 0, sR f0, sI 3, sR b343, sR b348, sI 0, sI 1] [(.ref f0), (.int (1 : Int32))])) _
        refine X367.arraylength hx (by rw [e367]; exact Ar374.1) (State.isArrayOf_alike hZ.alike Ar374.2.1) (g := (mkF m 101 #[sR a1, sR l1, sI 0, sR f0, sI 3, sR b343, sR b348, sI 0, sI 1] [(.ref f0), (.int (1 : Int32))])) rfl rfl (hb hby dp22_1_101) _ ?_
        rw [len_of S374 N374]
        show Sg p e below (T367.setTop (mkF m 102 #[sR a1, sR l1, sI 0, sR f0, sI 3, sR b343, sR b348, sI 0, sI 1] [(.int (3 : Int32)), (.int (1 : Int32))])) _
        refine XS.icmpNo X367.here hx rfl (hb hby dp22_1_102) rfl (tlt (show (1 : Int32) < (3 : Int32) from (by decide))).2.1 ?_
        refine XS.iload X367.here hx rfl (hb hby dp22_1_105) rfl ?_
        refine XS.ifNo X367.here hx rfl (hb hby dp22_1_107) rfl ((if0 _ _).trans (feq (show ¬ ((1 : Int32) = (0 : Int32)) from (by decide))).1) ?_
        refine XS.aloadN X367.here hx rfl (hb hby dp22_1_110) rfl rfl ?_
        refine XS.iload X367.here hx rfl (hb hby dp22_1_111) rfl ?_
        show Sg p e below (T367.setTop (mkF m 113 #[sR a1, sR l1, sI 0, sR f0, sI 3, sR b343, sR b348, sI 0, sI 1] [(.int (1 : Int32)), (.ref f0)])) _
        refine X367.iaload hx (j := (1 : Int32)) (v := (.int x01)) (by rw [e367]; exact Ar375.1) (State.isArrayOf_alike hZ.alike Ar375.2.1) Ar375.2.2 hin375 (H375.at hin375 rfl) (g := (mkF m 113 #[sR a1, sR l1, sI 0, sR f0, sI 3, sR b343, sR b348, sI 0, sI 1] [(.int (1 : Int32)), (.ref f0)])) rfl rfl (hb hby dp22_1_113) _ ?_
        show Sg p e below (T367.setTop (mkF m 114 #[sR a1, sR l1, sI 0, sR f0, sI 3, sR b343, sR b348, sI 0, sI 1] [(.int x01)])) _
        refine XS.bipush X367.here hx rfl (hb hby dp22_1_114) ?_
        refine XS.iushr X367.here hx rfl (hb hby dp22_1_116) rfl ?_
        refine XS.aloadN X367.here hx rfl (hb hby dp22_1_117) rfl rfl ?_
        refine XS.iload X367.here hx rfl (hb hby dp22_1_118) rfl ?_
        refine XS.iconst X367.here hx rfl (hb hby dp22_1_120) ?_
        refine XS.isub X367.here hx rfl (hb hby dp22_1_121) rfl ?_
        show Sg p e below (T367.setTop (mkF m 122 #[sR a1, sR l1, sI 0, sR f0, sI 3, sR b343, sR b348, sI 0, sI 1] [(.int (0 : Int32)), (.ref f0), (.int ((x01.toUInt32 >>> ((6 : Int32) &&& 31).toUInt32).toInt32))])) _
        refine X367.iaload hx (j := (0 : Int32)) (v := (.int x00)) (by rw [e367]; exact Ar376.1) (State.isArrayOf_alike hZ.alike Ar376.2.1) Ar376.2.2 hin376 (H376.at hin376 rfl) (g := (mkF m 122 #[sR a1, sR l1, sI 0, sR f0, sI 3, sR b343, sR b348, sI 0, sI 1] [(.int (0 : Int32)), (.ref f0), (.int ((x01.toUInt32 >>> ((6 : Int32) &&& 31).toUInt32).toInt32))])) rfl rfl (hb hby dp22_1_122) _ ?_
        show Sg p e below (T367.setTop (mkF m 123 #[sR a1, sR l1, sI 0, sR f0, sI 3, sR b343, sR b348, sI 0, sI 1] [(.int x00), (.int ((x01.toUInt32 >>> ((6 : Int32) &&& 31).toUInt32).toInt32))])) _
        refine XS.bipush X367.here hx rfl (hb hby dp22_1_123) ?_
        refine XS.iushr X367.here hx rfl (hb hby dp22_1_125) rfl ?_
        refine XS.icmpNo X367.here hx rfl (hb hby dp22_1_126) rfl (feq (show ¬ (((x01.toUInt32 >>> ((6 : Int32) &&& 31).toUInt32).toInt32) = ((x00.toUInt32 >>> ((6 : Int32) &&& 31).toUInt32).toInt32)) from q41)).1 ?_
        refine XS.aload X367.here hx rfl (hb hby dp22_1_129) rfl rfl ?_
        refine XS.iinc X367.here hx rfl (hb hby dp22_1_131) rfl (l' := #[sR a1, sR l1, sI 0, sR f0, sI 3, sR b343, sR b348, sI 1, sI 1]) rfl ?_
        refine XS.iload X367.here hx rfl (hb hby dp22_1_134) rfl ?_
        refine XS.aloadN X367.here hx rfl (hb hby dp22_1_136) rfl rfl ?_
        refine XS.iload X367.here hx rfl (hb hby dp22_1_137) rfl ?_
        show Sg p e below (T367.setTop (mkF m 139 #[sR a1, sR l1, sI 0, sR f0, sI 3, sR b343, sR b348, sI 1, sI 1] [(.int (1 : Int32)), (.ref f0), (.int (1 : Int32)), (.ref b343)])) _
        refine X367.iaload hx (j := (1 : Int32)) (v := (.int x01)) (by rw [e367]; exact Ar377.1) (State.isArrayOf_alike hZ.alike Ar377.2.1) Ar377.2.2 hin377 (H377.at hin377 rfl) (g := (mkF m 139 #[sR a1, sR l1, sI 0, sR f0, sI 3, sR b343, sR b348, sI 1, sI 1] [(.int (1 : Int32)), (.ref f0), (.int (1 : Int32)), (.ref b343)])) rfl rfl (hb hby dp22_1_139) _ ?_
        show Sg p e below (T367.setTop (mkF m 140 #[sR a1, sR l1, sI 0, sR f0, sI 3, sR b343, sR b348, sI 1, sI 1] [(.int x01), (.int (1 : Int32)), (.ref b343)])) _
        refine XS.bipush X367.here hx rfl (hb hby dp22_1_140) ?_
        refine XS.iushr X367.here hx rfl (hb hby dp22_1_142) rfl ?_
        show Sg p e below (T367.setTop (mkF m 143 #[sR a1, sR l1, sI 0, sR f0, sI 3, sR b343, sR b348, sI 1, sI 1] [(.int ((x01.toUInt32 >>> ((6 : Int32) &&& 31).toUInt32).toInt32)), (.int (1 : Int32)), (.ref b343)])) _
        exact st379 _ k)
      have N382 := Fr.snoc X379 N370 g_b343
      have Z383 : n0 ≤ h379.size := Nat.le_trans Z371 (Keep.of_wr W379).1
      have K384 : Keep h0 h379 [a1] := K372.wr W379 (Or.inr sz_b343)
      have f385 := (v368.other W379 (Ne.symm (Nat.ne_of_lt (Nat.lt_of_lt_of_le B343.lt (Nat.le_of_eq g348.symm)))))
      obtain ⟨cl386, Ar386, -, S386, N386, H386, -⟩ := id f385
      have hin386 : ¬ ((1 : Int32) < 0 ∨ cl386.slots.size ≤ ((1 : Int32)).toNatClampNeg) := inb_of S386 ⟨by decide, by decide⟩
      have f387 := (f373.other W379 (Nat.ne_of_lt (Nat.lt_of_lt_of_le f35.lt (Nat.le_of_eq g343.symm))))
      obtain ⟨cl388, Ar388, -, S388, N388, H388, -⟩ := id f387
      have hin388 : ¬ ((1 : Int32) < 0 ∨ cl388.slots.size ≤ ((1 : Int32)).toNatClampNeg) := inb_of S388 ⟨by decide, by decide⟩
      obtain ⟨cl389, Ar389, q389, S389, N389, H389, G389⟩ := id f385
      obtain ⟨T389, h389, X389, e389, W389, st389⟩ := stJ X379 hx hZ e379 Ar389 (j := (1 : Int32)) (inb_of S389 ⟨by decide, by decide⟩) (g := (mkF m 157 #[sR a1, sR l1, sI 0, sR f0, sI 3, sR b343, sR b348, sI 1, sI 1] [(.long ((0 : Int64) ||| ((1 : Int64) <<< (x01 &&& 0x3f).toInt64))), (.int (1 : Int32)), (.ref b348)])) rfl rfl (hb hby dp22_1_157)
      have v390 : Arv Z h389 b348 k348 .long (3 : Int32) [(.long ((0 : Int64) ||| ((1 : Int64) <<< (x00 &&& 0x3f).toInt64))), (.long ((0 : Int64) ||| ((1 : Int64) <<< (x01 &&& 0x3f).toInt64))), (.long (0 : Int64))] (.long (0 : Int64)) := Arv.set Ar389 q389 S389 N389 H389 G389 rfl W389 1 rfl (Nat.le_of_ble_eq_true rfl)
      have P391 : Rg p e below (T389.setTop (mkF m 158 #[sR a1, sR l1, sI 0, sR f0, sI 3, sR b343, sR b348, sI 1, sI 1] [])) B0 := fun t k => P381 t (by
        refine XS.aload X379.here hx rfl (hb hby dp22_1_144) rfl rfl ?_
        refine XS.iload X379.here hx rfl (hb hby dp22_1_146) rfl ?_
        refine XT.dup2 X379.here hx rfl (hb hby dp22_1_148) rfl rfl rfl ?_
        show Sg p e below (T379.setTop (mkF m 149 #[sR a1, sR l1, sI 0, sR f0, sI 3, sR b343, sR b348, sI 1, sI 1] [(.int (1 : Int32)), (.ref b348), (.int (1 : Int32)), (.ref b348)])) _
        refine X379.laload hx (j := (1 : Int32)) (v := (.long (0 : Int64))) (by rw [e379]; exact Ar386.1) (State.isArrayOf_alike hZ.alike Ar386.2.1) Ar386.2.2 hin386 (H386.at hin386 rfl) (g := (mkF m 149 #[sR a1, sR l1, sI 0, sR f0, sI 3, sR b343, sR b348, sI 1, sI 1] [(.int (1 : Int32)), (.ref b348), (.int (1 : Int32)), (.ref b348)])) rfl rfl (hb hby dp22_1_149) _ ?_
        show Sg p e below (T379.setTop (mkF m 150 #[sR a1, sR l1, sI 0, sR f0, sI 3, sR b343, sR b348, sI 1, sI 1] [(.long (0 : Int64)), (.int (1 : Int32)), (.ref b348)])) _
        refine XS.lconst X379.here hx rfl (hb hby dp22_1_150) ?_
        refine XS.aloadN X379.here hx rfl (hb hby dp22_1_151) rfl rfl ?_
        refine XS.iload X379.here hx rfl (hb hby dp22_1_152) rfl ?_
        show Sg p e below (T379.setTop (mkF m 154 #[sR a1, sR l1, sI 0, sR f0, sI 3, sR b343, sR b348, sI 1, sI 1] [(.int (1 : Int32)), (.ref f0), (.long (1 : Int64)), (.long (0 : Int64)), (.int (1 : Int32)), (.ref b348)])) _
        refine X379.iaload hx (j := (1 : Int32)) (v := (.int x01)) (by rw [e379]; exact Ar388.1) (State.isArrayOf_alike hZ.alike Ar388.2.1) Ar388.2.2 hin388 (H388.at hin388 rfl) (g := (mkF m 154 #[sR a1, sR l1, sI 0, sR f0, sI 3, sR b343, sR b348, sI 1, sI 1] [(.int (1 : Int32)), (.ref f0), (.long (1 : Int64)), (.long (0 : Int64)), (.int (1 : Int32)), (.ref b348)])) rfl rfl (hb hby dp22_1_154) _ ?_
        show Sg p e below (T379.setTop (mkF m 155 #[sR a1, sR l1, sI 0, sR f0, sI 3, sR b343, sR b348, sI 1, sI 1] [(.int x01), (.long (1 : Int64)), (.long (0 : Int64)), (.int (1 : Int32)), (.ref b348)])) _
        refine XS.lshl X379.here hx rfl (hb hby dp22_1_155) rfl ?_
        refine XS.lor X379.here hx rfl (hb hby dp22_1_156) rfl ?_
        show Sg p e below (T379.setTop (mkF m 157 #[sR a1, sR l1, sI 0, sR f0, sI 3, sR b343, sR b348, sI 1, sI 1] [(.long ((0 : Int64) ||| ((1 : Int64) <<< (x01 &&& 0x3f).toInt64))), (.int (1 : Int32)), (.ref b348)])) _
        exact st389 _ k)
      have N392 := Fr.snoc X389 N382 g_b348
      have Z393 : n0 ≤ h389.size := Nat.le_trans Z383 (Keep.of_wr W389).1
      have K394 : Keep h0 h389 [a1] := K384.wr W389 (Or.inr sz_b348)
      have f395 := (f387.other W389 (Nat.ne_of_lt (Nat.lt_of_lt_of_le (f35.ext E343).lt (Nat.le_of_eq g348.symm))))
      obtain ⟨cl396, Ar396, -, S396, N396, -, -⟩ := id f395
      obtain ⟨cl397, Ar397, -, S397, N397, H397, -⟩ := id f395
      have hin397 : ¬ ((2 : Int32) < 0 ∨ cl397.slots.size ≤ ((2 : Int32)).toNatClampNeg) := inb_of S397 ⟨by decide, by decide⟩
      obtain ⟨cl398, Ar398, -, S398, N398, H398, -⟩ := id f395
      have hin398 : ¬ ((1 : Int32) < 0 ∨ cl398.slots.size ≤ ((1 : Int32)).toNatClampNeg) := inb_of S398 ⟨by decide, by decide⟩
      obtain ⟨cl399, Ar399, -, S399, N399, H399, -⟩ := id f395
      have hin399 : ¬ ((2 : Int32) < 0 ∨ cl399.slots.size ≤ ((2 : Int32)).toNatClampNeg) := inb_of S399 ⟨by decide, by decide⟩
      have f400 := (v380.other W389 (Nat.ne_of_lt (Nat.lt_of_lt_of_le B343.lt (Nat.le_of_eq g348.symm))))
      obtain ⟨cl401, Ar401, q401, S401, N401, H401, G401⟩ := id f400
      obtain ⟨T401, h401, X401, e401, W401, st401⟩ := stI X389 hx hZ e389 Ar401 (j := (2 : Int32)) (inb_of S401 ⟨by decide, by decide⟩) (g := (mkF m 143 #[sR a1, sR l1, sI 0, sR f0, sI 3, sR b343, sR b348, sI 2, sI 2] [(.int ((x02.toUInt32 >>> ((6 : Int32) &&& 31).toUInt32).toInt32)), (.int (2 : Int32)), (.ref b343)])) rfl rfl (hb hby dp22_1_143)
      have v402 : Arv Z h401 b343 k343 .int (3 : Int32) [(.int ((x00.toUInt32 >>> ((6 : Int32) &&& 31).toUInt32).toInt32)), (.int ((x01.toUInt32 >>> ((6 : Int32) &&& 31).toUInt32).toInt32)), (.int ((x02.toUInt32 >>> ((6 : Int32) &&& 31).toUInt32).toInt32))] (.int (0 : Int32)) := Arv.set Ar401 q401 S401 N401 H401 G401 rfl W401 2 rfl (Nat.le_of_ble_eq_true rfl)
      have P403 : Rg p e below (T401.setTop (mkF m 144 #[sR a1, sR l1, sI 0, sR f0, sI 3, sR b343, sR b348, sI 2, sI 2] [])) B0 := fun t k => P391 t (by
        refine XS.iinc X389.here hx rfl (hb hby dp22_1_158) rfl (l' := #[sR a1, sR l1, sI 0, sR f0, sI 3, sR b343, sR b348, sI 1, sI 2]) rfl ?_
        refine XS.goto X389.here hx rfl (pc0 := 161) (pc' := 98) rfl (hb hby dp22_1_161) (by decide) (by decide) ?_
        refine XS.iload X389.here hx rfl (hb hby dp22_1_98) rfl ?_
        refine XS.aloadN X389.here hx rfl (hb hby dp22_1_100) rfl rfl ?_
        show Sg p e below (T389.setTop (mkF m 101 #[sR a1, sR l1, sI 0, sR f0, sI 3, sR b343, sR b348, sI 1, sI 2] [(.ref f0), (.int (2 : Int32))])) _
        refine X389.arraylength hx (by rw [e389]; exact Ar396.1) (State.isArrayOf_alike hZ.alike Ar396.2.1) (g := (mkF m 101 #[sR a1, sR l1, sI 0, sR f0, sI 3, sR b343, sR b348, sI 1, sI 2] [(.ref f0), (.int (2 : Int32))])) rfl rfl (hb hby dp22_1_101) _ ?_
        rw [len_of S396 N396]
        show Sg p e below (T389.setTop (mkF m 102 #[sR a1, sR l1, sI 0, sR f0, sI 3, sR b343, sR b348, sI 1, sI 2] [(.int (3 : Int32)), (.int (2 : Int32))])) _
        refine XS.icmpNo X389.here hx rfl (hb hby dp22_1_102) rfl (tlt (show (2 : Int32) < (3 : Int32) from (by decide))).2.1 ?_
        refine XS.iload X389.here hx rfl (hb hby dp22_1_105) rfl ?_
        refine XS.ifNo X389.here hx rfl (hb hby dp22_1_107) rfl ((if0 _ _).trans (feq (show ¬ ((2 : Int32) = (0 : Int32)) from (by decide))).1) ?_
        refine XS.aloadN X389.here hx rfl (hb hby dp22_1_110) rfl rfl ?_
        refine XS.iload X389.here hx rfl (hb hby dp22_1_111) rfl ?_
        show Sg p e below (T389.setTop (mkF m 113 #[sR a1, sR l1, sI 0, sR f0, sI 3, sR b343, sR b348, sI 1, sI 2] [(.int (2 : Int32)), (.ref f0)])) _
        refine X389.iaload hx (j := (2 : Int32)) (v := (.int x02)) (by rw [e389]; exact Ar397.1) (State.isArrayOf_alike hZ.alike Ar397.2.1) Ar397.2.2 hin397 (H397.at hin397 rfl) (g := (mkF m 113 #[sR a1, sR l1, sI 0, sR f0, sI 3, sR b343, sR b348, sI 1, sI 2] [(.int (2 : Int32)), (.ref f0)])) rfl rfl (hb hby dp22_1_113) _ ?_
        show Sg p e below (T389.setTop (mkF m 114 #[sR a1, sR l1, sI 0, sR f0, sI 3, sR b343, sR b348, sI 1, sI 2] [(.int x02)])) _
        refine XS.bipush X389.here hx rfl (hb hby dp22_1_114) ?_
        refine XS.iushr X389.here hx rfl (hb hby dp22_1_116) rfl ?_
        refine XS.aloadN X389.here hx rfl (hb hby dp22_1_117) rfl rfl ?_
        refine XS.iload X389.here hx rfl (hb hby dp22_1_118) rfl ?_
        refine XS.iconst X389.here hx rfl (hb hby dp22_1_120) ?_
        refine XS.isub X389.here hx rfl (hb hby dp22_1_121) rfl ?_
        show Sg p e below (T389.setTop (mkF m 122 #[sR a1, sR l1, sI 0, sR f0, sI 3, sR b343, sR b348, sI 1, sI 2] [(.int (1 : Int32)), (.ref f0), (.int ((x02.toUInt32 >>> ((6 : Int32) &&& 31).toUInt32).toInt32))])) _
        refine X389.iaload hx (j := (1 : Int32)) (v := (.int x01)) (by rw [e389]; exact Ar398.1) (State.isArrayOf_alike hZ.alike Ar398.2.1) Ar398.2.2 hin398 (H398.at hin398 rfl) (g := (mkF m 122 #[sR a1, sR l1, sI 0, sR f0, sI 3, sR b343, sR b348, sI 1, sI 2] [(.int (1 : Int32)), (.ref f0), (.int ((x02.toUInt32 >>> ((6 : Int32) &&& 31).toUInt32).toInt32))])) rfl rfl (hb hby dp22_1_122) _ ?_
        show Sg p e below (T389.setTop (mkF m 123 #[sR a1, sR l1, sI 0, sR f0, sI 3, sR b343, sR b348, sI 1, sI 2] [(.int x01), (.int ((x02.toUInt32 >>> ((6 : Int32) &&& 31).toUInt32).toInt32))])) _
        refine XS.bipush X389.here hx rfl (hb hby dp22_1_123) ?_
        refine XS.iushr X389.here hx rfl (hb hby dp22_1_125) rfl ?_
        refine XS.icmpNo X389.here hx rfl (hb hby dp22_1_126) rfl (feq (show ¬ (((x02.toUInt32 >>> ((6 : Int32) &&& 31).toUInt32).toInt32) = ((x01.toUInt32 >>> ((6 : Int32) &&& 31).toUInt32).toInt32)) from q241)).1 ?_
        refine XS.aload X389.here hx rfl (hb hby dp22_1_129) rfl rfl ?_
        refine XS.iinc X389.here hx rfl (hb hby dp22_1_131) rfl (l' := #[sR a1, sR l1, sI 0, sR f0, sI 3, sR b343, sR b348, sI 2, sI 2]) rfl ?_
        refine XS.iload X389.here hx rfl (hb hby dp22_1_134) rfl ?_
        refine XS.aloadN X389.here hx rfl (hb hby dp22_1_136) rfl rfl ?_
        refine XS.iload X389.here hx rfl (hb hby dp22_1_137) rfl ?_
        show Sg p e below (T389.setTop (mkF m 139 #[sR a1, sR l1, sI 0, sR f0, sI 3, sR b343, sR b348, sI 2, sI 2] [(.int (2 : Int32)), (.ref f0), (.int (2 : Int32)), (.ref b343)])) _
        refine X389.iaload hx (j := (2 : Int32)) (v := (.int x02)) (by rw [e389]; exact Ar399.1) (State.isArrayOf_alike hZ.alike Ar399.2.1) Ar399.2.2 hin399 (H399.at hin399 rfl) (g := (mkF m 139 #[sR a1, sR l1, sI 0, sR f0, sI 3, sR b343, sR b348, sI 2, sI 2] [(.int (2 : Int32)), (.ref f0), (.int (2 : Int32)), (.ref b343)])) rfl rfl (hb hby dp22_1_139) _ ?_
        show Sg p e below (T389.setTop (mkF m 140 #[sR a1, sR l1, sI 0, sR f0, sI 3, sR b343, sR b348, sI 2, sI 2] [(.int x02), (.int (2 : Int32)), (.ref b343)])) _
        refine XS.bipush X389.here hx rfl (hb hby dp22_1_140) ?_
        refine XS.iushr X389.here hx rfl (hb hby dp22_1_142) rfl ?_
        show Sg p e below (T389.setTop (mkF m 143 #[sR a1, sR l1, sI 0, sR f0, sI 3, sR b343, sR b348, sI 2, sI 2] [(.int ((x02.toUInt32 >>> ((6 : Int32) &&& 31).toUInt32).toInt32)), (.int (2 : Int32)), (.ref b343)])) _
        exact st401 _ k)
      have N404 := Fr.snoc X401 N392 g_b343
      have Z405 : n0 ≤ h401.size := Nat.le_trans Z393 (Keep.of_wr W401).1
      have K406 : Keep h0 h401 [a1] := K394.wr W401 (Or.inr sz_b343)
      have f407 := (v390.other W401 (Ne.symm (Nat.ne_of_lt (Nat.lt_of_lt_of_le B343.lt (Nat.le_of_eq g348.symm)))))
      obtain ⟨cl408, Ar408, -, S408, N408, H408, -⟩ := id f407
      have hin408 : ¬ ((2 : Int32) < 0 ∨ cl408.slots.size ≤ ((2 : Int32)).toNatClampNeg) := inb_of S408 ⟨by decide, by decide⟩
      have f409 := (f395.other W401 (Nat.ne_of_lt (Nat.lt_of_lt_of_le f35.lt (Nat.le_of_eq g343.symm))))
      obtain ⟨cl410, Ar410, -, S410, N410, H410, -⟩ := id f409
      have hin410 : ¬ ((2 : Int32) < 0 ∨ cl410.slots.size ≤ ((2 : Int32)).toNatClampNeg) := inb_of S410 ⟨by decide, by decide⟩
      obtain ⟨cl411, Ar411, q411, S411, N411, H411, G411⟩ := id f407
      obtain ⟨T411, h411, X411, e411, W411, st411⟩ := stJ X401 hx hZ e401 Ar411 (j := (2 : Int32)) (inb_of S411 ⟨by decide, by decide⟩) (g := (mkF m 157 #[sR a1, sR l1, sI 0, sR f0, sI 3, sR b343, sR b348, sI 2, sI 2] [(.long ((0 : Int64) ||| ((1 : Int64) <<< (x02 &&& 0x3f).toInt64))), (.int (2 : Int32)), (.ref b348)])) rfl rfl (hb hby dp22_1_157)
      have v412 : Arv Z h411 b348 k348 .long (3 : Int32) [(.long ((0 : Int64) ||| ((1 : Int64) <<< (x00 &&& 0x3f).toInt64))), (.long ((0 : Int64) ||| ((1 : Int64) <<< (x01 &&& 0x3f).toInt64))), (.long ((0 : Int64) ||| ((1 : Int64) <<< (x02 &&& 0x3f).toInt64)))] (.long (0 : Int64)) := Arv.set Ar411 q411 S411 N411 H411 G411 rfl W411 2 rfl (Nat.le_of_ble_eq_true rfl)
      have P413 : Rg p e below (T411.setTop (mkF m 158 #[sR a1, sR l1, sI 0, sR f0, sI 3, sR b343, sR b348, sI 2, sI 2] [])) B0 := fun t k => P403 t (by
        refine XS.aload X401.here hx rfl (hb hby dp22_1_144) rfl rfl ?_
        refine XS.iload X401.here hx rfl (hb hby dp22_1_146) rfl ?_
        refine XT.dup2 X401.here hx rfl (hb hby dp22_1_148) rfl rfl rfl ?_
        show Sg p e below (T401.setTop (mkF m 149 #[sR a1, sR l1, sI 0, sR f0, sI 3, sR b343, sR b348, sI 2, sI 2] [(.int (2 : Int32)), (.ref b348), (.int (2 : Int32)), (.ref b348)])) _
        refine X401.laload hx (j := (2 : Int32)) (v := (.long (0 : Int64))) (by rw [e401]; exact Ar408.1) (State.isArrayOf_alike hZ.alike Ar408.2.1) Ar408.2.2 hin408 (H408.at hin408 rfl) (g := (mkF m 149 #[sR a1, sR l1, sI 0, sR f0, sI 3, sR b343, sR b348, sI 2, sI 2] [(.int (2 : Int32)), (.ref b348), (.int (2 : Int32)), (.ref b348)])) rfl rfl (hb hby dp22_1_149) _ ?_
        show Sg p e below (T401.setTop (mkF m 150 #[sR a1, sR l1, sI 0, sR f0, sI 3, sR b343, sR b348, sI 2, sI 2] [(.long (0 : Int64)), (.int (2 : Int32)), (.ref b348)])) _
        refine XS.lconst X401.here hx rfl (hb hby dp22_1_150) ?_
        refine XS.aloadN X401.here hx rfl (hb hby dp22_1_151) rfl rfl ?_
        refine XS.iload X401.here hx rfl (hb hby dp22_1_152) rfl ?_
        show Sg p e below (T401.setTop (mkF m 154 #[sR a1, sR l1, sI 0, sR f0, sI 3, sR b343, sR b348, sI 2, sI 2] [(.int (2 : Int32)), (.ref f0), (.long (1 : Int64)), (.long (0 : Int64)), (.int (2 : Int32)), (.ref b348)])) _
        refine X401.iaload hx (j := (2 : Int32)) (v := (.int x02)) (by rw [e401]; exact Ar410.1) (State.isArrayOf_alike hZ.alike Ar410.2.1) Ar410.2.2 hin410 (H410.at hin410 rfl) (g := (mkF m 154 #[sR a1, sR l1, sI 0, sR f0, sI 3, sR b343, sR b348, sI 2, sI 2] [(.int (2 : Int32)), (.ref f0), (.long (1 : Int64)), (.long (0 : Int64)), (.int (2 : Int32)), (.ref b348)])) rfl rfl (hb hby dp22_1_154) _ ?_
        show Sg p e below (T401.setTop (mkF m 155 #[sR a1, sR l1, sI 0, sR f0, sI 3, sR b343, sR b348, sI 2, sI 2] [(.int x02), (.long (1 : Int64)), (.long (0 : Int64)), (.int (2 : Int32)), (.ref b348)])) _
        refine XS.lshl X401.here hx rfl (hb hby dp22_1_155) rfl ?_
        refine XS.lor X401.here hx rfl (hb hby dp22_1_156) rfl ?_
        show Sg p e below (T401.setTop (mkF m 157 #[sR a1, sR l1, sI 0, sR f0, sI 3, sR b343, sR b348, sI 2, sI 2] [(.long ((0 : Int64) ||| ((1 : Int64) <<< (x02 &&& 0x3f).toInt64))), (.int (2 : Int32)), (.ref b348)])) _
        exact st411 _ k)
      have N414 := Fr.snoc X411 N404 g_b348
      have Z415 : n0 ≤ h411.size := Nat.le_trans Z405 (Keep.of_wr W411).1
      have K416 : Keep h0 h411 [a1] := K406.wr W411 (Or.inr sz_b348)
      have f417 := (f409.other W411 (Nat.ne_of_lt (Nat.lt_of_lt_of_le (f35.ext E343).lt (Nat.le_of_eq g348.symm))))
      obtain ⟨cl418, Ar418, -, S418, N418, -, -⟩ := id f417
      have f419 := ((((((((((f13.ext E19).other W26 (Or.inr (slot_ne (Or.inr (own_hw hw 20 rfl)) (Or.inr (own_hw hw 24 rfl)) (by decide) (t := (.array (.array .int))) (t' := (.array (.array .long))) (by decide) (by decide)))).ext E343).ext E348).other W357 (Or.inl (Nat.ne_of_lt (Nat.lt_of_lt_of_le f28.lt (Nat.le_of_eq g343.symm))))).other W367 (Or.inl (Nat.ne_of_lt (Nat.lt_of_lt_of_le (f28.ext E343).lt (Nat.le_of_eq g348.symm))))).other W379 (Or.inl (Nat.ne_of_lt (Nat.lt_of_lt_of_le f28.lt (Nat.le_of_eq g343.symm))))).other W389 (Or.inl (Nat.ne_of_lt (Nat.lt_of_lt_of_le (f28.ext E343).lt (Nat.le_of_eq g348.symm))))).other W401 (Or.inl (Nat.ne_of_lt (Nat.lt_of_lt_of_le f28.lt (Nat.le_of_eq g343.symm))))).other W411 (Or.inl (Nat.ne_of_lt (Nat.lt_of_lt_of_le (f28.ext E343).lt (Nat.le_of_eq g348.symm)))))
      obtain ⟨T420, X420, e420, st420⟩ := getF X411 hx hZ hown (host := "") (Or.inl (own_hw hw 19 rfl)) Via.refl e411 f419 (g := (mkF m 165 #[sR a1, sR l1, sI 0, sR f0, sI 3, sR b343, sR b348, sI 2, sI 3] [(.ref a1)])) rfl rfl (hb hby dp22_1_165)
      have P421 : Rg p e below (T420.setTop (mkF m 168 #[sR a1, sR l1, sI 0, sR f0, sI 3, sR b343, sR b348, sI 2, sI 3] [(.ref b4)])) B0 := fun t k => P413 t (by
        refine XS.iinc X411.here hx rfl (hb hby dp22_1_158) rfl (l' := #[sR a1, sR l1, sI 0, sR f0, sI 3, sR b343, sR b348, sI 2, sI 3]) rfl ?_
        refine XS.goto X411.here hx rfl (pc0 := 161) (pc' := 98) rfl (hb hby dp22_1_161) (by decide) (by decide) ?_
        refine XS.iload X411.here hx rfl (hb hby dp22_1_98) rfl ?_
        refine XS.aloadN X411.here hx rfl (hb hby dp22_1_100) rfl rfl ?_
        show Sg p e below (T411.setTop (mkF m 101 #[sR a1, sR l1, sI 0, sR f0, sI 3, sR b343, sR b348, sI 2, sI 3] [(.ref f0), (.int (3 : Int32))])) _
        refine X411.arraylength hx (by rw [e411]; exact Ar418.1) (State.isArrayOf_alike hZ.alike Ar418.2.1) (g := (mkF m 101 #[sR a1, sR l1, sI 0, sR f0, sI 3, sR b343, sR b348, sI 2, sI 3] [(.ref f0), (.int (3 : Int32))])) rfl rfl (hb hby dp22_1_101) _ ?_
        rw [len_of S418 N418]
        show Sg p e below (T411.setTop (mkF m 102 #[sR a1, sR l1, sI 0, sR f0, sI 3, sR b343, sR b348, sI 2, sI 3] [(.int (3 : Int32)), (.int (3 : Int32))])) _
        refine XS.icmpYes X411.here hx rfl (pc0 := 102) (pc' := 164) rfl (hb hby dp22_1_102) rfl (flt (show ¬ ((3 : Int32) < (3 : Int32)) from (by decide))).2.1 (by decide) (by decide) ?_
        refine XS.aloadN X411.here hx rfl (hb hby dp22_1_164) rfl rfl ?_
        show Sg p e below (T411.setTop (mkF m 165 #[sR a1, sR l1, sI 0, sR f0, sI 3, sR b343, sR b348, sI 2, sI 3] [(.ref a1)])) _
        exact st420 _ k)
      have f422 := (((((((((((v8.other W11 (Ne.symm (Nat.ne_of_lt (Nat.lt_of_lt_of_le Fw.lt (Nat.le_of_eq g4.symm))))).ext E19).other W26 (Ne.symm (Nat.ne_of_lt (Nat.lt_of_lt_of_le Fw.lt (Nat.le_of_eq g4.symm))))).ext E343).ext E348).other W357 (Nat.ne_of_lt (Nat.lt_of_lt_of_le (((v8.other W11 (Ne.symm (Nat.ne_of_lt (Nat.lt_of_lt_of_le Fw.lt (Nat.le_of_eq g4.symm))))).ext E19).other W26 (Ne.symm (Nat.ne_of_lt (Nat.lt_of_lt_of_le Fw.lt (Nat.le_of_eq g4.symm))))).lt (Nat.le_of_eq g343.symm)))).other W367 (Nat.ne_of_lt (Nat.lt_of_lt_of_le ((((v8.other W11 (Ne.symm (Nat.ne_of_lt (Nat.lt_of_lt_of_le Fw.lt (Nat.le_of_eq g4.symm))))).ext E19).other W26 (Ne.symm (Nat.ne_of_lt (Nat.lt_of_lt_of_le Fw.lt (Nat.le_of_eq g4.symm))))).ext E343).lt (Nat.le_of_eq g348.symm)))).other W379 (Nat.ne_of_lt (Nat.lt_of_lt_of_le (((v8.other W11 (Ne.symm (Nat.ne_of_lt (Nat.lt_of_lt_of_le Fw.lt (Nat.le_of_eq g4.symm))))).ext E19).other W26 (Ne.symm (Nat.ne_of_lt (Nat.lt_of_lt_of_le Fw.lt (Nat.le_of_eq g4.symm))))).lt (Nat.le_of_eq g343.symm)))).other W389 (Nat.ne_of_lt (Nat.lt_of_lt_of_le ((((v8.other W11 (Ne.symm (Nat.ne_of_lt (Nat.lt_of_lt_of_le Fw.lt (Nat.le_of_eq g4.symm))))).ext E19).other W26 (Ne.symm (Nat.ne_of_lt (Nat.lt_of_lt_of_le Fw.lt (Nat.le_of_eq g4.symm))))).ext E343).lt (Nat.le_of_eq g348.symm)))).other W401 (Nat.ne_of_lt (Nat.lt_of_lt_of_le (((v8.other W11 (Ne.symm (Nat.ne_of_lt (Nat.lt_of_lt_of_le Fw.lt (Nat.le_of_eq g4.symm))))).ext E19).other W26 (Ne.symm (Nat.ne_of_lt (Nat.lt_of_lt_of_le Fw.lt (Nat.le_of_eq g4.symm))))).lt (Nat.le_of_eq g343.symm)))).other W411 (Nat.ne_of_lt (Nat.lt_of_lt_of_le ((((v8.other W11 (Ne.symm (Nat.ne_of_lt (Nat.lt_of_lt_of_le Fw.lt (Nat.le_of_eq g4.symm))))).ext E19).other W26 (Ne.symm (Nat.ne_of_lt (Nat.lt_of_lt_of_le Fw.lt (Nat.le_of_eq g4.symm))))).ext E343).lt (Nat.le_of_eq g348.symm))))
      have f424 := (((((((B343.ext E348).wr W357).wr W367).wr W379).wr W389).wr W401).wr W411)
      obtain ⟨cl423, Ar423, q423, S423, N423, H423, G423⟩ := id f422
      obtain ⟨T423, h423, X423, e423, W423, st423⟩ := stR X420 hx hZ e420 Ar423 (j := (0 : Int32)) (inb_of S423 ⟨by decide, by decide⟩) rfl (Sto.ofVA Ar423 q423 O4 (Ins.self f424)) (g := (mkF m 171 #[sR a1, sR l1, sI 0, sR f0, sI 3, sR b343, sR b348, sI 2, sI 3] [(.ref b343), (.int (0 : Int32)), (.ref b4)])) rfl rfl (hb hby dp22_1_171)
      have v425 : Arv Z h423 b4 k4 (.array .int) (1 : Int32) [(.ref b343)] .null := Arv.set Ar423 q423 S423 N423 H423 G423 rfl W423 0 rfl (Nat.le_of_ble_eq_true rfl)
      have P426 : Rg p e below (T423.setTop (mkF m 172 #[sR a1, sR l1, sI 0, sR f0, sI 3, sR b343, sR b348, sI 2, sI 3] [])) B0 := fun t k => P421 t (by
        refine XS.iloadN X420.here hx rfl (hb hby dp22_1_168) rfl ?_
        refine XS.aload X420.here hx rfl (hb hby dp22_1_169) rfl rfl ?_
        show Sg p e below (T420.setTop (mkF m 171 #[sR a1, sR l1, sI 0, sR f0, sI 3, sR b343, sR b348, sI 2, sI 3] [(.ref b343), (.int (0 : Int32)), (.ref b4)])) _
        exact st423 _ k)
      have N427 := Fr.snoc X423 N414 g_b4
      have Z428 : n0 ≤ h423.size := Nat.le_trans Z415 (Keep.of_wr W423).1
      have K429 : Keep h0 h423 [a1] := K416.wr W423 (Or.inr sz_b4)
      have f430 := (((((((((f28.ext E343).ext E348).other W357 (Or.inl (Nat.ne_of_lt (Nat.lt_of_lt_of_le f28.lt (Nat.le_of_eq g343.symm))))).other W367 (Or.inl (Nat.ne_of_lt (Nat.lt_of_lt_of_le (f28.ext E343).lt (Nat.le_of_eq g348.symm))))).other W379 (Or.inl (Nat.ne_of_lt (Nat.lt_of_lt_of_le f28.lt (Nat.le_of_eq g343.symm))))).other W389 (Or.inl (Nat.ne_of_lt (Nat.lt_of_lt_of_le (f28.ext E343).lt (Nat.le_of_eq g348.symm))))).other W401 (Or.inl (Nat.ne_of_lt (Nat.lt_of_lt_of_le f28.lt (Nat.le_of_eq g343.symm))))).other W411 (Or.inl (Nat.ne_of_lt (Nat.lt_of_lt_of_le (f28.ext E343).lt (Nat.le_of_eq g348.symm))))).other W423 (Or.inl (Nat.ne_of_lt (Nat.lt_of_lt_of_le Fw.lt (Nat.le_of_eq g4.symm)))))
      obtain ⟨T431, X431, e431, st431⟩ := getF X423 hx hZ hown (host := "") (Or.inl (own_hw hw 23 rfl)) Via.refl e423 f430 (g := (mkF m 173 #[sR a1, sR l1, sI 0, sR f0, sI 3, sR b343, sR b348, sI 2, sI 3] [(.ref a1)])) rfl rfl (hb hby dp22_1_173)
      have P432 : Rg p e below (T431.setTop (mkF m 176 #[sR a1, sR l1, sI 0, sR f0, sI 3, sR b343, sR b348, sI 2, sI 3] [(.ref b19)])) B0 := fun t k => P426 t (by
        refine XS.aloadN X423.here hx rfl (hb hby dp22_1_172) rfl rfl ?_
        show Sg p e below (T423.setTop (mkF m 173 #[sR a1, sR l1, sI 0, sR f0, sI 3, sR b343, sR b348, sI 2, sI 3] [(.ref a1)])) _
        exact st431 _ k)
      have f433 := ((((((((((v23.other W26 (Ne.symm (Nat.ne_of_lt (Nat.lt_of_lt_of_le f13.lt (Nat.le_of_eq g19.symm))))).ext E343).ext E348).other W357 (Nat.ne_of_lt (Nat.lt_of_lt_of_le (v23.other W26 (Ne.symm (Nat.ne_of_lt (Nat.lt_of_lt_of_le f13.lt (Nat.le_of_eq g19.symm))))).lt (Nat.le_of_eq g343.symm)))).other W367 (Nat.ne_of_lt (Nat.lt_of_lt_of_le ((v23.other W26 (Ne.symm (Nat.ne_of_lt (Nat.lt_of_lt_of_le f13.lt (Nat.le_of_eq g19.symm))))).ext E343).lt (Nat.le_of_eq g348.symm)))).other W379 (Nat.ne_of_lt (Nat.lt_of_lt_of_le (v23.other W26 (Ne.symm (Nat.ne_of_lt (Nat.lt_of_lt_of_le f13.lt (Nat.le_of_eq g19.symm))))).lt (Nat.le_of_eq g343.symm)))).other W389 (Nat.ne_of_lt (Nat.lt_of_lt_of_le ((v23.other W26 (Ne.symm (Nat.ne_of_lt (Nat.lt_of_lt_of_le f13.lt (Nat.le_of_eq g19.symm))))).ext E343).lt (Nat.le_of_eq g348.symm)))).other W401 (Nat.ne_of_lt (Nat.lt_of_lt_of_le (v23.other W26 (Ne.symm (Nat.ne_of_lt (Nat.lt_of_lt_of_le f13.lt (Nat.le_of_eq g19.symm))))).lt (Nat.le_of_eq g343.symm)))).other W411 (Nat.ne_of_lt (Nat.lt_of_lt_of_le ((v23.other W26 (Ne.symm (Nat.ne_of_lt (Nat.lt_of_lt_of_le f13.lt (Nat.le_of_eq g19.symm))))).ext E343).lt (Nat.le_of_eq g348.symm)))).other W423 (Ne.symm (Nat.ne_of_lt (Nat.lt_of_lt_of_le (v8.other W11 (Ne.symm (Nat.ne_of_lt (Nat.lt_of_lt_of_le Fw.lt (Nat.le_of_eq g4.symm))))).lt (Nat.le_of_eq g19.symm)))))
      have f435 := (((((((B348.wr W357).wr W367).wr W379).wr W389).wr W401).wr W411).wr W423)
      obtain ⟨cl434, Ar434, q434, S434, N434, H434, G434⟩ := id f433
      obtain ⟨T434, h434, X434, e434, W434, st434⟩ := stR X431 hx hZ e431 Ar434 (j := (0 : Int32)) (inb_of S434 ⟨by decide, by decide⟩) rfl (Sto.ofVA Ar434 q434 O19 (Ins.self f435)) (g := (mkF m 179 #[sR a1, sR l1, sI 0, sR f0, sI 3, sR b343, sR b348, sI 2, sI 3] [(.ref b348), (.int (0 : Int32)), (.ref b19)])) rfl rfl (hb hby dp22_1_179)
      have v436 : Arv Z h434 b19 k19 (.array .long) (1 : Int32) [(.ref b348)] .null := Arv.set Ar434 q434 S434 N434 H434 G434 rfl W434 0 rfl (Nat.le_of_ble_eq_true rfl)
      have P437 : Rg p e below (T434.setTop (mkF m 180 #[sR a1, sR l1, sI 0, sR f0, sI 3, sR b343, sR b348, sI 2, sI 3] [])) B0 := fun t k => P432 t (by
        refine XS.iloadN X431.here hx rfl (hb hby dp22_1_176) rfl ?_
        refine XS.aload X431.here hx rfl (hb hby dp22_1_177) rfl rfl ?_
        show Sg p e below (T431.setTop (mkF m 179 #[sR a1, sR l1, sI 0, sR f0, sI 3, sR b343, sR b348, sI 2, sI 3] [(.ref b348), (.int (0 : Int32)), (.ref b19)])) _
        exact st434 _ k)
      have N438 := Fr.snoc X434 N427 g_b19
      have Z439 : n0 ≤ h434.size := Nat.le_trans Z428 (Keep.of_wr W434).1
      have K440 : Keep h0 h434 [a1] := K429.wr W434 (Or.inr sz_b19)
      have f441 := ((((((((((f32.ext E343).ext E348).other W357 (Nat.ne_of_lt (Nat.lt_of_lt_of_le f32.lt (Nat.le_of_eq g343.symm)))).other W367 (Nat.ne_of_lt (Nat.lt_of_lt_of_le (f32.ext E343).lt (Nat.le_of_eq g348.symm)))).other W379 (Nat.ne_of_lt (Nat.lt_of_lt_of_le f32.lt (Nat.le_of_eq g343.symm)))).other W389 (Nat.ne_of_lt (Nat.lt_of_lt_of_le (f32.ext E343).lt (Nat.le_of_eq g348.symm)))).other W401 (Nat.ne_of_lt (Nat.lt_of_lt_of_le f32.lt (Nat.le_of_eq g343.symm)))).other W411 (Nat.ne_of_lt (Nat.lt_of_lt_of_le (f32.ext E343).lt (Nat.le_of_eq g348.symm)))).other W423 (Nat.ne_of_lt (Nat.lt_of_lt_of_le Al.lt (Nat.le_of_eq g4.symm)))).other W434 (Nat.ne_of_lt (Nat.lt_of_lt_of_le f17.lt (Nat.le_of_eq g19.symm))))
      obtain ⟨cl442, Ar442, -, S442, N442, -, -⟩ := id f441
      have f443 := (((v402.other W411 (Nat.ne_of_lt (Nat.lt_of_lt_of_le B343.lt (Nat.le_of_eq g348.symm)))).other W423 (Ne.symm (Nat.ne_of_lt (Nat.lt_of_lt_of_le (((v8.other W11 (Ne.symm (Nat.ne_of_lt (Nat.lt_of_lt_of_le Fw.lt (Nat.le_of_eq g4.symm))))).ext E19).other W26 (Ne.symm (Nat.ne_of_lt (Nat.lt_of_lt_of_le Fw.lt (Nat.le_of_eq g4.symm))))).lt (Nat.le_of_eq g343.symm))))).other W434 (Ne.symm (Nat.ne_of_lt (Nat.lt_of_lt_of_le (v23.other W26 (Ne.symm (Nat.ne_of_lt (Nat.lt_of_lt_of_le f13.lt (Nat.le_of_eq g19.symm))))).lt (Nat.le_of_eq g343.symm)))))
      have f444 := ((v412.other W423 (Ne.symm (Nat.ne_of_lt (Nat.lt_of_lt_of_le ((((v8.other W11 (Ne.symm (Nat.ne_of_lt (Nat.lt_of_lt_of_le Fw.lt (Nat.le_of_eq g4.symm))))).ext E19).other W26 (Ne.symm (Nat.ne_of_lt (Nat.lt_of_lt_of_le Fw.lt (Nat.le_of_eq g4.symm))))).ext E343).lt (Nat.le_of_eq g348.symm))))).other W434 (Ne.symm (Nat.ne_of_lt (Nat.lt_of_lt_of_le ((v23.other W26 (Ne.symm (Nat.ne_of_lt (Nat.lt_of_lt_of_le f13.lt (Nat.le_of_eq g19.symm))))).ext E343).lt (Nat.le_of_eq g348.symm)))))
      have f445 := ((f424.wr W423).wr W434)
      have f446 := (f435.wr W434)
      have f447 := (((((((((((f25.wr W26).ext E343).ext E348).wr W357).wr W367).wr W379).wr W389).wr W401).wr W411).wr W423).wr W434)
      have f448 := ((f419.other W423 (Or.inl (Nat.ne_of_lt (Nat.lt_of_lt_of_le Fw.lt (Nat.le_of_eq g4.symm))))).other W434 (Or.inl (Nat.ne_of_lt (Nat.lt_of_lt_of_le f13.lt (Nat.le_of_eq g19.symm)))))
      have f449 := (f430.other W434 (Or.inl (Nat.ne_of_lt (Nat.lt_of_lt_of_le f13.lt (Nat.le_of_eq g19.symm)))))
      have f450 := (v425.other W434 (Nat.ne_of_lt (Nat.lt_of_lt_of_le (v8.other W11 (Ne.symm (Nat.ne_of_lt (Nat.lt_of_lt_of_le Fw.lt (Nat.le_of_eq g4.symm))))).lt (Nat.le_of_eq g19.symm))))
      obtain ⟨fs451, hr451, hrun451, hended451, hW451, hsame451⟩ := X434.leave (v := none) (fun _ => rfl)
      refine ⟨_, _, pre0 _ (P437 _ ?_), hrun451, hended451, _, _, rfl, ?_, ⟨⟨_, rfl⟩, hW451, hsame451.mono (Nat.le_of_ble_eq_true rfl) (Nat.le_of_ble_eq_true rfl)⟩⟩
      · show Sg p e below (T434.setTop (mkF m 180 #[sR a1, sR l1, sI 0, sR f0, sI 3, sR b343, sR b348, sI 2, sI 3] [])) _
        refine XS.iinc X434.here hx rfl (hb hby dp22_1_180) rfl (l' := #[sR a1, sR l1, sI 1, sR f0, sI 3, sR b343, sR b348, sI 2, sI 3]) rfl ?_
        refine XS.goto X434.here hx rfl (pc0 := 183) (pc' := 24) rfl (hb hby dp22_1_183) (by decide) (by decide) ?_
        refine XS.iloadN X434.here hx rfl (hb hby dp22_1_24) rfl ?_
        refine XS.aloadN X434.here hx rfl (hb hby dp22_1_25) rfl rfl ?_
        show Sg p e below (T434.setTop (mkF m 26 #[sR a1, sR l1, sI 1, sR f0, sI 3, sR b343, sR b348, sI 2, sI 3] [(.ref l1), (.int (1 : Int32))])) _
        refine X434.arraylength hx (by rw [e434]; exact Ar442.1) (State.isArrayOf_alike hZ.alike Ar442.2.1) (g := (mkF m 26 #[sR a1, sR l1, sI 1, sR f0, sI 3, sR b343, sR b348, sI 2, sI 3] [(.ref l1), (.int (1 : Int32))])) rfl rfl (hb hby dp22_1_26) _ ?_
        rw [len_of S442 N442]
        show Sg p e below (T434.setTop (mkF m 27 #[sR a1, sR l1, sI 1, sR f0, sI 3, sR b343, sR b348, sI 2, sI 3] [(.int (1 : Int32)), (.int (1 : Int32))])) _
        refine XS.icmpYes X434.here hx rfl (pc0 := 27) (pc' := 186) rfl (hb hby dp22_1_27) rfl (flt (show ¬ ((1 : Int32) < (1 : Int32)) from (by decide))).2.1 (by decide) (by decide) ?_
        show Sg p e below (T434.setTop (mkF m 186 #[sR a1, sR l1, sI 1, sR f0, sI 3, sR b343, sR b348, sI 2, sI 3] [])) _
        exact X434.returnOut hx Bd.returns (hb hby dp22_1_186) hr451
      · show Q_wsInit Z a1 x00 x01 x02 h0 n0 _ T434.heap _
        rw [e434]
        exact ⟨rfl, N438, K440, f447, b4, b19, _, _, b343, b348, f448, f449, f450, v436, sz_b4, sz_b19, ⟨_, _, ([((x00.toUInt32 >>> ((6 : Int32) &&& 31).toUInt32).toInt32), ((x01.toUInt32 >>> ((6 : Int32) &&& 31).toUInt32).toInt32), ((x02.toUInt32 >>> ((6 : Int32) &&& 31).toUInt32).toInt32)] : List Int32), ([((0 : Int64) ||| ((1 : Int64) <<< (x00 &&& 0x3f).toInt64)), ((0 : Int64) ||| ((1 : Int64) <<< (x01 &&& 0x3f).toInt64)), ((0 : Int64) ||| ((1 : Int64) <<< (x02 &&& 0x3f).toInt64))] : List Int64), (3 : Int32), ((if_neg q41).trans ((if_neg q241))).symm, ((if_neg q41).trans ((if_neg q241))).symm, rfl, f443, f444, f445, f446, sz_b343, sz_b348⟩⟩
theorem dp23_1_0 : decode prog_23_method_1_code 0 = .ok (.aload_n 0, 1) := by decide +kernel
theorem dp23_1_1 : decode prog_23_method_1_code 1 = .ok (.invokespecial 1, 3) := by decide +kernel
theorem dp23_1_4 : decode prog_23_method_1_code 4 = .ok (.aload_n 0, 1) := by decide +kernel
theorem dp23_1_5 : decode prog_23_method_1_code 5 = .ok (.iconst 0, 1) := by decide +kernel
theorem dp23_1_6 : decode prog_23_method_1_code 6 = .ok (.newarray .int, 2) := by decide +kernel
theorem dp23_1_8 : decode prog_23_method_1_code 8 = .ok (.putfield 7, 3) := by decide +kernel
theorem dp23_1_11 : decode prog_23_method_1_code 11 = .ok (.aload_n 0, 1) := by decide +kernel
theorem dp23_1_12 : decode prog_23_method_1_code 12 = .ok (.iconst 0, 1) := by decide +kernel
theorem dp23_1_13 : decode prog_23_method_1_code 13 = .ok (.newarray .long, 2) := by decide +kernel
theorem dp23_1_15 : decode prog_23_method_1_code 15 = .ok (.putfield 13, 3) := by decide +kernel
theorem dp23_1_18 : decode prog_23_method_1_code 18 = .ok (.return_, 1) := by decide +kernel
theorem pn_com_example_whittle_whittle_engine_WordSets_Meet : plainName "com/example/whittle/whittle/engine/WordSets$Meet" = true := by first | (simp [plainName, overriddenIn]; done) | decide +kernel
theorem ef_meInit (m : MethodId) (x0 : Addr) : entryFrame m #[(.ref x0)] 1 = mkF m 0 #[sR x0] [] := by (first | (simp [entryFrame, mkF, argsToLocals, Value.category]; done) | rfl)
def Q_meInit (Z : State) (a1 : Addr) (h0 : Heap) (n0 : Nat) (v : Option Value) (h : Heap) (L : List Loc) : Prop := v = none ∧ Fr n0 L ∧ Keep h0 h [a1] ∧ Exa Z h a1 sM ∧ Fld Z h a1 sM "count" "I" (.int (0 : Int32)) ∧ ∃ (P W : Addr) (k k2 : ClassId), Fld Z h a1 sM "places" "[I" (.ref P) ∧ Fld Z h a1 sM "words" "[J" (.ref W) ∧ Arv Z h P k .int (0 : Int32) ([] : List Value) (.int (0 : Int32)) ∧ Arv Z h W k2 .long (0 : Int32) ([] : List Value) (.long (0 : Int64)) ∧ Exa Z h P "[I" ∧ Exa Z h W "[J" ∧ h0.size ≤ P ∧ h0.size ≤ W
set_option maxRecDepth 65536 in
set_option maxHeartbeats 40000000 in
theorem rm_meInit (l : Launch) (Z : State) (a0 : Array Value) (hw : ∀ d ∈ tables_1, d.before a0 Z = true) (ws : List Jvm.Cond) (a1 : Addr) (h0 : Heap) (n0 : Nat) (Z0 : n0 ≤ h0.size) (g_a1 : n0 ≤ a1) (E1 : Exa Z h0 a1 sM) (Fp : Fld Z h0 a1 sM "places" "[I" .null) (Fw : Fld Z h0 a1 sM "words" "[J" .null) (Fc : Fld Z h0 a1 sM "count" "I" (.int (0 : Int32))) :
    MetFree l (⟨"com/example/whittle/whittle/engine/WordSets$Meet", "<init>", "()V"⟩ : MethodName) (head1 (Jvm.Cond.code (⟨"com/example/whittle/whittle/engine/WordSets$Meet", "<init>", "()V"⟩ : MethodName) prog_23_method_1_code 1 none :: ws) ({ frames := 1, cells := 2, slots := 0, locals := 12 } : Room)) (fun a U => a = #[(.ref a1)] ∧ Z.Warmed39 U.vm ∧ U.heap = h0) (fun _ _ _ _ _ => True) (fun _ U o U' => ∃ v L, o = .returned v ∧ Q_meInit Z a1 h0 n0 v U'.heap L ∧ FrameEnd U o U' L ({ frames := 1, cells := 2, slots := 0, locals := 12 } : Room).cells ({ frames := 1, cells := 2, slots := 0, locals := 12 } : Room).slots) := by
  refine MetFree.of_bodySF (plainFor_of_name pn_com_example_whittle_whittle_engine_WordSets_Meet) hisR ?_
  intro p e s m args below meth c s₁ Bd hml0 hP hK
  obtain ⟨rfl, hZ, hh⟩ := hP
  have hx := Bd.exec
  have hby := Bd.bytes
  have hml : c.maxLocals = 1 := hml0
  have hown : s.vm.findClass "com/example/whittle/whittle/engine/WordSets$Meet" = some m.cls := findClass_of_methodNamed Bd.named
  have hnm := (name_of_methodNamed Bd.named Bd.method).1
  have X0 : Stand p l e ({ frames := 1, cells := 2, slots := 0, locals := 12 } : Room) s m #[(.ref a1)] below meth c s₁ [] 0 0 := Stand.of_body Bd
  have e0 : s₁.heap = h0 := by rw [← hh, Bd.state]; rfl
  have N0 := Fr.nil n0
  have pre0 : ∀ t, Sg p e below (s₁.setTop (mkF m 0 #[sR a1] [])) t → Steps p.tables e below (s₁.setTop (entryFrame m #[(.ref a1)] 1)) t := fun t k => castTop (ef_meInit m a1) k
  have P0 : ∀ t, Sg p e below (s₁.setTop (mkF m 0 #[sR a1] [])) t → Sg p e below (s₁.setTop (mkF m 0 #[sR a1] [])) t := fun t k => k
  obtain ⟨B0, pre0, P0⟩ : ∃ B : State, (∀ t, Steps p.tables e below B t → Steps p.tables e below (s₁.setTop (entryFrame m #[(.ref a1)] 1)) t) ∧ Rg p e below (s₁.setTop (mkF m 0 #[sR a1] [])) B := ⟨_, pre0, P0⟩
  obtain ⟨T452, X452, e452, st452⟩ := initO X0 hx hZ hown (own_hw hw 33 rfl) (own_hw hw 16 rfl) (own_hw hw 17 rfl) e0 (g := (mkF m 1 #[sR a1] [(.ref a1)])) rfl (by rw [hml]; rfl) rfl (hb hby dp23_1_1) (by decide) (W := 0) (by show 2 * 0 + _ ≤ _; exact Nat.le_of_eq rfl) (by decide)
  have P453 : Rg p e below (T452.setTop (mkF m 4 #[sR a1] [])) B0 := fun t k => P0 t (by
    refine XS.aloadN X0.here hx rfl (hb hby dp23_1_0) rfl rfl ?_
    show Sg p e below (s₁.setTop (mkF m 1 #[sR a1] [(.ref a1)])) _
    exact st452 _ k)
  obtain ⟨T454, h454, k454, X454, e454, E454, A454, B454, st454⟩ := newPE X452 hx hZ (own_hw hw 7 rfl) e452 (g := (mkF m 6 #[sR a1] [(.int (0 : Int32)), (.ref a1)])) rfl (hb hby dp23_1_6) rfl (by decide) (cap := 0) (by decide) (by decide) (by decide) (by decide) (ad := "[I") (by decide)
  obtain ⟨b454, g454⟩ : ∃ z, z = h0.size := ⟨_, rfl⟩
  rw [← g454] at A454 B454 st454
  have g_b454 : n0 ≤ b454 := Nat.le_trans Z0 (Nat.le_of_eq g454.symm)
  have sz_b454 : h0.size ≤ b454 := Nat.le_trans (Keep.refl h0 [a1]).1 (Nat.le_of_eq g454.symm)
  have P455 : Rg p e below (T454.setTop (mkF m 8 #[sR a1] [(.ref b454), (.ref a1)])) B0 := fun t k => P453 t (by
    refine XS.aloadN X452.here hx rfl (hb hby dp23_1_4) rfl rfl ?_
    refine XS.iconst X452.here hx rfl (hb hby dp23_1_5) ?_
    show Sg p e below (T452.setTop (mkF m 6 #[sR a1] [(.int (0 : Int32)), (.ref a1)])) _
    exact st454 _ k)
  have Z456 : n0 ≤ h454.size := Nat.le_trans Z0 E454.1
  have K457 : Keep h0 h454 [a1] := (Keep.refl h0 [a1]).ext E454
  have v458 : Arv Z h454 b454 k454 .int (0 : Int32) ([] : List Value) (.int (0 : Int32)) := Arv.new A454 (by decide)
  have f459 := (Fp.ext E454)
  have f460 := (E1.ext E454)
  obtain ⟨T461, h461, X461, e461, W461, st461⟩ := putF X454 hx hZ hown (host := "") (Or.inl (own_hw hw 34 rfl)) Via.refl e454 f459 f460 (Or.inl (own_hw hw 35 rfl)) (own_hw hw 28 rfl) (ty := (.array .int)) (by decide) rfl rfl (g := (mkF m 8 #[sR a1] [(.ref b454), (.ref a1)])) rfl rfl (hb hby dp23_1_8)
  have P462 : Rg p e below (T461.setTop (mkF m 11 #[sR a1] [])) B0 := fun t k => P455 t (by
    exact st461 _ k)
  have f463 := f459.same W461
  have N464 := Fr.snoc X461 N0 g_a1
  have Z465 : n0 ≤ h461.size := Nat.le_trans Z456 (Keep.of_wr W461).1
  have K466 : Keep h0 h461 [a1] := K457.wr W461 (Or.inl (List.mem_of_getElem? (i := 0) rfl))
  obtain ⟨T467, h467, k467, X467, e467, E467, A467, B467, st467⟩ := newPE X461 hx hZ (own_hw hw 25 rfl) e461 (g := (mkF m 13 #[sR a1] [(.int (0 : Int32)), (.ref a1)])) rfl (hb hby dp23_1_13) rfl (by decide) (cap := 0) (by decide) (by decide) (by decide) (by decide) (ad := "[J") (by decide)
  obtain ⟨b467, g467⟩ : ∃ z, z = h461.size := ⟨_, rfl⟩
  rw [← g467] at A467 B467 st467
  have g_b467 : n0 ≤ b467 := Nat.le_trans Z465 (Nat.le_of_eq g467.symm)
  have sz_b467 : h0.size ≤ b467 := Nat.le_trans K466.1 (Nat.le_of_eq g467.symm)
  have P468 : Rg p e below (T467.setTop (mkF m 15 #[sR a1] [(.ref b467), (.ref a1)])) B0 := fun t k => P462 t (by
    refine XS.aloadN X461.here hx rfl (hb hby dp23_1_11) rfl rfl ?_
    refine XS.iconst X461.here hx rfl (hb hby dp23_1_12) ?_
    show Sg p e below (T461.setTop (mkF m 13 #[sR a1] [(.int (0 : Int32)), (.ref a1)])) _
    exact st467 _ k)
  have Z469 : n0 ≤ h467.size := Nat.le_trans Z465 E467.1
  have K470 : Keep h0 h467 [a1] := K466.ext E467
  have v471 : Arv Z h467 b467 k467 .long (0 : Int32) ([] : List Value) (.long (0 : Int64)) := Arv.new A467 (by decide)
  have f472 := (((Fw.ext E454).other W461 (Or.inr (slot_ne (Or.inl (own_hw hw 37 rfl)) (Or.inl (own_hw hw 35 rfl)) (by decide) (t := (.array .long)) (t' := (.array .int)) (by decide) (by decide)))).ext E467)
  have f473 := ((f460.wr W461).ext E467)
  obtain ⟨T474, h474, X474, e474, W474, st474⟩ := putF X467 hx hZ hown (host := "") (Or.inl (own_hw hw 36 rfl)) Via.refl e467 f472 f473 (Or.inl (own_hw hw 37 rfl)) (own_hw hw 28 rfl) (ty := (.array .long)) (by decide) rfl rfl (g := (mkF m 15 #[sR a1] [(.ref b467), (.ref a1)])) rfl rfl (hb hby dp23_1_15)
  have P475 : Rg p e below (T474.setTop (mkF m 18 #[sR a1] [])) B0 := fun t k => P468 t (by
    exact st474 _ k)
  have f476 := f472.same W474
  have N477 := Fr.snoc X474 N464 g_a1
  have Z478 : n0 ≤ h474.size := Nat.le_trans Z469 (Keep.of_wr W474).1
  have K479 : Keep h0 h474 [a1] := K470.wr W474 (Or.inl (List.mem_of_getElem? (i := 0) rfl))
  have f480 := (f473.wr W474)
  have f481 := ((((Fc.ext E454).other W461 (Or.inr (slot_ne (Or.inl (own_hw hw 46 rfl)) (Or.inl (own_hw hw 35 rfl)) (by decide) (t := .int) (t' := (.array .int)) (by decide) (by decide)))).ext E467).other W474 (Or.inr (slot_ne (Or.inl (own_hw hw 46 rfl)) (Or.inl (own_hw hw 37 rfl)) (by decide) (t := .int) (t' := (.array .long)) (by decide) (by decide))))
  have f482 := ((f463.ext E467).other W474 (Or.inr (slot_ne (Or.inl (own_hw hw 35 rfl)) (Or.inl (own_hw hw 37 rfl)) (by decide) (t := (.array .int)) (t' := (.array .long)) (by decide) (by decide))))
  have f483 := (((v458.other W461 (Ne.symm (Nat.ne_of_lt (Nat.lt_of_lt_of_le Fc.lt (Nat.le_of_eq g454.symm))))).ext E467).other W474 (Ne.symm (Nat.ne_of_lt (Nat.lt_of_lt_of_le Fc.lt (Nat.le_of_eq g454.symm)))))
  have f484 := (v471.other W474 (Ne.symm (Nat.ne_of_lt (Nat.lt_of_lt_of_le f463.lt (Nat.le_of_eq g467.symm)))))
  have f485 := (((B454.wr W461).ext E467).wr W474)
  have f486 := (B467.wr W474)
  obtain ⟨fs487, hr487, hrun487, hended487, hW487, hsame487⟩ := X474.leave (v := none) (fun _ => rfl)
  refine ⟨_, _, pre0 _ (P475 _ ?_), hrun487, hended487, _, _, rfl, ?_, ⟨⟨_, rfl⟩, hW487, hsame487.mono (Nat.le_of_ble_eq_true rfl) (Nat.le_of_ble_eq_true rfl)⟩⟩
  · show Sg p e below (T474.setTop (mkF m 18 #[sR a1] [])) _
    exact X474.returnOut hx Bd.returns (hb hby dp23_1_18) hr487
  · show Q_meInit Z a1 h0 n0 _ T474.heap _
    rw [e474]
    exact ⟨rfl, N477, K479, f480, f481, b454, b467, _, _, f482, f476, f483, f484, f485, f486, sz_b454, sz_b467⟩
theorem dj65_30_0 : decode jdk_65_method_30_code 0 = .ok (.iload_n 1, 1) := by decide +kernel
theorem dj65_30_1 : decode jdk_65_method_30_code 1 = .ok (.iload_n 2, 1) := by decide +kernel
theorem dj65_30_2 : decode jdk_65_method_30_code 2 = .ok (.if_icmp .le 44, 3) := by decide +kernel
theorem dj65_30_46 : decode jdk_65_method_30_code 46 = .ok (.iload_n 1, 1) := by decide +kernel
theorem dj65_30_47 : decode jdk_65_method_30_code 47 = .ok (.ifCond .ge 12, 3) := by decide +kernel
theorem dj65_30_59 : decode jdk_65_method_30_code 59 = .ok (.iload_n 2, 1) := by decide +kernel
theorem dj65_30_60 : decode jdk_65_method_30_code 60 = .ok (.iload_n 0, 1) := by decide +kernel
theorem dj65_30_61 : decode jdk_65_method_30_code 61 = .ok (.if_icmp .le 12, 3) := by decide +kernel
theorem dj65_30_73 : decode jdk_65_method_30_code 73 = .ok (.return_, 1) := by decide +kernel
theorem pn_java_util_Arrays : plainName "java/util/Arrays" = true := by first | (simp [plainName, overriddenIn]; done) | decide +kernel
theorem ef_rchk (m : MethodId) (x0 : Int32) (x1 : Int32) (x2 : Int32) : entryFrame m #[(.int x0), (.int x1), (.int x2)] 3 = mkF m 0 #[sI x0, sI x1, sI x2] [] := by (first | (simp [entryFrame, mkF, argsToLocals, Value.category]; done) | rfl)
def Q_rchk  (h0 : Heap) (n0 : Nat) (v : Option Value) (h : Heap) (L : List Loc) : Prop := v = none ∧ Fr n0 L ∧ h = h0
set_option maxRecDepth 65536 in
set_option maxHeartbeats 40000000 in
theorem rm_rchk (l : Launch) (Z : State) (a0 : Array Value) (hw : ∀ d ∈ tables_1, d.before a0 Z = true) (ws : List Jvm.Cond) (p1 p3 : Int32) (h0 : Heap) (n0 : Nat) (Z0 : n0 ≤ h0.size) (h1 : ¬ p3 < (0 : Int32)) (h2 : ¬ p1 < p3) :
    MetFree l (⟨"java/util/Arrays", "rangeCheck", "(III)V"⟩ : MethodName) (head1 (Jvm.Cond.code (⟨"java/util/Arrays", "rangeCheck", "(III)V"⟩ : MethodName) jdk_65_method_30_code 3 none :: ws) ({ frames := 0, cells := 0, slots := 0, locals := 0 } : Room)) (fun a U => a = #[(.int p1), (.int (0 : Int32)), (.int p3)] ∧ Z.Warmed39 U.vm ∧ U.heap = h0) (fun _ _ _ _ _ => True) (fun _ U o U' => ∃ v L, o = .returned v ∧ Q_rchk  h0 n0 v U'.heap L ∧ FrameEnd U o U' L ({ frames := 0, cells := 0, slots := 0, locals := 0 } : Room).cells ({ frames := 0, cells := 0, slots := 0, locals := 0 } : Room).slots) := by
  refine MetFree.of_bodySF (plainFor_of_name pn_java_util_Arrays) hisR ?_
  intro p e s m args below meth c s₁ Bd hml0 hP hK
  obtain ⟨rfl, hZ, hh⟩ := hP
  have hx := Bd.exec
  have hby := Bd.bytes
  have hml : c.maxLocals = 3 := hml0
  have hown : s.vm.findClass "java/util/Arrays" = some m.cls := findClass_of_methodNamed Bd.named
  have hnm := (name_of_methodNamed Bd.named Bd.method).1
  have X0 : Stand p l e ({ frames := 0, cells := 0, slots := 0, locals := 0 } : Room) s m #[(.int p1), (.int (0 : Int32)), (.int p3)] below meth c s₁ [] 0 0 := Stand.of_body Bd
  have e0 : s₁.heap = h0 := by rw [← hh, Bd.state]; rfl
  have N0 := Fr.nil n0
  have pre0 : ∀ t, Sg p e below (s₁.setTop (mkF m 0 #[sI p1, sI 0, sI p3] [])) t → Steps p.tables e below (s₁.setTop (entryFrame m #[(.int p1), (.int (0 : Int32)), (.int p3)] 3)) t := fun t k => castTop (ef_rchk m p1 (0 : Int32) p3) k
  have P0 : ∀ t, Sg p e below (s₁.setTop (mkF m 0 #[sI p1, sI 0, sI p3] [])) t → Sg p e below (s₁.setTop (mkF m 0 #[sI p1, sI 0, sI p3] [])) t := fun t k => k
  obtain ⟨B0, pre0, P0⟩ : ∃ B : State, (∀ t, Steps p.tables e below B t → Steps p.tables e below (s₁.setTop (entryFrame m #[(.int p1), (.int (0 : Int32)), (.int p3)] 3)) t) ∧ Rg p e below (s₁.setTop (mkF m 0 #[sI p1, sI 0, sI p3] [])) B := ⟨_, pre0, P0⟩
  obtain ⟨fs488, hr488, hrun488, hended488, hW488, hsame488⟩ := X0.leave (v := none) (fun _ => rfl)
  refine ⟨_, _, pre0 _ (P0 _ ?_), hrun488, hended488, _, _, rfl, ?_, ⟨⟨_, rfl⟩, hW488, hsame488.mono (Nat.le_of_ble_eq_true rfl) (Nat.le_of_ble_eq_true rfl)⟩⟩
  · refine XS.iloadN X0.here hx rfl (hb hby dj65_30_0) rfl ?_
    show Sg p e below (s₁.setTop (mkF m 1 #[sI p1, sI 0, sI p3] [(.int (0 : Int32))])) _
    refine XS.iloadN X0.here hx rfl (hb hby dj65_30_1) rfl ?_
    refine XS.icmpYes X0.here hx rfl (pc0 := 2) (pc' := 46) rfl (hb hby dj65_30_2) rfl (flt (show ¬ (p3 < (0 : Int32)) from h1)).2.2.2 (by decide) (by decide) ?_
    refine XS.iloadN X0.here hx rfl (hb hby dj65_30_46) rfl ?_
    refine XS.ifYes X0.here hx rfl (pc0 := 47) (pc' := 59) rfl (hb hby dj65_30_47) rfl ((if0 _ _).trans (flt (show ¬ ((0 : Int32) < (0 : Int32)) from (by decide))).2.1) (by decide) (by decide) ?_
    refine XS.iloadN X0.here hx rfl (hb hby dj65_30_59) rfl ?_
    refine XS.iloadN X0.here hx rfl (hb hby dj65_30_60) rfl ?_
    refine XS.icmpYes X0.here hx rfl (pc0 := 61) (pc' := 73) rfl (hb hby dj65_30_61) rfl (flt (show ¬ (p1 < p3) from h2)).2.2.2 (by decide) (by decide) ?_
    show Sg p e below (s₁.setTop (mkF m 73 #[sI p1, sI 0, sI p3] [])) _
    exact X0.returnOut hx Bd.returns (hb hby dj65_30_73) hr488
  · show Q_rchk  h0 n0 _ s₁.heap _
    rw [e0]
    exact ⟨rfl, N0, rfl⟩
theorem dj65_59_0 : decode jdk_65_method_59_code 0 = .ok (.iload_n 1, 1) := by decide +kernel
theorem dj65_59_1 : decode jdk_65_method_59_code 1 = .ok (.istore 4, 2) := by decide +kernel
theorem dj65_59_3 : decode jdk_65_method_59_code 3 = .ok (.iload_n 2, 1) := by decide +kernel
theorem dj65_59_4 : decode jdk_65_method_59_code 4 = .ok (.iconst 1, 1) := by decide +kernel
theorem dj65_59_5 : decode jdk_65_method_59_code 5 = .ok (.isub, 1) := by decide +kernel
theorem dj65_59_6 : decode jdk_65_method_59_code 6 = .ok (.istore 5, 2) := by decide +kernel
theorem dj65_59_8 : decode jdk_65_method_59_code 8 = .ok (.iload 4, 2) := by decide +kernel
theorem dj65_59_10 : decode jdk_65_method_59_code 10 = .ok (.iload 5, 2) := by decide +kernel
theorem dj65_59_12 : decode jdk_65_method_59_code 12 = .ok (.if_icmp .gt 54, 3) := by decide +kernel
theorem dj65_59_66 : decode jdk_65_method_59_code 66 = .ok (.iload 4, 2) := by decide +kernel
theorem dj65_59_68 : decode jdk_65_method_59_code 68 = .ok (.iconst 1, 1) := by decide +kernel
theorem dj65_59_69 : decode jdk_65_method_59_code 69 = .ok (.iadd, 1) := by decide +kernel
theorem dj65_59_70 : decode jdk_65_method_59_code 70 = .ok (.ineg, 1) := by decide +kernel
theorem dj65_59_71 : decode jdk_65_method_59_code 71 = .ok (.ireturn, 1) := by decide +kernel
theorem dj65_59_15 : decode jdk_65_method_59_code 15 = .ok (.iload 4, 2) := by decide +kernel
theorem dj65_59_17 : decode jdk_65_method_59_code 17 = .ok (.iload 5, 2) := by decide +kernel
theorem dj65_59_19 : decode jdk_65_method_59_code 19 = .ok (.iadd, 1) := by decide +kernel
theorem dj65_59_20 : decode jdk_65_method_59_code 20 = .ok (.iconst 1, 1) := by decide +kernel
theorem dj65_59_21 : decode jdk_65_method_59_code 21 = .ok (.iushr, 1) := by decide +kernel
theorem dj65_59_22 : decode jdk_65_method_59_code 22 = .ok (.istore 6, 2) := by decide +kernel
theorem dj65_59_24 : decode jdk_65_method_59_code 24 = .ok (.aload_n 0, 1) := by decide +kernel
theorem dj65_59_25 : decode jdk_65_method_59_code 25 = .ok (.iload 6, 2) := by decide +kernel
theorem dj65_59_27 : decode jdk_65_method_59_code 27 = .ok (.iaload, 1) := by decide +kernel
theorem dj65_59_28 : decode jdk_65_method_59_code 28 = .ok (.istore 7, 2) := by decide +kernel
theorem dj65_59_30 : decode jdk_65_method_59_code 30 = .ok (.iload 7, 2) := by decide +kernel
theorem dj65_59_32 : decode jdk_65_method_59_code 32 = .ok (.iload_n 3, 1) := by decide +kernel
theorem dj65_59_33 : decode jdk_65_method_59_code 33 = .ok (.if_icmp .ge 12, 3) := by decide +kernel
theorem dj65_59_36 : decode jdk_65_method_59_code 36 = .ok (.iload 6, 2) := by decide +kernel
theorem dj65_59_38 : decode jdk_65_method_59_code 38 = .ok (.iconst 1, 1) := by decide +kernel
theorem dj65_59_39 : decode jdk_65_method_59_code 39 = .ok (.iadd, 1) := by decide +kernel
theorem dj65_59_40 : decode jdk_65_method_59_code 40 = .ok (.istore 4, 2) := by decide +kernel
theorem dj65_59_42 : decode jdk_65_method_59_code 42 = .ok (.goto 21, 3) := by decide +kernel
theorem dj65_59_63 : decode jdk_65_method_59_code 63 = .ok (.goto (-55), 3) := by decide +kernel
theorem dj65_59_45 : decode jdk_65_method_59_code 45 = .ok (.iload 7, 2) := by decide +kernel
theorem dj65_59_47 : decode jdk_65_method_59_code 47 = .ok (.iload_n 3, 1) := by decide +kernel
theorem dj65_59_48 : decode jdk_65_method_59_code 48 = .ok (.if_icmp .le 12, 3) := by decide +kernel
theorem dj65_59_51 : decode jdk_65_method_59_code 51 = .ok (.iload 6, 2) := by decide +kernel
theorem dj65_59_53 : decode jdk_65_method_59_code 53 = .ok (.iconst 1, 1) := by decide +kernel
theorem dj65_59_54 : decode jdk_65_method_59_code 54 = .ok (.isub, 1) := by decide +kernel
theorem dj65_59_55 : decode jdk_65_method_59_code 55 = .ok (.istore 5, 2) := by decide +kernel
theorem dj65_59_57 : decode jdk_65_method_59_code 57 = .ok (.goto 6, 3) := by decide +kernel
theorem dj65_59_60 : decode jdk_65_method_59_code 60 = .ok (.iload 6, 2) := by decide +kernel
theorem dj65_59_62 : decode jdk_65_method_59_code 62 = .ok (.ireturn, 1) := by decide +kernel
theorem ef_bs0 (m : MethodId) (x0 : Addr) (x1 : Int32) (x2 : Int32) (x3 : Int32) : entryFrame m #[(.ref x0), (.int x1), (.int x2), (.int x3)] 8 = mkF m 0 #[sR x0, sI x1, sI x2, sI x3, sU, sU, sU, sU] [] := by (first | (simp [entryFrame, mkF, argsToLocals, Value.category]; done) | rfl)
def Q_bs0 (pl : List Int32) (key : Int32) (h0 : Heap) (n0 : Nat) (v : Option Value) (h : Heap) (L : List Loc) : Prop := ∃ r : Int32, v = some (.int r) ∧ Fr n0 L ∧ h = h0 ∧ own_found pl key r
set_option maxRecDepth 65536 in
set_option maxHeartbeats 40000000 in
theorem rm_bs0 (l : Launch) (Z : State) (a0 : Array Value) (hw : ∀ d ∈ tables_1, d.before a0 Z = true) (ws : List Jvm.Cond) (P : Addr) (kP : ClassId) (M : Int32) (pl ur : List Int32) (cn key : Int32) (h0 : Heap) (n0 : Nat) (Z0 : n0 ≤ h0.size) (AP : Arv Z h0 P kP .int M ((pl ++ ur).map Value.int) (.int (0 : Int32))) (hM : M = Int32.ofNat (pl ++ ur).length) (hm : (pl ++ ur).length ≤ 3) (hc : cn = Int32.ofNat pl.length) (hs : pl.Pairwise (· < ·)) :
    MetFree l (⟨"java/util/Arrays", "binarySearch0", "([IIII)I"⟩ : MethodName) (head1 (Jvm.Cond.code (⟨"java/util/Arrays", "binarySearch0", "([IIII)I"⟩ : MethodName) jdk_65_method_59_code 8 (some .int) :: ws) ({ frames := 0, cells := 0, slots := 0, locals := 0 } : Room)) (fun a U => a = #[(.ref P), (.int (0 : Int32)), (.int cn), (.int key)] ∧ Z.Warmed39 U.vm ∧ U.heap = h0) (fun _ _ _ _ _ => True) (fun _ U o U' => ∃ v L, o = .returned v ∧ Q_bs0 pl key h0 n0 v U'.heap L ∧ FrameEnd U o U' L ({ frames := 0, cells := 0, slots := 0, locals := 0 } : Room).cells ({ frames := 0, cells := 0, slots := 0, locals := 0 } : Room).slots) := by
  refine MetFree.of_bodySF (plainFor_of_name pn_java_util_Arrays) hisR ?_
  intro p e s m args below meth c s₁ Bd hml0 hP hK
  obtain ⟨rfl, hZ, hh⟩ := hP
  have hx := Bd.exec
  have hby := Bd.bytes
  have hml : c.maxLocals = 8 := hml0
  have hown : s.vm.findClass "java/util/Arrays" = some m.cls := findClass_of_methodNamed Bd.named
  have hnm := (name_of_methodNamed Bd.named Bd.method).1
  have X0 : Stand p l e ({ frames := 0, cells := 0, slots := 0, locals := 0 } : Room) s m #[(.ref P), (.int (0 : Int32)), (.int cn), (.int key)] below meth c s₁ [] 0 0 := Stand.of_body Bd
  have e0 : s₁.heap = h0 := by rw [← hh, Bd.state]; rfl
  have N0 := Fr.nil n0
  have pre0 : ∀ t, Sg p e below (s₁.setTop (mkF m 0 #[sR P, sI 0, sI cn, sI key, sU, sU, sU, sU] [])) t → Steps p.tables e below (s₁.setTop (entryFrame m #[(.ref P), (.int (0 : Int32)), (.int cn), (.int key)] 8)) t := fun t k => castTop (ef_bs0 m P (0 : Int32) cn key) k
  have P0 : ∀ t, Sg p e below (s₁.setTop (mkF m 0 #[sR P, sI 0, sI cn, sI key, sU, sU, sU, sU] [])) t → Sg p e below (s₁.setTop (mkF m 0 #[sR P, sI 0, sI cn, sI key, sU, sU, sU, sU] [])) t := fun t k => k
  obtain ⟨B0, pre0, P0⟩ : ∃ B : State, (∀ t, Steps p.tables e below B t → Steps p.tables e below (s₁.setTop (entryFrame m #[(.ref P), (.int (0 : Int32)), (.int cn), (.int key)] 8)) t) ∧ Rg p e below (s₁.setTop (mkF m 0 #[sR P, sI 0, sI cn, sI key, sU, sU, sU, sU] [])) B := ⟨_, pre0, P0⟩
  have hlen : pl.length ≤ 3 := by simp at hm; omega
  rcases pl with _ | ⟨x0, _ | ⟨x1, _ | ⟨x2, _ | ⟨x3, pl⟩⟩⟩⟩
  · skip
    have hc' : cn = (0 : Int32) := hc
    subst hc'
    obtain ⟨fs489, hr489, hrun489, hended489, hW489, hsame489⟩ := X0.leave (v := some (.int (-1 : Int32))) (fun h => by rw [Bd.returns] at h; cases h)
    refine ⟨_, _, pre0 _ (P0 _ ?_), hrun489, hended489, _, _, rfl, ?_, ⟨⟨_, rfl⟩, hW489, hsame489.mono (Nat.le_of_ble_eq_true rfl) (Nat.le_of_ble_eq_true rfl)⟩⟩
    · refine XS.iloadN X0.here hx rfl (hb hby dj65_59_0) rfl ?_
      show Sg p e below (s₁.setTop (mkF m 1 #[sR P, sI 0, sI 0, sI key, sU, sU, sU, sU] [(.int (0 : Int32))])) _
      refine XS.istore X0.here hx rfl (hb hby dj65_59_1) rfl (l' := #[sR P, sI 0, sI 0, sI key, sI 0, sU, sU, sU]) rfl ?_
      refine XS.iloadN X0.here hx rfl (hb hby dj65_59_3) rfl ?_
      refine XS.iconst X0.here hx rfl (hb hby dj65_59_4) ?_
      refine XS.isub X0.here hx rfl (hb hby dj65_59_5) rfl ?_
      refine XS.istore X0.here hx rfl (hb hby dj65_59_6) rfl (l' := #[sR P, sI 0, sI 0, sI key, sI 0, sI (-1), sU, sU]) rfl ?_
      refine XS.iload X0.here hx rfl (hb hby dj65_59_8) rfl ?_
      refine XS.iload X0.here hx rfl (hb hby dj65_59_10) rfl ?_
      refine XS.icmpYes X0.here hx rfl (pc0 := 12) (pc' := 66) rfl (hb hby dj65_59_12) rfl (tlt (show (-1 : Int32) < (0 : Int32) from (by decide))).2.2.1 (by decide) (by decide) ?_
      refine XS.iload X0.here hx rfl (hb hby dj65_59_66) rfl ?_
      refine XS.iconst X0.here hx rfl (hb hby dj65_59_68) ?_
      refine XS.iadd X0.here hx rfl (hb hby dj65_59_69) rfl ?_
      refine XS.ineg X0.here hx rfl (hb hby dj65_59_70) rfl ?_
      show Sg p e below (s₁.setTop (mkF m 71 #[sR P, sI 0, sI 0, sI key, sI 0, sI (-1), sU, sU] [(.int (-1 : Int32))])) _
      exact retI X0 hx Bd.returns (hb hby dj65_59_71) hr489
    · show Q_bs0 [] key h0 n0 _ s₁.heap _
      rw [e0]
      exact ⟨_, rfl, N0, rfl, Or.inr ⟨by decide, fun hm => nomatch hm⟩⟩
  · skip
    have hc' : cn = (1 : Int32) := hc
    subst hc'
    obtain ⟨cl490, Ar490, -, S490, N490, H490, -⟩ := id AP
    have hin490 : ¬ ((0 : Int32) < 0 ∨ cl490.slots.size ≤ ((0 : Int32)).toNatClampNeg) := inb_of S490 (own_inb hM (k := 0) (by simp) hm)
    have P491 : Rg p e below (s₁.setTop (mkF m 33 #[sR P, sI 0, sI 1, sI key, sI 0, sI 0, sI 0, sI x0] [(.int key), (.int x0)])) B0 := fun t k => P0 t (by
      refine XS.iloadN X0.here hx rfl (hb hby dj65_59_0) rfl ?_
      refine XS.istore X0.here hx rfl (hb hby dj65_59_1) rfl (l' := #[sR P, sI 0, sI 1, sI key, sI 0, sU, sU, sU]) rfl ?_
      refine XS.iloadN X0.here hx rfl (hb hby dj65_59_3) rfl ?_
      refine XS.iconst X0.here hx rfl (hb hby dj65_59_4) ?_
      refine XS.isub X0.here hx rfl (hb hby dj65_59_5) rfl ?_
      refine XS.istore X0.here hx rfl (hb hby dj65_59_6) rfl (l' := #[sR P, sI 0, sI 1, sI key, sI 0, sI 0, sU, sU]) rfl ?_
      refine XS.iload X0.here hx rfl (hb hby dj65_59_8) rfl ?_
      refine XS.iload X0.here hx rfl (hb hby dj65_59_10) rfl ?_
      refine XS.icmpNo X0.here hx rfl (hb hby dj65_59_12) rfl (flt (show ¬ ((0 : Int32) < (0 : Int32)) from (by decide))).2.2.1 ?_
      refine XS.iload X0.here hx rfl (hb hby dj65_59_15) rfl ?_
      refine XS.iload X0.here hx rfl (hb hby dj65_59_17) rfl ?_
      refine XS.iadd X0.here hx rfl (hb hby dj65_59_19) rfl ?_
      refine XS.iconst X0.here hx rfl (hb hby dj65_59_20) ?_
      refine XS.iushr X0.here hx rfl (hb hby dj65_59_21) rfl ?_
      refine XS.istore X0.here hx rfl (hb hby dj65_59_22) rfl (l' := #[sR P, sI 0, sI 1, sI key, sI 0, sI 0, sI 0, sU]) rfl ?_
      refine XS.aloadN X0.here hx rfl (hb hby dj65_59_24) rfl rfl ?_
      refine XS.iload X0.here hx rfl (hb hby dj65_59_25) rfl ?_
      show Sg p e below (s₁.setTop (mkF m 27 #[sR P, sI 0, sI 1, sI key, sI 0, sI 0, sI 0, sU] [(.int (0 : Int32)), (.ref P)])) _
      refine X0.iaload hx (j := (0 : Int32)) (v := (.int x0)) (by rw [e0]; exact Ar490.1) (State.isArrayOf_alike hZ.alike Ar490.2.1) Ar490.2.2 hin490 (H490.at hin490 rfl) (g := (mkF m 27 #[sR P, sI 0, sI 1, sI key, sI 0, sI 0, sI 0, sU] [(.int (0 : Int32)), (.ref P)])) rfl rfl (hb hby dj65_59_27) _ ?_
      show Sg p e below (s₁.setTop (mkF m 28 #[sR P, sI 0, sI 1, sI key, sI 0, sI 0, sI 0, sU] [(.int x0)])) _
      refine XS.istore X0.here hx rfl (hb hby dj65_59_28) rfl (l' := #[sR P, sI 0, sI 1, sI key, sI 0, sI 0, sI 0, sI x0]) rfl ?_
      refine XS.iload X0.here hx rfl (hb hby dj65_59_30) rfl ?_
      refine XS.iloadN X0.here hx rfl (hb hby dj65_59_32) rfl ?_
      show Sg p e below (s₁.setTop (mkF m 33 #[sR P, sI 0, sI 1, sI key, sI 0, sI 0, sI 0, sI x0] [(.int key), (.int x0)])) _
      exact k)
    by_cases q492 : x0 < key
    · skip
      have tq492 := Int32.lt_iff_toInt_lt.mp q492
      obtain ⟨fs493, hr493, hrun493, hended493, hW493, hsame493⟩ := X0.leave (v := some (.int (-2 : Int32))) (fun h => by rw [Bd.returns] at h; cases h)
      refine ⟨_, _, pre0 _ (P491 _ ?_), hrun493, hended493, _, _, rfl, ?_, ⟨⟨_, rfl⟩, hW493, hsame493.mono (Nat.le_of_ble_eq_true rfl) (Nat.le_of_ble_eq_true rfl)⟩⟩
      · show Sg p e below (s₁.setTop (mkF m 33 #[sR P, sI 0, sI 1, sI key, sI 0, sI 0, sI 0, sI x0] [(.int key), (.int x0)])) _
        refine XS.icmpNo X0.here hx rfl (hb hby dj65_59_33) rfl (tlt (show x0 < key from q492)).2.1 ?_
        refine XS.iload X0.here hx rfl (hb hby dj65_59_36) rfl ?_
        refine XS.iconst X0.here hx rfl (hb hby dj65_59_38) ?_
        refine XS.iadd X0.here hx rfl (hb hby dj65_59_39) rfl ?_
        refine XS.istore X0.here hx rfl (hb hby dj65_59_40) rfl (l' := #[sR P, sI 0, sI 1, sI key, sI 1, sI 0, sI 0, sI x0]) rfl ?_
        refine XS.goto X0.here hx rfl (pc0 := 42) (pc' := 63) rfl (hb hby dj65_59_42) (by decide) (by decide) ?_
        refine XS.goto X0.here hx rfl (pc0 := 63) (pc' := 8) rfl (hb hby dj65_59_63) (by decide) (by decide) ?_
        refine XS.iload X0.here hx rfl (hb hby dj65_59_8) rfl ?_
        refine XS.iload X0.here hx rfl (hb hby dj65_59_10) rfl ?_
        refine XS.icmpYes X0.here hx rfl (pc0 := 12) (pc' := 66) rfl (hb hby dj65_59_12) rfl (tlt (show (0 : Int32) < (1 : Int32) from (by decide))).2.2.1 (by decide) (by decide) ?_
        refine XS.iload X0.here hx rfl (hb hby dj65_59_66) rfl ?_
        refine XS.iconst X0.here hx rfl (hb hby dj65_59_68) ?_
        refine XS.iadd X0.here hx rfl (hb hby dj65_59_69) rfl ?_
        refine XS.ineg X0.here hx rfl (hb hby dj65_59_70) rfl ?_
        show Sg p e below (s₁.setTop (mkF m 71 #[sR P, sI 0, sI 1, sI key, sI 1, sI 0, sI 0, sI x0] [(.int (-2 : Int32))])) _
        exact retI X0 hx Bd.returns (hb hby dj65_59_71) hr493
      · show Q_bs0 [x0] key h0 n0 _ s₁.heap _
        rw [e0]
        exact ⟨_, rfl, N0, rfl, Or.inr ⟨by decide, fun hm => by (have e := congrArg Int32.toInt (List.mem_singleton.mp hm); omega)⟩⟩
    · skip
      have P494 : Rg p e below (s₁.setTop (mkF m 48 #[sR P, sI 0, sI 1, sI key, sI 0, sI 0, sI 0, sI x0] [(.int key), (.int x0)])) B0 := fun t k => P491 t (by
        refine XS.icmpYes X0.here hx rfl (pc0 := 33) (pc' := 45) rfl (hb hby dj65_59_33) rfl (flt (show ¬ (x0 < key) from q492)).2.1 (by decide) (by decide) ?_
        refine XS.iload X0.here hx rfl (hb hby dj65_59_45) rfl ?_
        refine XS.iloadN X0.here hx rfl (hb hby dj65_59_47) rfl ?_
        show Sg p e below (s₁.setTop (mkF m 48 #[sR P, sI 0, sI 1, sI key, sI 0, sI 0, sI 0, sI x0] [(.int key), (.int x0)])) _
        exact k)
      by_cases q495 : key < x0
      · skip
        have tq492 := fun z => q492 (Int32.lt_iff_toInt_lt.mpr z)
        have tq495 := Int32.lt_iff_toInt_lt.mp q495
        obtain ⟨fs496, hr496, hrun496, hended496, hW496, hsame496⟩ := X0.leave (v := some (.int (-1 : Int32))) (fun h => by rw [Bd.returns] at h; cases h)
        refine ⟨_, _, pre0 _ (P494 _ ?_), hrun496, hended496, _, _, rfl, ?_, ⟨⟨_, rfl⟩, hW496, hsame496.mono (Nat.le_of_ble_eq_true rfl) (Nat.le_of_ble_eq_true rfl)⟩⟩
        · show Sg p e below (s₁.setTop (mkF m 48 #[sR P, sI 0, sI 1, sI key, sI 0, sI 0, sI 0, sI x0] [(.int key), (.int x0)])) _
          refine XS.icmpNo X0.here hx rfl (hb hby dj65_59_48) rfl (tlt (show key < x0 from q495)).2.2.2 ?_
          refine XS.iload X0.here hx rfl (hb hby dj65_59_51) rfl ?_
          refine XS.iconst X0.here hx rfl (hb hby dj65_59_53) ?_
          refine XS.isub X0.here hx rfl (hb hby dj65_59_54) rfl ?_
          refine XS.istore X0.here hx rfl (hb hby dj65_59_55) rfl (l' := #[sR P, sI 0, sI 1, sI key, sI 0, sI (-1), sI 0, sI x0]) rfl ?_
          refine XS.goto X0.here hx rfl (pc0 := 57) (pc' := 63) rfl (hb hby dj65_59_57) (by decide) (by decide) ?_
          refine XS.goto X0.here hx rfl (pc0 := 63) (pc' := 8) rfl (hb hby dj65_59_63) (by decide) (by decide) ?_
          refine XS.iload X0.here hx rfl (hb hby dj65_59_8) rfl ?_
          refine XS.iload X0.here hx rfl (hb hby dj65_59_10) rfl ?_
          refine XS.icmpYes X0.here hx rfl (pc0 := 12) (pc' := 66) rfl (hb hby dj65_59_12) rfl (tlt (show (-1 : Int32) < (0 : Int32) from (by decide))).2.2.1 (by decide) (by decide) ?_
          refine XS.iload X0.here hx rfl (hb hby dj65_59_66) rfl ?_
          refine XS.iconst X0.here hx rfl (hb hby dj65_59_68) ?_
          refine XS.iadd X0.here hx rfl (hb hby dj65_59_69) rfl ?_
          refine XS.ineg X0.here hx rfl (hb hby dj65_59_70) rfl ?_
          show Sg p e below (s₁.setTop (mkF m 71 #[sR P, sI 0, sI 1, sI key, sI 0, sI (-1), sI 0, sI x0] [(.int (-1 : Int32))])) _
          exact retI X0 hx Bd.returns (hb hby dj65_59_71) hr496
        · show Q_bs0 [x0] key h0 n0 _ s₁.heap _
          rw [e0]
          exact ⟨_, rfl, N0, rfl, Or.inr ⟨by decide, fun hm => by (have e := congrArg Int32.toInt (List.mem_singleton.mp hm); omega)⟩⟩
      · skip
        obtain ⟨fs497, hr497, hrun497, hended497, hW497, hsame497⟩ := X0.leave (v := some (.int (0 : Int32))) (fun h => by rw [Bd.returns] at h; cases h)
        refine ⟨_, _, pre0 _ (P494 _ ?_), hrun497, hended497, _, _, rfl, ?_, ⟨⟨_, rfl⟩, hW497, hsame497.mono (Nat.le_of_ble_eq_true rfl) (Nat.le_of_ble_eq_true rfl)⟩⟩
        · show Sg p e below (s₁.setTop (mkF m 48 #[sR P, sI 0, sI 1, sI key, sI 0, sI 0, sI 0, sI x0] [(.int key), (.int x0)])) _
          refine XS.icmpYes X0.here hx rfl (pc0 := 48) (pc' := 60) rfl (hb hby dj65_59_48) rfl (flt (show ¬ (key < x0) from q495)).2.2.2 (by decide) (by decide) ?_
          refine XS.iload X0.here hx rfl (hb hby dj65_59_60) rfl ?_
          show Sg p e below (s₁.setTop (mkF m 62 #[sR P, sI 0, sI 1, sI key, sI 0, sI 0, sI 0, sI x0] [(.int (0 : Int32))])) _
          exact retI X0 hx Bd.returns (hb hby dj65_59_62) hr497
        · show Q_bs0 [x0] key h0 n0 _ s₁.heap _
          rw [e0]
          exact ⟨_, rfl, N0, rfl, Or.inl ⟨0, by simp, rfl, congrArg some (own_eq3 q492 q495)⟩⟩
  · skip
    have hc' : cn = (2 : Int32) := hc
    subst hc'
    have hs01 := Int32.lt_iff_toInt_lt.mp (own_p2 hs)
    obtain ⟨cl498, Ar498, -, S498, N498, H498, -⟩ := id AP
    have hin498 : ¬ ((0 : Int32) < 0 ∨ cl498.slots.size ≤ ((0 : Int32)).toNatClampNeg) := inb_of S498 (own_inb hM (k := 0) (by simp) hm)
    have P499 : Rg p e below (s₁.setTop (mkF m 33 #[sR P, sI 0, sI 2, sI key, sI 0, sI 1, sI 0, sI x0] [(.int key), (.int x0)])) B0 := fun t k => P0 t (by
      refine XS.iloadN X0.here hx rfl (hb hby dj65_59_0) rfl ?_
      refine XS.istore X0.here hx rfl (hb hby dj65_59_1) rfl (l' := #[sR P, sI 0, sI 2, sI key, sI 0, sU, sU, sU]) rfl ?_
      refine XS.iloadN X0.here hx rfl (hb hby dj65_59_3) rfl ?_
      refine XS.iconst X0.here hx rfl (hb hby dj65_59_4) ?_
      refine XS.isub X0.here hx rfl (hb hby dj65_59_5) rfl ?_
      refine XS.istore X0.here hx rfl (hb hby dj65_59_6) rfl (l' := #[sR P, sI 0, sI 2, sI key, sI 0, sI 1, sU, sU]) rfl ?_
      refine XS.iload X0.here hx rfl (hb hby dj65_59_8) rfl ?_
      refine XS.iload X0.here hx rfl (hb hby dj65_59_10) rfl ?_
      refine XS.icmpNo X0.here hx rfl (hb hby dj65_59_12) rfl (flt (show ¬ ((1 : Int32) < (0 : Int32)) from (by decide))).2.2.1 ?_
      refine XS.iload X0.here hx rfl (hb hby dj65_59_15) rfl ?_
      refine XS.iload X0.here hx rfl (hb hby dj65_59_17) rfl ?_
      refine XS.iadd X0.here hx rfl (hb hby dj65_59_19) rfl ?_
      refine XS.iconst X0.here hx rfl (hb hby dj65_59_20) ?_
      refine XS.iushr X0.here hx rfl (hb hby dj65_59_21) rfl ?_
      refine XS.istore X0.here hx rfl (hb hby dj65_59_22) rfl (l' := #[sR P, sI 0, sI 2, sI key, sI 0, sI 1, sI 0, sU]) rfl ?_
      refine XS.aloadN X0.here hx rfl (hb hby dj65_59_24) rfl rfl ?_
      refine XS.iload X0.here hx rfl (hb hby dj65_59_25) rfl ?_
      show Sg p e below (s₁.setTop (mkF m 27 #[sR P, sI 0, sI 2, sI key, sI 0, sI 1, sI 0, sU] [(.int (0 : Int32)), (.ref P)])) _
      refine X0.iaload hx (j := (0 : Int32)) (v := (.int x0)) (by rw [e0]; exact Ar498.1) (State.isArrayOf_alike hZ.alike Ar498.2.1) Ar498.2.2 hin498 (H498.at hin498 rfl) (g := (mkF m 27 #[sR P, sI 0, sI 2, sI key, sI 0, sI 1, sI 0, sU] [(.int (0 : Int32)), (.ref P)])) rfl rfl (hb hby dj65_59_27) _ ?_
      show Sg p e below (s₁.setTop (mkF m 28 #[sR P, sI 0, sI 2, sI key, sI 0, sI 1, sI 0, sU] [(.int x0)])) _
      refine XS.istore X0.here hx rfl (hb hby dj65_59_28) rfl (l' := #[sR P, sI 0, sI 2, sI key, sI 0, sI 1, sI 0, sI x0]) rfl ?_
      refine XS.iload X0.here hx rfl (hb hby dj65_59_30) rfl ?_
      refine XS.iloadN X0.here hx rfl (hb hby dj65_59_32) rfl ?_
      show Sg p e below (s₁.setTop (mkF m 33 #[sR P, sI 0, sI 2, sI key, sI 0, sI 1, sI 0, sI x0] [(.int key), (.int x0)])) _
      exact k)
    by_cases q500 : x0 < key
    · skip
      obtain ⟨cl501, Ar501, -, S501, N501, H501, -⟩ := id AP
      have hin501 : ¬ ((1 : Int32) < 0 ∨ cl501.slots.size ≤ ((1 : Int32)).toNatClampNeg) := inb_of S501 (own_inb hM (k := 1) (by simp) hm)
      have P502 : Rg p e below (s₁.setTop (mkF m 33 #[sR P, sI 0, sI 2, sI key, sI 1, sI 1, sI 1, sI x1] [(.int key), (.int x1)])) B0 := fun t k => P499 t (by
        refine XS.icmpNo X0.here hx rfl (hb hby dj65_59_33) rfl (tlt (show x0 < key from q500)).2.1 ?_
        refine XS.iload X0.here hx rfl (hb hby dj65_59_36) rfl ?_
        refine XS.iconst X0.here hx rfl (hb hby dj65_59_38) ?_
        refine XS.iadd X0.here hx rfl (hb hby dj65_59_39) rfl ?_
        refine XS.istore X0.here hx rfl (hb hby dj65_59_40) rfl (l' := #[sR P, sI 0, sI 2, sI key, sI 1, sI 1, sI 0, sI x0]) rfl ?_
        refine XS.goto X0.here hx rfl (pc0 := 42) (pc' := 63) rfl (hb hby dj65_59_42) (by decide) (by decide) ?_
        refine XS.goto X0.here hx rfl (pc0 := 63) (pc' := 8) rfl (hb hby dj65_59_63) (by decide) (by decide) ?_
        refine XS.iload X0.here hx rfl (hb hby dj65_59_8) rfl ?_
        refine XS.iload X0.here hx rfl (hb hby dj65_59_10) rfl ?_
        refine XS.icmpNo X0.here hx rfl (hb hby dj65_59_12) rfl (flt (show ¬ ((1 : Int32) < (1 : Int32)) from (by decide))).2.2.1 ?_
        refine XS.iload X0.here hx rfl (hb hby dj65_59_15) rfl ?_
        refine XS.iload X0.here hx rfl (hb hby dj65_59_17) rfl ?_
        refine XS.iadd X0.here hx rfl (hb hby dj65_59_19) rfl ?_
        refine XS.iconst X0.here hx rfl (hb hby dj65_59_20) ?_
        refine XS.iushr X0.here hx rfl (hb hby dj65_59_21) rfl ?_
        refine XS.istore X0.here hx rfl (hb hby dj65_59_22) rfl (l' := #[sR P, sI 0, sI 2, sI key, sI 1, sI 1, sI 1, sI x0]) rfl ?_
        refine XS.aloadN X0.here hx rfl (hb hby dj65_59_24) rfl rfl ?_
        refine XS.iload X0.here hx rfl (hb hby dj65_59_25) rfl ?_
        show Sg p e below (s₁.setTop (mkF m 27 #[sR P, sI 0, sI 2, sI key, sI 1, sI 1, sI 1, sI x0] [(.int (1 : Int32)), (.ref P)])) _
        refine X0.iaload hx (j := (1 : Int32)) (v := (.int x1)) (by rw [e0]; exact Ar501.1) (State.isArrayOf_alike hZ.alike Ar501.2.1) Ar501.2.2 hin501 (H501.at hin501 rfl) (g := (mkF m 27 #[sR P, sI 0, sI 2, sI key, sI 1, sI 1, sI 1, sI x0] [(.int (1 : Int32)), (.ref P)])) rfl rfl (hb hby dj65_59_27) _ ?_
        show Sg p e below (s₁.setTop (mkF m 28 #[sR P, sI 0, sI 2, sI key, sI 1, sI 1, sI 1, sI x0] [(.int x1)])) _
        refine XS.istore X0.here hx rfl (hb hby dj65_59_28) rfl (l' := #[sR P, sI 0, sI 2, sI key, sI 1, sI 1, sI 1, sI x1]) rfl ?_
        refine XS.iload X0.here hx rfl (hb hby dj65_59_30) rfl ?_
        refine XS.iloadN X0.here hx rfl (hb hby dj65_59_32) rfl ?_
        show Sg p e below (s₁.setTop (mkF m 33 #[sR P, sI 0, sI 2, sI key, sI 1, sI 1, sI 1, sI x1] [(.int key), (.int x1)])) _
        exact k)
      by_cases q503 : x1 < key
      · skip
        have tq500 := Int32.lt_iff_toInt_lt.mp q500
        have tq503 := Int32.lt_iff_toInt_lt.mp q503
        obtain ⟨fs504, hr504, hrun504, hended504, hW504, hsame504⟩ := X0.leave (v := some (.int (-3 : Int32))) (fun h => by rw [Bd.returns] at h; cases h)
        refine ⟨_, _, pre0 _ (P502 _ ?_), hrun504, hended504, _, _, rfl, ?_, ⟨⟨_, rfl⟩, hW504, hsame504.mono (Nat.le_of_ble_eq_true rfl) (Nat.le_of_ble_eq_true rfl)⟩⟩
        · show Sg p e below (s₁.setTop (mkF m 33 #[sR P, sI 0, sI 2, sI key, sI 1, sI 1, sI 1, sI x1] [(.int key), (.int x1)])) _
          refine XS.icmpNo X0.here hx rfl (hb hby dj65_59_33) rfl (tlt (show x1 < key from q503)).2.1 ?_
          refine XS.iload X0.here hx rfl (hb hby dj65_59_36) rfl ?_
          refine XS.iconst X0.here hx rfl (hb hby dj65_59_38) ?_
          refine XS.iadd X0.here hx rfl (hb hby dj65_59_39) rfl ?_
          refine XS.istore X0.here hx rfl (hb hby dj65_59_40) rfl (l' := #[sR P, sI 0, sI 2, sI key, sI 2, sI 1, sI 1, sI x1]) rfl ?_
          refine XS.goto X0.here hx rfl (pc0 := 42) (pc' := 63) rfl (hb hby dj65_59_42) (by decide) (by decide) ?_
          refine XS.goto X0.here hx rfl (pc0 := 63) (pc' := 8) rfl (hb hby dj65_59_63) (by decide) (by decide) ?_
          refine XS.iload X0.here hx rfl (hb hby dj65_59_8) rfl ?_
          refine XS.iload X0.here hx rfl (hb hby dj65_59_10) rfl ?_
          refine XS.icmpYes X0.here hx rfl (pc0 := 12) (pc' := 66) rfl (hb hby dj65_59_12) rfl (tlt (show (1 : Int32) < (2 : Int32) from (by decide))).2.2.1 (by decide) (by decide) ?_
          refine XS.iload X0.here hx rfl (hb hby dj65_59_66) rfl ?_
          refine XS.iconst X0.here hx rfl (hb hby dj65_59_68) ?_
          refine XS.iadd X0.here hx rfl (hb hby dj65_59_69) rfl ?_
          refine XS.ineg X0.here hx rfl (hb hby dj65_59_70) rfl ?_
          show Sg p e below (s₁.setTop (mkF m 71 #[sR P, sI 0, sI 2, sI key, sI 2, sI 1, sI 1, sI x1] [(.int (-3 : Int32))])) _
          exact retI X0 hx Bd.returns (hb hby dj65_59_71) hr504
        · show Q_bs0 [x0, x1] key h0 n0 _ s₁.heap _
          rw [e0]
          exact ⟨_, rfl, N0, rfl, Or.inr ⟨by decide, fun hm => by (simp only [List.mem_cons, List.not_mem_nil, or_false] at hm; rcases hm with e | e <;> (have e' := congrArg Int32.toInt e; omega))⟩⟩
      · skip
        have P505 : Rg p e below (s₁.setTop (mkF m 48 #[sR P, sI 0, sI 2, sI key, sI 1, sI 1, sI 1, sI x1] [(.int key), (.int x1)])) B0 := fun t k => P502 t (by
          refine XS.icmpYes X0.here hx rfl (pc0 := 33) (pc' := 45) rfl (hb hby dj65_59_33) rfl (flt (show ¬ (x1 < key) from q503)).2.1 (by decide) (by decide) ?_
          refine XS.iload X0.here hx rfl (hb hby dj65_59_45) rfl ?_
          refine XS.iloadN X0.here hx rfl (hb hby dj65_59_47) rfl ?_
          show Sg p e below (s₁.setTop (mkF m 48 #[sR P, sI 0, sI 2, sI key, sI 1, sI 1, sI 1, sI x1] [(.int key), (.int x1)])) _
          exact k)
        by_cases q506 : key < x1
        · skip
          have tq500 := Int32.lt_iff_toInt_lt.mp q500
          have tq503 := fun z => q503 (Int32.lt_iff_toInt_lt.mpr z)
          have tq506 := Int32.lt_iff_toInt_lt.mp q506
          obtain ⟨fs507, hr507, hrun507, hended507, hW507, hsame507⟩ := X0.leave (v := some (.int (-2 : Int32))) (fun h => by rw [Bd.returns] at h; cases h)
          refine ⟨_, _, pre0 _ (P505 _ ?_), hrun507, hended507, _, _, rfl, ?_, ⟨⟨_, rfl⟩, hW507, hsame507.mono (Nat.le_of_ble_eq_true rfl) (Nat.le_of_ble_eq_true rfl)⟩⟩
          · show Sg p e below (s₁.setTop (mkF m 48 #[sR P, sI 0, sI 2, sI key, sI 1, sI 1, sI 1, sI x1] [(.int key), (.int x1)])) _
            refine XS.icmpNo X0.here hx rfl (hb hby dj65_59_48) rfl (tlt (show key < x1 from q506)).2.2.2 ?_
            refine XS.iload X0.here hx rfl (hb hby dj65_59_51) rfl ?_
            refine XS.iconst X0.here hx rfl (hb hby dj65_59_53) ?_
            refine XS.isub X0.here hx rfl (hb hby dj65_59_54) rfl ?_
            refine XS.istore X0.here hx rfl (hb hby dj65_59_55) rfl (l' := #[sR P, sI 0, sI 2, sI key, sI 1, sI 0, sI 1, sI x1]) rfl ?_
            refine XS.goto X0.here hx rfl (pc0 := 57) (pc' := 63) rfl (hb hby dj65_59_57) (by decide) (by decide) ?_
            refine XS.goto X0.here hx rfl (pc0 := 63) (pc' := 8) rfl (hb hby dj65_59_63) (by decide) (by decide) ?_
            refine XS.iload X0.here hx rfl (hb hby dj65_59_8) rfl ?_
            refine XS.iload X0.here hx rfl (hb hby dj65_59_10) rfl ?_
            refine XS.icmpYes X0.here hx rfl (pc0 := 12) (pc' := 66) rfl (hb hby dj65_59_12) rfl (tlt (show (0 : Int32) < (1 : Int32) from (by decide))).2.2.1 (by decide) (by decide) ?_
            refine XS.iload X0.here hx rfl (hb hby dj65_59_66) rfl ?_
            refine XS.iconst X0.here hx rfl (hb hby dj65_59_68) ?_
            refine XS.iadd X0.here hx rfl (hb hby dj65_59_69) rfl ?_
            refine XS.ineg X0.here hx rfl (hb hby dj65_59_70) rfl ?_
            show Sg p e below (s₁.setTop (mkF m 71 #[sR P, sI 0, sI 2, sI key, sI 1, sI 0, sI 1, sI x1] [(.int (-2 : Int32))])) _
            exact retI X0 hx Bd.returns (hb hby dj65_59_71) hr507
          · show Q_bs0 [x0, x1] key h0 n0 _ s₁.heap _
            rw [e0]
            exact ⟨_, rfl, N0, rfl, Or.inr ⟨by decide, fun hm => by (simp only [List.mem_cons, List.not_mem_nil, or_false] at hm; rcases hm with e | e <;> (have e' := congrArg Int32.toInt e; omega))⟩⟩
        · skip
          obtain ⟨fs508, hr508, hrun508, hended508, hW508, hsame508⟩ := X0.leave (v := some (.int (1 : Int32))) (fun h => by rw [Bd.returns] at h; cases h)
          refine ⟨_, _, pre0 _ (P505 _ ?_), hrun508, hended508, _, _, rfl, ?_, ⟨⟨_, rfl⟩, hW508, hsame508.mono (Nat.le_of_ble_eq_true rfl) (Nat.le_of_ble_eq_true rfl)⟩⟩
          · show Sg p e below (s₁.setTop (mkF m 48 #[sR P, sI 0, sI 2, sI key, sI 1, sI 1, sI 1, sI x1] [(.int key), (.int x1)])) _
            refine XS.icmpYes X0.here hx rfl (pc0 := 48) (pc' := 60) rfl (hb hby dj65_59_48) rfl (flt (show ¬ (key < x1) from q506)).2.2.2 (by decide) (by decide) ?_
            refine XS.iload X0.here hx rfl (hb hby dj65_59_60) rfl ?_
            show Sg p e below (s₁.setTop (mkF m 62 #[sR P, sI 0, sI 2, sI key, sI 1, sI 1, sI 1, sI x1] [(.int (1 : Int32))])) _
            exact retI X0 hx Bd.returns (hb hby dj65_59_62) hr508
          · show Q_bs0 [x0, x1] key h0 n0 _ s₁.heap _
            rw [e0]
            exact ⟨_, rfl, N0, rfl, Or.inl ⟨1, by simp, rfl, congrArg some (own_eq3 q503 q506)⟩⟩
    · skip
      have P509 : Rg p e below (s₁.setTop (mkF m 48 #[sR P, sI 0, sI 2, sI key, sI 0, sI 1, sI 0, sI x0] [(.int key), (.int x0)])) B0 := fun t k => P499 t (by
        refine XS.icmpYes X0.here hx rfl (pc0 := 33) (pc' := 45) rfl (hb hby dj65_59_33) rfl (flt (show ¬ (x0 < key) from q500)).2.1 (by decide) (by decide) ?_
        refine XS.iload X0.here hx rfl (hb hby dj65_59_45) rfl ?_
        refine XS.iloadN X0.here hx rfl (hb hby dj65_59_47) rfl ?_
        show Sg p e below (s₁.setTop (mkF m 48 #[sR P, sI 0, sI 2, sI key, sI 0, sI 1, sI 0, sI x0] [(.int key), (.int x0)])) _
        exact k)
      by_cases q510 : key < x0
      · skip
        have tq500 := fun z => q500 (Int32.lt_iff_toInt_lt.mpr z)
        have tq510 := Int32.lt_iff_toInt_lt.mp q510
        obtain ⟨fs511, hr511, hrun511, hended511, hW511, hsame511⟩ := X0.leave (v := some (.int (-1 : Int32))) (fun h => by rw [Bd.returns] at h; cases h)
        refine ⟨_, _, pre0 _ (P509 _ ?_), hrun511, hended511, _, _, rfl, ?_, ⟨⟨_, rfl⟩, hW511, hsame511.mono (Nat.le_of_ble_eq_true rfl) (Nat.le_of_ble_eq_true rfl)⟩⟩
        · show Sg p e below (s₁.setTop (mkF m 48 #[sR P, sI 0, sI 2, sI key, sI 0, sI 1, sI 0, sI x0] [(.int key), (.int x0)])) _
          refine XS.icmpNo X0.here hx rfl (hb hby dj65_59_48) rfl (tlt (show key < x0 from q510)).2.2.2 ?_
          refine XS.iload X0.here hx rfl (hb hby dj65_59_51) rfl ?_
          refine XS.iconst X0.here hx rfl (hb hby dj65_59_53) ?_
          refine XS.isub X0.here hx rfl (hb hby dj65_59_54) rfl ?_
          refine XS.istore X0.here hx rfl (hb hby dj65_59_55) rfl (l' := #[sR P, sI 0, sI 2, sI key, sI 0, sI (-1), sI 0, sI x0]) rfl ?_
          refine XS.goto X0.here hx rfl (pc0 := 57) (pc' := 63) rfl (hb hby dj65_59_57) (by decide) (by decide) ?_
          refine XS.goto X0.here hx rfl (pc0 := 63) (pc' := 8) rfl (hb hby dj65_59_63) (by decide) (by decide) ?_
          refine XS.iload X0.here hx rfl (hb hby dj65_59_8) rfl ?_
          refine XS.iload X0.here hx rfl (hb hby dj65_59_10) rfl ?_
          refine XS.icmpYes X0.here hx rfl (pc0 := 12) (pc' := 66) rfl (hb hby dj65_59_12) rfl (tlt (show (-1 : Int32) < (0 : Int32) from (by decide))).2.2.1 (by decide) (by decide) ?_
          refine XS.iload X0.here hx rfl (hb hby dj65_59_66) rfl ?_
          refine XS.iconst X0.here hx rfl (hb hby dj65_59_68) ?_
          refine XS.iadd X0.here hx rfl (hb hby dj65_59_69) rfl ?_
          refine XS.ineg X0.here hx rfl (hb hby dj65_59_70) rfl ?_
          show Sg p e below (s₁.setTop (mkF m 71 #[sR P, sI 0, sI 2, sI key, sI 0, sI (-1), sI 0, sI x0] [(.int (-1 : Int32))])) _
          exact retI X0 hx Bd.returns (hb hby dj65_59_71) hr511
        · show Q_bs0 [x0, x1] key h0 n0 _ s₁.heap _
          rw [e0]
          exact ⟨_, rfl, N0, rfl, Or.inr ⟨by decide, fun hm => by (simp only [List.mem_cons, List.not_mem_nil, or_false] at hm; rcases hm with e | e <;> (have e' := congrArg Int32.toInt e; omega))⟩⟩
      · skip
        obtain ⟨fs512, hr512, hrun512, hended512, hW512, hsame512⟩ := X0.leave (v := some (.int (0 : Int32))) (fun h => by rw [Bd.returns] at h; cases h)
        refine ⟨_, _, pre0 _ (P509 _ ?_), hrun512, hended512, _, _, rfl, ?_, ⟨⟨_, rfl⟩, hW512, hsame512.mono (Nat.le_of_ble_eq_true rfl) (Nat.le_of_ble_eq_true rfl)⟩⟩
        · show Sg p e below (s₁.setTop (mkF m 48 #[sR P, sI 0, sI 2, sI key, sI 0, sI 1, sI 0, sI x0] [(.int key), (.int x0)])) _
          refine XS.icmpYes X0.here hx rfl (pc0 := 48) (pc' := 60) rfl (hb hby dj65_59_48) rfl (flt (show ¬ (key < x0) from q510)).2.2.2 (by decide) (by decide) ?_
          refine XS.iload X0.here hx rfl (hb hby dj65_59_60) rfl ?_
          show Sg p e below (s₁.setTop (mkF m 62 #[sR P, sI 0, sI 2, sI key, sI 0, sI 1, sI 0, sI x0] [(.int (0 : Int32))])) _
          exact retI X0 hx Bd.returns (hb hby dj65_59_62) hr512
        · show Q_bs0 [x0, x1] key h0 n0 _ s₁.heap _
          rw [e0]
          exact ⟨_, rfl, N0, rfl, Or.inl ⟨0, by simp, rfl, congrArg some (own_eq3 q500 q510)⟩⟩
  · skip
    have hc' : cn = (3 : Int32) := hc
    subst hc'
    obtain ⟨hs01', hs12'⟩ := own_p3 hs
    have hs01 := Int32.lt_iff_toInt_lt.mp hs01'
    have hs12 := Int32.lt_iff_toInt_lt.mp hs12'
    obtain ⟨cl513, Ar513, -, S513, N513, H513, -⟩ := id AP
    have hin513 : ¬ ((1 : Int32) < 0 ∨ cl513.slots.size ≤ ((1 : Int32)).toNatClampNeg) := inb_of S513 (own_inb hM (k := 1) (by simp) hm)
    have P514 : Rg p e below (s₁.setTop (mkF m 33 #[sR P, sI 0, sI 3, sI key, sI 0, sI 2, sI 1, sI x1] [(.int key), (.int x1)])) B0 := fun t k => P0 t (by
      refine XS.iloadN X0.here hx rfl (hb hby dj65_59_0) rfl ?_
      refine XS.istore X0.here hx rfl (hb hby dj65_59_1) rfl (l' := #[sR P, sI 0, sI 3, sI key, sI 0, sU, sU, sU]) rfl ?_
      refine XS.iloadN X0.here hx rfl (hb hby dj65_59_3) rfl ?_
      refine XS.iconst X0.here hx rfl (hb hby dj65_59_4) ?_
      refine XS.isub X0.here hx rfl (hb hby dj65_59_5) rfl ?_
      refine XS.istore X0.here hx rfl (hb hby dj65_59_6) rfl (l' := #[sR P, sI 0, sI 3, sI key, sI 0, sI 2, sU, sU]) rfl ?_
      refine XS.iload X0.here hx rfl (hb hby dj65_59_8) rfl ?_
      refine XS.iload X0.here hx rfl (hb hby dj65_59_10) rfl ?_
      refine XS.icmpNo X0.here hx rfl (hb hby dj65_59_12) rfl (flt (show ¬ ((2 : Int32) < (0 : Int32)) from (by decide))).2.2.1 ?_
      refine XS.iload X0.here hx rfl (hb hby dj65_59_15) rfl ?_
      refine XS.iload X0.here hx rfl (hb hby dj65_59_17) rfl ?_
      refine XS.iadd X0.here hx rfl (hb hby dj65_59_19) rfl ?_
      refine XS.iconst X0.here hx rfl (hb hby dj65_59_20) ?_
      refine XS.iushr X0.here hx rfl (hb hby dj65_59_21) rfl ?_
      refine XS.istore X0.here hx rfl (hb hby dj65_59_22) rfl (l' := #[sR P, sI 0, sI 3, sI key, sI 0, sI 2, sI 1, sU]) rfl ?_
      refine XS.aloadN X0.here hx rfl (hb hby dj65_59_24) rfl rfl ?_
      refine XS.iload X0.here hx rfl (hb hby dj65_59_25) rfl ?_
      show Sg p e below (s₁.setTop (mkF m 27 #[sR P, sI 0, sI 3, sI key, sI 0, sI 2, sI 1, sU] [(.int (1 : Int32)), (.ref P)])) _
      refine X0.iaload hx (j := (1 : Int32)) (v := (.int x1)) (by rw [e0]; exact Ar513.1) (State.isArrayOf_alike hZ.alike Ar513.2.1) Ar513.2.2 hin513 (H513.at hin513 rfl) (g := (mkF m 27 #[sR P, sI 0, sI 3, sI key, sI 0, sI 2, sI 1, sU] [(.int (1 : Int32)), (.ref P)])) rfl rfl (hb hby dj65_59_27) _ ?_
      show Sg p e below (s₁.setTop (mkF m 28 #[sR P, sI 0, sI 3, sI key, sI 0, sI 2, sI 1, sU] [(.int x1)])) _
      refine XS.istore X0.here hx rfl (hb hby dj65_59_28) rfl (l' := #[sR P, sI 0, sI 3, sI key, sI 0, sI 2, sI 1, sI x1]) rfl ?_
      refine XS.iload X0.here hx rfl (hb hby dj65_59_30) rfl ?_
      refine XS.iloadN X0.here hx rfl (hb hby dj65_59_32) rfl ?_
      show Sg p e below (s₁.setTop (mkF m 33 #[sR P, sI 0, sI 3, sI key, sI 0, sI 2, sI 1, sI x1] [(.int key), (.int x1)])) _
      exact k)
    by_cases q515 : x1 < key
    · skip
      obtain ⟨cl516, Ar516, -, S516, N516, H516, -⟩ := id AP
      have hin516 : ¬ ((2 : Int32) < 0 ∨ cl516.slots.size ≤ ((2 : Int32)).toNatClampNeg) := inb_of S516 (own_inb hM (k := 2) (by simp) hm)
      have P517 : Rg p e below (s₁.setTop (mkF m 33 #[sR P, sI 0, sI 3, sI key, sI 2, sI 2, sI 2, sI x2] [(.int key), (.int x2)])) B0 := fun t k => P514 t (by
        refine XS.icmpNo X0.here hx rfl (hb hby dj65_59_33) rfl (tlt (show x1 < key from q515)).2.1 ?_
        refine XS.iload X0.here hx rfl (hb hby dj65_59_36) rfl ?_
        refine XS.iconst X0.here hx rfl (hb hby dj65_59_38) ?_
        refine XS.iadd X0.here hx rfl (hb hby dj65_59_39) rfl ?_
        refine XS.istore X0.here hx rfl (hb hby dj65_59_40) rfl (l' := #[sR P, sI 0, sI 3, sI key, sI 2, sI 2, sI 1, sI x1]) rfl ?_
        refine XS.goto X0.here hx rfl (pc0 := 42) (pc' := 63) rfl (hb hby dj65_59_42) (by decide) (by decide) ?_
        refine XS.goto X0.here hx rfl (pc0 := 63) (pc' := 8) rfl (hb hby dj65_59_63) (by decide) (by decide) ?_
        refine XS.iload X0.here hx rfl (hb hby dj65_59_8) rfl ?_
        refine XS.iload X0.here hx rfl (hb hby dj65_59_10) rfl ?_
        refine XS.icmpNo X0.here hx rfl (hb hby dj65_59_12) rfl (flt (show ¬ ((2 : Int32) < (2 : Int32)) from (by decide))).2.2.1 ?_
        refine XS.iload X0.here hx rfl (hb hby dj65_59_15) rfl ?_
        refine XS.iload X0.here hx rfl (hb hby dj65_59_17) rfl ?_
        refine XS.iadd X0.here hx rfl (hb hby dj65_59_19) rfl ?_
        refine XS.iconst X0.here hx rfl (hb hby dj65_59_20) ?_
        refine XS.iushr X0.here hx rfl (hb hby dj65_59_21) rfl ?_
        refine XS.istore X0.here hx rfl (hb hby dj65_59_22) rfl (l' := #[sR P, sI 0, sI 3, sI key, sI 2, sI 2, sI 2, sI x1]) rfl ?_
        refine XS.aloadN X0.here hx rfl (hb hby dj65_59_24) rfl rfl ?_
        refine XS.iload X0.here hx rfl (hb hby dj65_59_25) rfl ?_
        show Sg p e below (s₁.setTop (mkF m 27 #[sR P, sI 0, sI 3, sI key, sI 2, sI 2, sI 2, sI x1] [(.int (2 : Int32)), (.ref P)])) _
        refine X0.iaload hx (j := (2 : Int32)) (v := (.int x2)) (by rw [e0]; exact Ar516.1) (State.isArrayOf_alike hZ.alike Ar516.2.1) Ar516.2.2 hin516 (H516.at hin516 rfl) (g := (mkF m 27 #[sR P, sI 0, sI 3, sI key, sI 2, sI 2, sI 2, sI x1] [(.int (2 : Int32)), (.ref P)])) rfl rfl (hb hby dj65_59_27) _ ?_
        show Sg p e below (s₁.setTop (mkF m 28 #[sR P, sI 0, sI 3, sI key, sI 2, sI 2, sI 2, sI x1] [(.int x2)])) _
        refine XS.istore X0.here hx rfl (hb hby dj65_59_28) rfl (l' := #[sR P, sI 0, sI 3, sI key, sI 2, sI 2, sI 2, sI x2]) rfl ?_
        refine XS.iload X0.here hx rfl (hb hby dj65_59_30) rfl ?_
        refine XS.iloadN X0.here hx rfl (hb hby dj65_59_32) rfl ?_
        show Sg p e below (s₁.setTop (mkF m 33 #[sR P, sI 0, sI 3, sI key, sI 2, sI 2, sI 2, sI x2] [(.int key), (.int x2)])) _
        exact k)
      by_cases q518 : x2 < key
      · skip
        have tq515 := Int32.lt_iff_toInt_lt.mp q515
        have tq518 := Int32.lt_iff_toInt_lt.mp q518
        obtain ⟨fs519, hr519, hrun519, hended519, hW519, hsame519⟩ := X0.leave (v := some (.int (-4 : Int32))) (fun h => by rw [Bd.returns] at h; cases h)
        refine ⟨_, _, pre0 _ (P517 _ ?_), hrun519, hended519, _, _, rfl, ?_, ⟨⟨_, rfl⟩, hW519, hsame519.mono (Nat.le_of_ble_eq_true rfl) (Nat.le_of_ble_eq_true rfl)⟩⟩
        · show Sg p e below (s₁.setTop (mkF m 33 #[sR P, sI 0, sI 3, sI key, sI 2, sI 2, sI 2, sI x2] [(.int key), (.int x2)])) _
          refine XS.icmpNo X0.here hx rfl (hb hby dj65_59_33) rfl (tlt (show x2 < key from q518)).2.1 ?_
          refine XS.iload X0.here hx rfl (hb hby dj65_59_36) rfl ?_
          refine XS.iconst X0.here hx rfl (hb hby dj65_59_38) ?_
          refine XS.iadd X0.here hx rfl (hb hby dj65_59_39) rfl ?_
          refine XS.istore X0.here hx rfl (hb hby dj65_59_40) rfl (l' := #[sR P, sI 0, sI 3, sI key, sI 3, sI 2, sI 2, sI x2]) rfl ?_
          refine XS.goto X0.here hx rfl (pc0 := 42) (pc' := 63) rfl (hb hby dj65_59_42) (by decide) (by decide) ?_
          refine XS.goto X0.here hx rfl (pc0 := 63) (pc' := 8) rfl (hb hby dj65_59_63) (by decide) (by decide) ?_
          refine XS.iload X0.here hx rfl (hb hby dj65_59_8) rfl ?_
          refine XS.iload X0.here hx rfl (hb hby dj65_59_10) rfl ?_
          refine XS.icmpYes X0.here hx rfl (pc0 := 12) (pc' := 66) rfl (hb hby dj65_59_12) rfl (tlt (show (2 : Int32) < (3 : Int32) from (by decide))).2.2.1 (by decide) (by decide) ?_
          refine XS.iload X0.here hx rfl (hb hby dj65_59_66) rfl ?_
          refine XS.iconst X0.here hx rfl (hb hby dj65_59_68) ?_
          refine XS.iadd X0.here hx rfl (hb hby dj65_59_69) rfl ?_
          refine XS.ineg X0.here hx rfl (hb hby dj65_59_70) rfl ?_
          show Sg p e below (s₁.setTop (mkF m 71 #[sR P, sI 0, sI 3, sI key, sI 3, sI 2, sI 2, sI x2] [(.int (-4 : Int32))])) _
          exact retI X0 hx Bd.returns (hb hby dj65_59_71) hr519
        · show Q_bs0 [x0, x1, x2] key h0 n0 _ s₁.heap _
          rw [e0]
          exact ⟨_, rfl, N0, rfl, Or.inr ⟨by decide, fun hm => by (simp only [List.mem_cons, List.not_mem_nil, or_false] at hm; rcases hm with e | e | e <;> (have e' := congrArg Int32.toInt e; omega))⟩⟩
      · skip
        have P520 : Rg p e below (s₁.setTop (mkF m 48 #[sR P, sI 0, sI 3, sI key, sI 2, sI 2, sI 2, sI x2] [(.int key), (.int x2)])) B0 := fun t k => P517 t (by
          refine XS.icmpYes X0.here hx rfl (pc0 := 33) (pc' := 45) rfl (hb hby dj65_59_33) rfl (flt (show ¬ (x2 < key) from q518)).2.1 (by decide) (by decide) ?_
          refine XS.iload X0.here hx rfl (hb hby dj65_59_45) rfl ?_
          refine XS.iloadN X0.here hx rfl (hb hby dj65_59_47) rfl ?_
          show Sg p e below (s₁.setTop (mkF m 48 #[sR P, sI 0, sI 3, sI key, sI 2, sI 2, sI 2, sI x2] [(.int key), (.int x2)])) _
          exact k)
        by_cases q521 : key < x2
        · skip
          have tq515 := Int32.lt_iff_toInt_lt.mp q515
          have tq518 := fun z => q518 (Int32.lt_iff_toInt_lt.mpr z)
          have tq521 := Int32.lt_iff_toInt_lt.mp q521
          obtain ⟨fs522, hr522, hrun522, hended522, hW522, hsame522⟩ := X0.leave (v := some (.int (-3 : Int32))) (fun h => by rw [Bd.returns] at h; cases h)
          refine ⟨_, _, pre0 _ (P520 _ ?_), hrun522, hended522, _, _, rfl, ?_, ⟨⟨_, rfl⟩, hW522, hsame522.mono (Nat.le_of_ble_eq_true rfl) (Nat.le_of_ble_eq_true rfl)⟩⟩
          · show Sg p e below (s₁.setTop (mkF m 48 #[sR P, sI 0, sI 3, sI key, sI 2, sI 2, sI 2, sI x2] [(.int key), (.int x2)])) _
            refine XS.icmpNo X0.here hx rfl (hb hby dj65_59_48) rfl (tlt (show key < x2 from q521)).2.2.2 ?_
            refine XS.iload X0.here hx rfl (hb hby dj65_59_51) rfl ?_
            refine XS.iconst X0.here hx rfl (hb hby dj65_59_53) ?_
            refine XS.isub X0.here hx rfl (hb hby dj65_59_54) rfl ?_
            refine XS.istore X0.here hx rfl (hb hby dj65_59_55) rfl (l' := #[sR P, sI 0, sI 3, sI key, sI 2, sI 1, sI 2, sI x2]) rfl ?_
            refine XS.goto X0.here hx rfl (pc0 := 57) (pc' := 63) rfl (hb hby dj65_59_57) (by decide) (by decide) ?_
            refine XS.goto X0.here hx rfl (pc0 := 63) (pc' := 8) rfl (hb hby dj65_59_63) (by decide) (by decide) ?_
            refine XS.iload X0.here hx rfl (hb hby dj65_59_8) rfl ?_
            refine XS.iload X0.here hx rfl (hb hby dj65_59_10) rfl ?_
            refine XS.icmpYes X0.here hx rfl (pc0 := 12) (pc' := 66) rfl (hb hby dj65_59_12) rfl (tlt (show (1 : Int32) < (2 : Int32) from (by decide))).2.2.1 (by decide) (by decide) ?_
            refine XS.iload X0.here hx rfl (hb hby dj65_59_66) rfl ?_
            refine XS.iconst X0.here hx rfl (hb hby dj65_59_68) ?_
            refine XS.iadd X0.here hx rfl (hb hby dj65_59_69) rfl ?_
            refine XS.ineg X0.here hx rfl (hb hby dj65_59_70) rfl ?_
            show Sg p e below (s₁.setTop (mkF m 71 #[sR P, sI 0, sI 3, sI key, sI 2, sI 1, sI 2, sI x2] [(.int (-3 : Int32))])) _
            exact retI X0 hx Bd.returns (hb hby dj65_59_71) hr522
          · show Q_bs0 [x0, x1, x2] key h0 n0 _ s₁.heap _
            rw [e0]
            exact ⟨_, rfl, N0, rfl, Or.inr ⟨by decide, fun hm => by (simp only [List.mem_cons, List.not_mem_nil, or_false] at hm; rcases hm with e | e | e <;> (have e' := congrArg Int32.toInt e; omega))⟩⟩
        · skip
          obtain ⟨fs523, hr523, hrun523, hended523, hW523, hsame523⟩ := X0.leave (v := some (.int (2 : Int32))) (fun h => by rw [Bd.returns] at h; cases h)
          refine ⟨_, _, pre0 _ (P520 _ ?_), hrun523, hended523, _, _, rfl, ?_, ⟨⟨_, rfl⟩, hW523, hsame523.mono (Nat.le_of_ble_eq_true rfl) (Nat.le_of_ble_eq_true rfl)⟩⟩
          · show Sg p e below (s₁.setTop (mkF m 48 #[sR P, sI 0, sI 3, sI key, sI 2, sI 2, sI 2, sI x2] [(.int key), (.int x2)])) _
            refine XS.icmpYes X0.here hx rfl (pc0 := 48) (pc' := 60) rfl (hb hby dj65_59_48) rfl (flt (show ¬ (key < x2) from q521)).2.2.2 (by decide) (by decide) ?_
            refine XS.iload X0.here hx rfl (hb hby dj65_59_60) rfl ?_
            show Sg p e below (s₁.setTop (mkF m 62 #[sR P, sI 0, sI 3, sI key, sI 2, sI 2, sI 2, sI x2] [(.int (2 : Int32))])) _
            exact retI X0 hx Bd.returns (hb hby dj65_59_62) hr523
          · show Q_bs0 [x0, x1, x2] key h0 n0 _ s₁.heap _
            rw [e0]
            exact ⟨_, rfl, N0, rfl, Or.inl ⟨2, by simp, rfl, congrArg some (own_eq3 q518 q521)⟩⟩
    · skip
      have P524 : Rg p e below (s₁.setTop (mkF m 48 #[sR P, sI 0, sI 3, sI key, sI 0, sI 2, sI 1, sI x1] [(.int key), (.int x1)])) B0 := fun t k => P514 t (by
        refine XS.icmpYes X0.here hx rfl (pc0 := 33) (pc' := 45) rfl (hb hby dj65_59_33) rfl (flt (show ¬ (x1 < key) from q515)).2.1 (by decide) (by decide) ?_
        refine XS.iload X0.here hx rfl (hb hby dj65_59_45) rfl ?_
        refine XS.iloadN X0.here hx rfl (hb hby dj65_59_47) rfl ?_
        show Sg p e below (s₁.setTop (mkF m 48 #[sR P, sI 0, sI 3, sI key, sI 0, sI 2, sI 1, sI x1] [(.int key), (.int x1)])) _
        exact k)
      by_cases q525 : key < x1
      · skip
        obtain ⟨cl526, Ar526, -, S526, N526, H526, -⟩ := id AP
        have hin526 : ¬ ((0 : Int32) < 0 ∨ cl526.slots.size ≤ ((0 : Int32)).toNatClampNeg) := inb_of S526 (own_inb hM (k := 0) (by simp) hm)
        have P527 : Rg p e below (s₁.setTop (mkF m 33 #[sR P, sI 0, sI 3, sI key, sI 0, sI 0, sI 0, sI x0] [(.int key), (.int x0)])) B0 := fun t k => P524 t (by
          refine XS.icmpNo X0.here hx rfl (hb hby dj65_59_48) rfl (tlt (show key < x1 from q525)).2.2.2 ?_
          refine XS.iload X0.here hx rfl (hb hby dj65_59_51) rfl ?_
          refine XS.iconst X0.here hx rfl (hb hby dj65_59_53) ?_
          refine XS.isub X0.here hx rfl (hb hby dj65_59_54) rfl ?_
          refine XS.istore X0.here hx rfl (hb hby dj65_59_55) rfl (l' := #[sR P, sI 0, sI 3, sI key, sI 0, sI 0, sI 1, sI x1]) rfl ?_
          refine XS.goto X0.here hx rfl (pc0 := 57) (pc' := 63) rfl (hb hby dj65_59_57) (by decide) (by decide) ?_
          refine XS.goto X0.here hx rfl (pc0 := 63) (pc' := 8) rfl (hb hby dj65_59_63) (by decide) (by decide) ?_
          refine XS.iload X0.here hx rfl (hb hby dj65_59_8) rfl ?_
          refine XS.iload X0.here hx rfl (hb hby dj65_59_10) rfl ?_
          refine XS.icmpNo X0.here hx rfl (hb hby dj65_59_12) rfl (flt (show ¬ ((0 : Int32) < (0 : Int32)) from (by decide))).2.2.1 ?_
          refine XS.iload X0.here hx rfl (hb hby dj65_59_15) rfl ?_
          refine XS.iload X0.here hx rfl (hb hby dj65_59_17) rfl ?_
          refine XS.iadd X0.here hx rfl (hb hby dj65_59_19) rfl ?_
          refine XS.iconst X0.here hx rfl (hb hby dj65_59_20) ?_
          refine XS.iushr X0.here hx rfl (hb hby dj65_59_21) rfl ?_
          refine XS.istore X0.here hx rfl (hb hby dj65_59_22) rfl (l' := #[sR P, sI 0, sI 3, sI key, sI 0, sI 0, sI 0, sI x1]) rfl ?_
          refine XS.aloadN X0.here hx rfl (hb hby dj65_59_24) rfl rfl ?_
          refine XS.iload X0.here hx rfl (hb hby dj65_59_25) rfl ?_
          show Sg p e below (s₁.setTop (mkF m 27 #[sR P, sI 0, sI 3, sI key, sI 0, sI 0, sI 0, sI x1] [(.int (0 : Int32)), (.ref P)])) _
          refine X0.iaload hx (j := (0 : Int32)) (v := (.int x0)) (by rw [e0]; exact Ar526.1) (State.isArrayOf_alike hZ.alike Ar526.2.1) Ar526.2.2 hin526 (H526.at hin526 rfl) (g := (mkF m 27 #[sR P, sI 0, sI 3, sI key, sI 0, sI 0, sI 0, sI x1] [(.int (0 : Int32)), (.ref P)])) rfl rfl (hb hby dj65_59_27) _ ?_
          show Sg p e below (s₁.setTop (mkF m 28 #[sR P, sI 0, sI 3, sI key, sI 0, sI 0, sI 0, sI x1] [(.int x0)])) _
          refine XS.istore X0.here hx rfl (hb hby dj65_59_28) rfl (l' := #[sR P, sI 0, sI 3, sI key, sI 0, sI 0, sI 0, sI x0]) rfl ?_
          refine XS.iload X0.here hx rfl (hb hby dj65_59_30) rfl ?_
          refine XS.iloadN X0.here hx rfl (hb hby dj65_59_32) rfl ?_
          show Sg p e below (s₁.setTop (mkF m 33 #[sR P, sI 0, sI 3, sI key, sI 0, sI 0, sI 0, sI x0] [(.int key), (.int x0)])) _
          exact k)
        by_cases q528 : x0 < key
        · skip
          have tq515 := fun z => q515 (Int32.lt_iff_toInt_lt.mpr z)
          have tq525 := Int32.lt_iff_toInt_lt.mp q525
          have tq528 := Int32.lt_iff_toInt_lt.mp q528
          obtain ⟨fs529, hr529, hrun529, hended529, hW529, hsame529⟩ := X0.leave (v := some (.int (-2 : Int32))) (fun h => by rw [Bd.returns] at h; cases h)
          refine ⟨_, _, pre0 _ (P527 _ ?_), hrun529, hended529, _, _, rfl, ?_, ⟨⟨_, rfl⟩, hW529, hsame529.mono (Nat.le_of_ble_eq_true rfl) (Nat.le_of_ble_eq_true rfl)⟩⟩
          · show Sg p e below (s₁.setTop (mkF m 33 #[sR P, sI 0, sI 3, sI key, sI 0, sI 0, sI 0, sI x0] [(.int key), (.int x0)])) _
            refine XS.icmpNo X0.here hx rfl (hb hby dj65_59_33) rfl (tlt (show x0 < key from q528)).2.1 ?_
            refine XS.iload X0.here hx rfl (hb hby dj65_59_36) rfl ?_
            refine XS.iconst X0.here hx rfl (hb hby dj65_59_38) ?_
            refine XS.iadd X0.here hx rfl (hb hby dj65_59_39) rfl ?_
            refine XS.istore X0.here hx rfl (hb hby dj65_59_40) rfl (l' := #[sR P, sI 0, sI 3, sI key, sI 1, sI 0, sI 0, sI x0]) rfl ?_
            refine XS.goto X0.here hx rfl (pc0 := 42) (pc' := 63) rfl (hb hby dj65_59_42) (by decide) (by decide) ?_
            refine XS.goto X0.here hx rfl (pc0 := 63) (pc' := 8) rfl (hb hby dj65_59_63) (by decide) (by decide) ?_
            refine XS.iload X0.here hx rfl (hb hby dj65_59_8) rfl ?_
            refine XS.iload X0.here hx rfl (hb hby dj65_59_10) rfl ?_
            refine XS.icmpYes X0.here hx rfl (pc0 := 12) (pc' := 66) rfl (hb hby dj65_59_12) rfl (tlt (show (0 : Int32) < (1 : Int32) from (by decide))).2.2.1 (by decide) (by decide) ?_
            refine XS.iload X0.here hx rfl (hb hby dj65_59_66) rfl ?_
            refine XS.iconst X0.here hx rfl (hb hby dj65_59_68) ?_
            refine XS.iadd X0.here hx rfl (hb hby dj65_59_69) rfl ?_
            refine XS.ineg X0.here hx rfl (hb hby dj65_59_70) rfl ?_
            show Sg p e below (s₁.setTop (mkF m 71 #[sR P, sI 0, sI 3, sI key, sI 1, sI 0, sI 0, sI x0] [(.int (-2 : Int32))])) _
            exact retI X0 hx Bd.returns (hb hby dj65_59_71) hr529
          · show Q_bs0 [x0, x1, x2] key h0 n0 _ s₁.heap _
            rw [e0]
            exact ⟨_, rfl, N0, rfl, Or.inr ⟨by decide, fun hm => by (simp only [List.mem_cons, List.not_mem_nil, or_false] at hm; rcases hm with e | e | e <;> (have e' := congrArg Int32.toInt e; omega))⟩⟩
        · skip
          have P530 : Rg p e below (s₁.setTop (mkF m 48 #[sR P, sI 0, sI 3, sI key, sI 0, sI 0, sI 0, sI x0] [(.int key), (.int x0)])) B0 := fun t k => P527 t (by
            refine XS.icmpYes X0.here hx rfl (pc0 := 33) (pc' := 45) rfl (hb hby dj65_59_33) rfl (flt (show ¬ (x0 < key) from q528)).2.1 (by decide) (by decide) ?_
            refine XS.iload X0.here hx rfl (hb hby dj65_59_45) rfl ?_
            refine XS.iloadN X0.here hx rfl (hb hby dj65_59_47) rfl ?_
            show Sg p e below (s₁.setTop (mkF m 48 #[sR P, sI 0, sI 3, sI key, sI 0, sI 0, sI 0, sI x0] [(.int key), (.int x0)])) _
            exact k)
          by_cases q531 : key < x0
          · skip
            have tq515 := fun z => q515 (Int32.lt_iff_toInt_lt.mpr z)
            have tq525 := Int32.lt_iff_toInt_lt.mp q525
            have tq528 := fun z => q528 (Int32.lt_iff_toInt_lt.mpr z)
            have tq531 := Int32.lt_iff_toInt_lt.mp q531
            obtain ⟨fs532, hr532, hrun532, hended532, hW532, hsame532⟩ := X0.leave (v := some (.int (-1 : Int32))) (fun h => by rw [Bd.returns] at h; cases h)
            refine ⟨_, _, pre0 _ (P530 _ ?_), hrun532, hended532, _, _, rfl, ?_, ⟨⟨_, rfl⟩, hW532, hsame532.mono (Nat.le_of_ble_eq_true rfl) (Nat.le_of_ble_eq_true rfl)⟩⟩
            · show Sg p e below (s₁.setTop (mkF m 48 #[sR P, sI 0, sI 3, sI key, sI 0, sI 0, sI 0, sI x0] [(.int key), (.int x0)])) _
              refine XS.icmpNo X0.here hx rfl (hb hby dj65_59_48) rfl (tlt (show key < x0 from q531)).2.2.2 ?_
              refine XS.iload X0.here hx rfl (hb hby dj65_59_51) rfl ?_
              refine XS.iconst X0.here hx rfl (hb hby dj65_59_53) ?_
              refine XS.isub X0.here hx rfl (hb hby dj65_59_54) rfl ?_
              refine XS.istore X0.here hx rfl (hb hby dj65_59_55) rfl (l' := #[sR P, sI 0, sI 3, sI key, sI 0, sI (-1), sI 0, sI x0]) rfl ?_
              refine XS.goto X0.here hx rfl (pc0 := 57) (pc' := 63) rfl (hb hby dj65_59_57) (by decide) (by decide) ?_
              refine XS.goto X0.here hx rfl (pc0 := 63) (pc' := 8) rfl (hb hby dj65_59_63) (by decide) (by decide) ?_
              refine XS.iload X0.here hx rfl (hb hby dj65_59_8) rfl ?_
              refine XS.iload X0.here hx rfl (hb hby dj65_59_10) rfl ?_
              refine XS.icmpYes X0.here hx rfl (pc0 := 12) (pc' := 66) rfl (hb hby dj65_59_12) rfl (tlt (show (-1 : Int32) < (0 : Int32) from (by decide))).2.2.1 (by decide) (by decide) ?_
              refine XS.iload X0.here hx rfl (hb hby dj65_59_66) rfl ?_
              refine XS.iconst X0.here hx rfl (hb hby dj65_59_68) ?_
              refine XS.iadd X0.here hx rfl (hb hby dj65_59_69) rfl ?_
              refine XS.ineg X0.here hx rfl (hb hby dj65_59_70) rfl ?_
              show Sg p e below (s₁.setTop (mkF m 71 #[sR P, sI 0, sI 3, sI key, sI 0, sI (-1), sI 0, sI x0] [(.int (-1 : Int32))])) _
              exact retI X0 hx Bd.returns (hb hby dj65_59_71) hr532
            · show Q_bs0 [x0, x1, x2] key h0 n0 _ s₁.heap _
              rw [e0]
              exact ⟨_, rfl, N0, rfl, Or.inr ⟨by decide, fun hm => by (simp only [List.mem_cons, List.not_mem_nil, or_false] at hm; rcases hm with e | e | e <;> (have e' := congrArg Int32.toInt e; omega))⟩⟩
          · skip
            obtain ⟨fs533, hr533, hrun533, hended533, hW533, hsame533⟩ := X0.leave (v := some (.int (0 : Int32))) (fun h => by rw [Bd.returns] at h; cases h)
            refine ⟨_, _, pre0 _ (P530 _ ?_), hrun533, hended533, _, _, rfl, ?_, ⟨⟨_, rfl⟩, hW533, hsame533.mono (Nat.le_of_ble_eq_true rfl) (Nat.le_of_ble_eq_true rfl)⟩⟩
            · show Sg p e below (s₁.setTop (mkF m 48 #[sR P, sI 0, sI 3, sI key, sI 0, sI 0, sI 0, sI x0] [(.int key), (.int x0)])) _
              refine XS.icmpYes X0.here hx rfl (pc0 := 48) (pc' := 60) rfl (hb hby dj65_59_48) rfl (flt (show ¬ (key < x0) from q531)).2.2.2 (by decide) (by decide) ?_
              refine XS.iload X0.here hx rfl (hb hby dj65_59_60) rfl ?_
              show Sg p e below (s₁.setTop (mkF m 62 #[sR P, sI 0, sI 3, sI key, sI 0, sI 0, sI 0, sI x0] [(.int (0 : Int32))])) _
              exact retI X0 hx Bd.returns (hb hby dj65_59_62) hr533
            · show Q_bs0 [x0, x1, x2] key h0 n0 _ s₁.heap _
              rw [e0]
              exact ⟨_, rfl, N0, rfl, Or.inl ⟨0, by simp, rfl, congrArg some (own_eq3 q528 q531)⟩⟩
      · skip
        obtain ⟨fs534, hr534, hrun534, hended534, hW534, hsame534⟩ := X0.leave (v := some (.int (1 : Int32))) (fun h => by rw [Bd.returns] at h; cases h)
        refine ⟨_, _, pre0 _ (P524 _ ?_), hrun534, hended534, _, _, rfl, ?_, ⟨⟨_, rfl⟩, hW534, hsame534.mono (Nat.le_of_ble_eq_true rfl) (Nat.le_of_ble_eq_true rfl)⟩⟩
        · show Sg p e below (s₁.setTop (mkF m 48 #[sR P, sI 0, sI 3, sI key, sI 0, sI 2, sI 1, sI x1] [(.int key), (.int x1)])) _
          refine XS.icmpYes X0.here hx rfl (pc0 := 48) (pc' := 60) rfl (hb hby dj65_59_48) rfl (flt (show ¬ (key < x1) from q525)).2.2.2 (by decide) (by decide) ?_
          refine XS.iload X0.here hx rfl (hb hby dj65_59_60) rfl ?_
          show Sg p e below (s₁.setTop (mkF m 62 #[sR P, sI 0, sI 3, sI key, sI 0, sI 2, sI 1, sI x1] [(.int (1 : Int32))])) _
          exact retI X0 hx Bd.returns (hb hby dj65_59_62) hr534
        · show Q_bs0 [x0, x1, x2] key h0 n0 _ s₁.heap _
          rw [e0]
          exact ⟨_, rfl, N0, rfl, Or.inl ⟨1, by simp, rfl, congrArg some (own_eq3 q515 q525)⟩⟩
  · exact absurd hlen (by simp)
theorem dj65_58_0 : decode jdk_65_method_58_code 0 = .ok (.aload_n 0, 1) := by decide +kernel
theorem dj65_58_1 : decode jdk_65_method_58_code 1 = .ok (.arraylength, 1) := by decide +kernel
theorem dj65_58_2 : decode jdk_65_method_58_code 2 = .ok (.iload_n 1, 1) := by decide +kernel
theorem dj65_58_3 : decode jdk_65_method_58_code 3 = .ok (.iload_n 2, 1) := by decide +kernel
theorem dj65_58_4 : decode jdk_65_method_58_code 4 = .ok (.invokestatic 13, 3) := by decide +kernel
theorem pd__28III_29V : parseMethodDescriptor "(III)V" = some ⟨[.int, .int, .int], none⟩ := by decide +kernel
theorem dj65_58_7 : decode jdk_65_method_58_code 7 = .ok (.aload_n 0, 1) := by decide +kernel
theorem dj65_58_8 : decode jdk_65_method_58_code 8 = .ok (.iload_n 1, 1) := by decide +kernel
theorem dj65_58_9 : decode jdk_65_method_58_code 9 = .ok (.iload_n 2, 1) := by decide +kernel
theorem dj65_58_10 : decode jdk_65_method_58_code 10 = .ok (.iload_n 3, 1) := by decide +kernel
theorem dj65_58_11 : decode jdk_65_method_58_code 11 = .ok (.invokestatic 209, 3) := by decide +kernel
theorem pd__28_5bIIII_29I : parseMethodDescriptor "([IIII)I" = some ⟨[(.array .int), .int, .int, .int], some .int⟩ := by decide +kernel
theorem dj65_58_14 : decode jdk_65_method_58_code 14 = .ok (.ireturn, 1) := by decide +kernel
theorem ef_bsr (m : MethodId) (x0 : Addr) (x1 : Int32) (x2 : Int32) (x3 : Int32) : entryFrame m #[(.ref x0), (.int x1), (.int x2), (.int x3)] 4 = mkF m 0 #[sR x0, sI x1, sI x2, sI x3] [] := by (first | (simp [entryFrame, mkF, argsToLocals, Value.category]; done) | rfl)
def Q_bsr (pl : List Int32) (key : Int32) (h0 : Heap) (n0 : Nat) (v : Option Value) (h : Heap) (L : List Loc) : Prop := ∃ r : Int32, v = some (.int r) ∧ Fr n0 L ∧ h = h0 ∧ own_found pl key r
set_option maxRecDepth 65536 in
set_option maxHeartbeats 40000000 in
theorem rm_bsr (l : Launch) (Z : State) (a0 : Array Value) (hw : ∀ d ∈ tables_1, d.before a0 Z = true) (ws : List Jvm.Cond) (P : Addr) (kP : ClassId) (M : Int32) (pl ur : List Int32) (cn key : Int32) (h0 : Heap) (n0 : Nat) (Z0 : n0 ≤ h0.size) (AP : Arv Z h0 P kP .int M ((pl ++ ur).map Value.int) (.int (0 : Int32))) (hM : M = Int32.ofNat (pl ++ ur).length) (hm : (pl ++ ur).length ≤ 3) (hc : cn = Int32.ofNat pl.length) (hs : pl.Pairwise (· < ·)) :
    MetFree l (⟨"java/util/Arrays", "binarySearch", "([IIII)I"⟩ : MethodName) (head1 (Jvm.Cond.code (⟨"java/util/Arrays", "binarySearch", "([IIII)I"⟩ : MethodName) jdk_65_method_58_code 4 (some .int) :: ws) ({ frames := 1, cells := 0, slots := 0, locals := 19 } : Room)) (fun a U => a = #[(.ref P), (.int (0 : Int32)), (.int cn), (.int key)] ∧ Z.Warmed39 U.vm ∧ U.heap = h0) (fun _ _ _ _ _ => True) (fun _ U o U' => ∃ v L, o = .returned v ∧ Q_bsr pl key h0 n0 v U'.heap L ∧ FrameEnd U o U' L ({ frames := 1, cells := 0, slots := 0, locals := 19 } : Room).cells ({ frames := 1, cells := 0, slots := 0, locals := 19 } : Room).slots) := by
  refine MetFree.of_bodySF (plainFor_of_name pn_java_util_Arrays) hisR ?_
  intro p e s m args below meth c s₁ Bd hml0 hP hK
  obtain ⟨rfl, hZ, hh⟩ := hP
  have hx := Bd.exec
  have hby := Bd.bytes
  have hml : c.maxLocals = 4 := hml0
  have hown : s.vm.findClass "java/util/Arrays" = some m.cls := findClass_of_methodNamed Bd.named
  have hnm := (name_of_methodNamed Bd.named Bd.method).1
  have X0 : Stand p l e ({ frames := 1, cells := 0, slots := 0, locals := 19 } : Room) s m #[(.ref P), (.int (0 : Int32)), (.int cn), (.int key)] below meth c s₁ [] 0 0 := Stand.of_body Bd
  have e0 : s₁.heap = h0 := by rw [← hh, Bd.state]; rfl
  have N0 := Fr.nil n0
  have pre0 : ∀ t, Sg p e below (s₁.setTop (mkF m 0 #[sR P, sI 0, sI cn, sI key] [])) t → Steps p.tables e below (s₁.setTop (entryFrame m #[(.ref P), (.int (0 : Int32)), (.int cn), (.int key)] 4)) t := fun t k => castTop (ef_bsr m P (0 : Int32) cn key) k
  have P0 : ∀ t, Sg p e below (s₁.setTop (mkF m 0 #[sR P, sI 0, sI cn, sI key] [])) t → Sg p e below (s₁.setTop (mkF m 0 #[sR P, sI 0, sI cn, sI key] [])) t := fun t k => k
  obtain ⟨B0, pre0, P0⟩ : ∃ B : State, (∀ t, Steps p.tables e below B t → Steps p.tables e below (s₁.setTop (entryFrame m #[(.ref P), (.int (0 : Int32)), (.int cn), (.int key)] 4)) t) ∧ Rg p e below (s₁.setTop (mkF m 0 #[sR P, sI 0, sI cn, sI key] [])) B := ⟨_, pre0, P0⟩
  obtain ⟨cl535, Ar535, -, S535, N535, -, -⟩ := id AP
  obtain ⟨_, _, ⟨T536, L536, k536, n536⟩, -, X536, ⟨Lc536, hQ536, l536, y536, z536⟩, st536⟩ := Jvm.LawKit.callS X0 hx (y := (⟨"java/util/Arrays", "rangeCheck", "(III)V"⟩ : MethodName)) hown (mvT hZ (own_hw hw 56 rfl)) (mvT hZ (own_hw hw 57 rfl)) (mvT hZ (own_hw hw 54 rfl)) (mvT hZ (own_hw hw 58 rfl)) (by decide) (backOf (W := 0) (rm_rchk l Z a0 hw [] M cn h0 n0 Z0 (own_nneg hc (own_lle hm)) (own_nlt hM hc hm)) hZ (own_hw hw 58 rfl) (own_hw hw 54 rfl) (by decide) (by decide)) (g := (mkF m 4 #[sR P, sI 0, sI cn, sI key] [(.int cn), (.int (0 : Int32)), (.int M)])) rfl (by rw [hml]; rfl) (argsL := [(.int M), (.int (0 : Int32)), (.int cn)]) (rest := []) (lenOf pd__28III_29V rfl) rfl (by show 2 * 0 + _ ≤ _; exact Nat.le_of_eq rfl) (hb hby dj65_58_4) (fun _ _ => ⟨rfl, e0, (Nat.le_of_ble_eq_true rfl : 0 + 0 ≤ _), (Nat.le_of_ble_eq_true rfl : 0 + 0 ≤ _)⟩)
  dsimp only [Pt.U, Pt.locs, Pt.cells, Pt.slots] at X536 l536 y536 z536 st536 hQ536
  subst l536 y536 z536
  obtain ⟨rfl, Nq536, e536⟩ := hQ536
  have N537 := Fr.app N0 Nq536
  have P538 : Rg p e below (T536.setTop (mkF m 7 #[sR P, sI 0, sI cn, sI key] [])) B0 := fun t k => P0 t (by
    refine XS.aloadN X0.here hx rfl (hb hby dj65_58_0) rfl rfl ?_
    show Sg p e below (s₁.setTop (mkF m 1 #[sR P, sI 0, sI cn, sI key] [(.ref P)])) _
    refine X0.arraylength hx (by rw [e0]; exact Ar535.1) (State.isArrayOf_alike hZ.alike Ar535.2.1) (g := (mkF m 1 #[sR P, sI 0, sI cn, sI key] [(.ref P)])) rfl rfl (hb hby dj65_58_1) _ ?_
    rw [len_of S535 N535]
    show Sg p e below (s₁.setTop (mkF m 2 #[sR P, sI 0, sI cn, sI key] [(.int M)])) _
    refine XS.iloadN X0.here hx rfl (hb hby dj65_58_2) rfl ?_
    refine XS.iloadN X0.here hx rfl (hb hby dj65_58_3) rfl ?_
    show Sg p e below (s₁.setTop (mkF m 4 #[sR P, sI 0, sI cn, sI key] [(.int cn), (.int (0 : Int32)), (.int M)])) _
    exact st536 _ k)
  obtain ⟨_, _, ⟨T539, L539, k539, n539⟩, -, X539, ⟨Lc539, hQ539, l539, y539, z539⟩, st539⟩ := Jvm.LawKit.callS X536 hx (y := (⟨"java/util/Arrays", "binarySearch0", "([IIII)I"⟩ : MethodName)) hown (mvT hZ (own_hw hw 59 rfl)) (mvT hZ (own_hw hw 60 rfl)) (mvT hZ (own_hw hw 54 rfl)) (mvT hZ (own_hw hw 61 rfl)) (by decide) (backOf (W := 0) (rm_bs0 l Z a0 hw [] P kP M pl ur cn key h0 n0 Z0 AP hM hm hc hs) hZ (own_hw hw 61 rfl) (own_hw hw 54 rfl) (by decide) (by decide)) (g := (mkF m 11 #[sR P, sI 0, sI cn, sI key] [(.int key), (.int cn), (.int (0 : Int32)), (.ref P)])) rfl (by rw [hml]; rfl) (argsL := [(.ref P), (.int (0 : Int32)), (.int cn), (.int key)]) (rest := []) (lenOf pd__28_5bIIII_29I rfl) rfl (by show 2 * 0 + _ ≤ _; exact Nat.le_of_eq rfl) (hb hby dj65_58_11) (fun _ _ => ⟨rfl, e536, (Nat.le_of_ble_eq_true rfl : 0 + 0 ≤ _), (Nat.le_of_ble_eq_true rfl : 0 + 0 ≤ _)⟩)
  dsimp only [Pt.U, Pt.locs, Pt.cells, Pt.slots] at X539 l539 y539 z539 st539 hQ539
  subst l539 y539 z539
  obtain ⟨r539, rfl, Nq539, e539, hf539⟩ := hQ539
  have N540 := Fr.app N537 Nq539
  have P541 : Rg p e below (T539.setTop (mkF m 14 #[sR P, sI 0, sI cn, sI key] [(.int r539)])) B0 := fun t k => P538 t (by
    refine XS.aloadN X536.here hx rfl (hb hby dj65_58_7) rfl rfl ?_
    refine XS.iloadN X536.here hx rfl (hb hby dj65_58_8) rfl ?_
    refine XS.iloadN X536.here hx rfl (hb hby dj65_58_9) rfl ?_
    refine XS.iloadN X536.here hx rfl (hb hby dj65_58_10) rfl ?_
    show Sg p e below (T536.setTop (mkF m 11 #[sR P, sI 0, sI cn, sI key] [(.int key), (.int cn), (.int (0 : Int32)), (.ref P)])) _
    exact st539 _ k)
  obtain ⟨fs542, hr542, hrun542, hended542, hW542, hsame542⟩ := X539.leave (v := some (.int r539)) (fun h => by rw [Bd.returns] at h; cases h)
  refine ⟨_, _, pre0 _ (P541 _ ?_), hrun542, hended542, _, _, rfl, ?_, ⟨⟨_, rfl⟩, hW542, hsame542.mono (Nat.le_of_ble_eq_true rfl) (Nat.le_of_ble_eq_true rfl)⟩⟩
  · show Sg p e below (T539.setTop (mkF m 14 #[sR P, sI 0, sI cn, sI key] [(.int r539)])) _
    exact retI X539 hx Bd.returns (hb hby dj65_58_14) hr542
  · show Q_bsr pl key h0 n0 _ T539.heap _
    rw [e539]
    exact ⟨_, rfl, N540, rfl, hf539⟩
theorem dp23_4_0 : decode prog_23_method_4_code 0 = .ok (.aload_n 0, 1) := by decide +kernel
theorem dp23_4_1 : decode prog_23_method_4_code 1 = .ok (.getfield 7, 3) := by decide +kernel
theorem dp23_4_4 : decode prog_23_method_4_code 4 = .ok (.iconst 0, 1) := by decide +kernel
theorem dp23_4_5 : decode prog_23_method_4_code 5 = .ok (.aload_n 0, 1) := by decide +kernel
theorem dp23_4_6 : decode prog_23_method_4_code 6 = .ok (.getfield 25, 3) := by decide +kernel
theorem dp23_4_9 : decode prog_23_method_4_code 9 = .ok (.iload_n 1, 1) := by decide +kernel
theorem dp23_4_10 : decode prog_23_method_4_code 10 = .ok (.bipush 6, 2) := by decide +kernel
theorem dp23_4_12 : decode prog_23_method_4_code 12 = .ok (.iushr, 1) := by decide +kernel
theorem dp23_4_13 : decode prog_23_method_4_code 13 = .ok (.invokestatic 29, 3) := by decide +kernel
theorem dp23_4_16 : decode prog_23_method_4_code 16 = .ok (.istore_n 2, 1) := by decide +kernel
theorem dp23_4_17 : decode prog_23_method_4_code 17 = .ok (.iload_n 2, 1) := by decide +kernel
theorem dp23_4_18 : decode prog_23_method_4_code 18 = .ok (.ifCond .lt 19, 3) := by decide +kernel
theorem dp23_4_21 : decode prog_23_method_4_code 21 = .ok (.aload_n 0, 1) := by decide +kernel
theorem dp23_4_22 : decode prog_23_method_4_code 22 = .ok (.getfield 13, 3) := by decide +kernel
theorem dp23_4_25 : decode prog_23_method_4_code 25 = .ok (.iload_n 2, 1) := by decide +kernel
theorem dp23_4_26 : decode prog_23_method_4_code 26 = .ok (.dup2, 1) := by decide +kernel
theorem dp23_4_27 : decode prog_23_method_4_code 27 = .ok (.laload, 1) := by decide +kernel
theorem dp23_4_28 : decode prog_23_method_4_code 28 = .ok (.lconst 1, 1) := by decide +kernel
theorem dp23_4_29 : decode prog_23_method_4_code 29 = .ok (.iload_n 1, 1) := by decide +kernel
theorem dp23_4_30 : decode prog_23_method_4_code 30 = .ok (.lshl, 1) := by decide +kernel
theorem dp23_4_31 : decode prog_23_method_4_code 31 = .ok (.ldc2_w 35, 3) := by decide +kernel
theorem dp23_4_34 : decode prog_23_method_4_code 34 = .ok (.lxor, 1) := by decide +kernel
theorem dp23_4_35 : decode prog_23_method_4_code 35 = .ok (.land, 1) := by decide +kernel
theorem dp23_4_36 : decode prog_23_method_4_code 36 = .ok (.lastore, 1) := by decide +kernel
theorem dp23_4_37 : decode prog_23_method_4_code 37 = .ok (.return_, 1) := by decide +kernel
theorem ef_rmv (m : MethodId) (x0 : Addr) (x1 : Int32) : entryFrame m #[(.ref x0), (.int x1)] 3 = mkF m 0 #[sR x0, sI x1, sU] [] := by (first | (simp [entryFrame, mkF, argsToLocals, Value.category]; done) | rfl)
def Q_rmv (Z : State) (W : Addr) (kW : ClassId) (M : Int32) (pl : List Int32) (wv vr : List Int64) (mm : Int32) (h0 : Heap) (n0 : Nat) (v : Option Value) (h : Heap) (L : List Loc) : Prop := v = none ∧ Fr n0 L ∧ Keep h0 h [W] ∧ Arv Z h W kW .long M ((own_rem pl wv mm ++ vr).map Value.long) (.long (0 : Int64))
set_option maxRecDepth 65536 in
set_option maxHeartbeats 40000000 in
theorem rm_rmv (l : Launch) (Z : State) (a0 : Array Value) (hw : ∀ d ∈ tables_1, d.before a0 Z = true) (ws : List Jvm.Cond) (a1 P W : Addr) (kP kW : ClassId) (M : Int32) (pl ur : List Int32) (wv vr : List Int64) (cn : Int32) (mm : Int32) (h0 : Heap) (n0 : Nat) (Z0 : n0 ≤ h0.size) (g_a1 : n0 ≤ a1) (g_P : n0 ≤ P) (g_W : n0 ≤ W) (E1 : Exa Z h0 a1 sM) (EP : Exa Z h0 P "[I") (EW1 : Exa Z h0 W "[J") (Fp : Fld Z h0 a1 sM "places" "[I" (.ref P)) (Fw : Fld Z h0 a1 sM "words" "[J" (.ref W)) (Fc : Fld Z h0 a1 sM "count" "I" (.int cn)) (AP : Arv Z h0 P kP .int M ((pl ++ ur).map Value.int) (.int (0 : Int32))) (AW : Arv Z h0 W kW .long M ((wv ++ vr).map Value.long) (.long (0 : Int64))) (hM : M = Int32.ofNat (pl ++ ur).length) (hm : (pl ++ ur).length ≤ 3) (hc : cn = Int32.ofNat pl.length) (hl : wv.length = pl.length) (hv : vr.length = ur.length) (hs : pl.Pairwise (· < ·)) :
    MetFree l (⟨"com/example/whittle/whittle/engine/WordSets$Meet", "remove", "(I)V"⟩ : MethodName) (head1 (Jvm.Cond.code (⟨"com/example/whittle/whittle/engine/WordSets$Meet", "remove", "(I)V"⟩ : MethodName) prog_23_method_4_code 3 none :: ws) ({ frames := 2, cells := 0, slots := 0, locals := 34 } : Room)) (fun a U => a = #[(.ref a1), (.int mm)] ∧ Z.Warmed39 U.vm ∧ U.heap = h0) (fun _ _ _ _ _ => True) (fun _ U o U' => ∃ v L, o = .returned v ∧ Q_rmv Z W kW M pl wv vr mm h0 n0 v U'.heap L ∧ FrameEnd U o U' L ({ frames := 2, cells := 0, slots := 0, locals := 34 } : Room).cells ({ frames := 2, cells := 0, slots := 0, locals := 34 } : Room).slots) := by
  refine MetFree.of_bodySF (plainFor_of_name pn_com_example_whittle_whittle_engine_WordSets_Meet) hisR ?_
  intro p e s m args below meth c s₁ Bd hml0 hP hK
  obtain ⟨rfl, hZ, hh⟩ := hP
  have hx := Bd.exec
  have hby := Bd.bytes
  have hml : c.maxLocals = 3 := hml0
  have hown : s.vm.findClass "com/example/whittle/whittle/engine/WordSets$Meet" = some m.cls := findClass_of_methodNamed Bd.named
  have hnm := (name_of_methodNamed Bd.named Bd.method).1
  have X0 : Stand p l e ({ frames := 2, cells := 0, slots := 0, locals := 34 } : Room) s m #[(.ref a1), (.int mm)] below meth c s₁ [] 0 0 := Stand.of_body Bd
  have e0 : s₁.heap = h0 := by rw [← hh, Bd.state]; rfl
  have N0 := Fr.nil n0
  have pre0 : ∀ t, Sg p e below (s₁.setTop (mkF m 0 #[sR a1, sI mm, sU] [])) t → Steps p.tables e below (s₁.setTop (entryFrame m #[(.ref a1), (.int mm)] 3)) t := fun t k => castTop (ef_rmv m a1 mm) k
  have P0 : ∀ t, Sg p e below (s₁.setTop (mkF m 0 #[sR a1, sI mm, sU] [])) t → Sg p e below (s₁.setTop (mkF m 0 #[sR a1, sI mm, sU] [])) t := fun t k => k
  obtain ⟨B0, pre0, P0⟩ : ∃ B : State, (∀ t, Steps p.tables e below B t → Steps p.tables e below (s₁.setTop (entryFrame m #[(.ref a1), (.int mm)] 3)) t) ∧ Rg p e below (s₁.setTop (mkF m 0 #[sR a1, sI mm, sU] [])) B := ⟨_, pre0, P0⟩
  obtain ⟨T543, X543, e543, st543⟩ := getF X0 hx hZ hown (host := "") (Or.inl (own_hw hw 34 rfl)) Via.refl e0 Fp (g := (mkF m 1 #[sR a1, sI mm, sU] [(.ref a1)])) rfl rfl (hb hby dp23_4_1)
  have P544 : Rg p e below (T543.setTop (mkF m 4 #[sR a1, sI mm, sU] [(.ref P)])) B0 := fun t k => P0 t (by
    refine XS.aloadN X0.here hx rfl (hb hby dp23_4_0) rfl rfl ?_
    show Sg p e below (s₁.setTop (mkF m 1 #[sR a1, sI mm, sU] [(.ref a1)])) _
    exact st543 _ k)
  obtain ⟨T545, X545, e545, st545⟩ := getF X543 hx hZ hown (host := "") (Or.inl (own_hw hw 45 rfl)) Via.refl e543 Fc (g := (mkF m 6 #[sR a1, sI mm, sU] [(.ref a1), (.int (0 : Int32)), (.ref P)])) rfl rfl (hb hby dp23_4_6)
  have P546 : Rg p e below (T545.setTop (mkF m 9 #[sR a1, sI mm, sU] [(.int cn), (.int (0 : Int32)), (.ref P)])) B0 := fun t k => P544 t (by
    refine XS.iconst X543.here hx rfl (hb hby dp23_4_4) ?_
    refine XS.aloadN X543.here hx rfl (hb hby dp23_4_5) rfl rfl ?_
    show Sg p e below (T543.setTop (mkF m 6 #[sR a1, sI mm, sU] [(.ref a1), (.int (0 : Int32)), (.ref P)])) _
    exact st545 _ k)
  obtain ⟨_, _, ⟨T547, L547, k547, n547⟩, -, X547, ⟨Lc547, hQ547, l547, y547, z547⟩, st547⟩ := Jvm.LawKit.callS X545 hx (y := (⟨"java/util/Arrays", "binarySearch", "([IIII)I"⟩ : MethodName)) hown (mvT hZ (own_hw hw 52 rfl)) (mvT hZ (own_hw hw 53 rfl)) (mvT hZ (own_hw hw 54 rfl)) (mvT hZ (own_hw hw 55 rfl)) (by decide) (backOf (W := 0) (rm_bsr l Z a0 hw [] P kP M pl ur cn ((mm.toUInt32 >>> ((6 : Int32) &&& 31).toUInt32).toInt32) h0 n0 Z0 AP hM hm hc hs) hZ (own_hw hw 55 rfl) (own_hw hw 54 rfl) (by decide) (by decide)) (g := (mkF m 13 #[sR a1, sI mm, sU] [(.int ((mm.toUInt32 >>> ((6 : Int32) &&& 31).toUInt32).toInt32)), (.int cn), (.int (0 : Int32)), (.ref P)])) rfl (by rw [hml]; rfl) (argsL := [(.ref P), (.int (0 : Int32)), (.int cn), (.int ((mm.toUInt32 >>> ((6 : Int32) &&& 31).toUInt32).toInt32))]) (rest := []) (lenOf pd__28_5bIIII_29I rfl) rfl (by show 2 * 0 + _ ≤ _; exact Nat.le_of_eq rfl) (hb hby dp23_4_13) (fun _ _ => ⟨rfl, e545, (Nat.le_of_ble_eq_true rfl : 0 + 0 ≤ _), (Nat.le_of_ble_eq_true rfl : 0 + 0 ≤ _)⟩)
  dsimp only [Pt.U, Pt.locs, Pt.cells, Pt.slots] at X547 l547 y547 z547 st547 hQ547
  subst l547 y547 z547
  obtain ⟨r547, rfl, Nq547, e547, hf547⟩ := hQ547
  have N548 := Fr.app N0 Nq547
  have P549 : Rg p e below (T547.setTop (mkF m 16 #[sR a1, sI mm, sU] [(.int r547)])) B0 := fun t k => P546 t (by
    refine XS.iloadN X545.here hx rfl (hb hby dp23_4_9) rfl ?_
    refine XS.bipush X545.here hx rfl (hb hby dp23_4_10) ?_
    refine XS.iushr X545.here hx rfl (hb hby dp23_4_12) rfl ?_
    show Sg p e below (T545.setTop (mkF m 13 #[sR a1, sI mm, sU] [(.int ((mm.toUInt32 >>> ((6 : Int32) &&& 31).toUInt32).toInt32)), (.int cn), (.int (0 : Int32)), (.ref P)])) _
    exact st547 _ k)
  rcases hf547 with ⟨i, hi, hr, hk⟩ | ⟨hneg, hni⟩
  · skip
    have hlen : pl.length ≤ 3 := by simp at hm; omega
    rcases pl with _ | ⟨x0, _ | ⟨x1, _ | ⟨x2, _ | ⟨x3, pl⟩⟩⟩⟩
    · skip
      exact absurd hi (Nat.not_lt_zero _)
    · skip
      obtain ⟨y0, rfl⟩ := own_len1 hl
      have hi' : i = 0 := by simp only [List.length_cons, List.length_nil] at hi; omega
      rcases hi' with rfl
      · skip
        have hr' : r547 = (0 : Int32) := hr
        subst hr'
        have hk' : x0 = own_sh mm := Option.some.inj hk
        have hq : ∀ z : Int64, own_rem [x0] [y0] mm = [y0 &&& (own_bit mm ^^^ (-1))] := fun _ => by simp only [own_rem]; rw [if_pos hk']
        obtain ⟨T550, X550, e550, st550⟩ := getF X547 hx hZ hown (host := "") (Or.inl (own_hw hw 36 rfl)) Via.refl e547 Fw (g := (mkF m 22 #[sR a1, sI mm, sI 0] [(.ref a1)])) rfl rfl (hb hby dp23_4_22)
        have P551 : Rg p e below (T550.setTop (mkF m 25 #[sR a1, sI mm, sI 0] [(.ref W)])) B0 := fun t k => P549 t (by
          refine XS.istoreN X547.here hx rfl (hb hby dp23_4_16) rfl (l' := #[sR a1, sI mm, sI 0]) rfl ?_
          refine XS.iloadN X547.here hx rfl (hb hby dp23_4_17) rfl ?_
          refine XS.ifNo X547.here hx rfl (hb hby dp23_4_18) rfl ((if0 _ _).trans (flt (show ¬ ((0 : Int32) < (0 : Int32)) from (by decide))).1) ?_
          refine XS.aloadN X547.here hx rfl (hb hby dp23_4_21) rfl rfl ?_
          show Sg p e below (T547.setTop (mkF m 22 #[sR a1, sI mm, sI 0] [(.ref a1)])) _
          exact st550 _ k)
        obtain ⟨cl552, Ar552, -, S552, N552, H552, -⟩ := id AW
        have hin552 : ¬ ((0 : Int32) < 0 ∨ cl552.slots.size ≤ ((0 : Int32)).toNatClampNeg) := inb_of S552 (own_inb (own_hM2 hM hl hv) (k := 0) (by simp) (own_hm2 hm hl hv))
        obtain ⟨cl553, Ar553, q553, S553, N553, H553, G553⟩ := id AW
        obtain ⟨T553, h553, X553, e553, W553, st553⟩ := stJ X550 hx hZ e550 Ar553 (j := (0 : Int32)) (inb_of S553 (own_inb (own_hM2 hM hl hv) (k := 0) (by simp) (own_hm2 hm hl hv))) (g := (mkF m 36 #[sR a1, sI mm, sI 0] [(.long (y0 &&& (((1 : Int64) <<< (mm &&& 0x3f).toInt64) ^^^ (-1 : Int64)))), (.int (0 : Int32)), (.ref W)])) rfl rfl (hb hby dp23_4_36)
        have v554 : Arv Z h553 W kW .long M (([(y0 &&& (((1 : Int64) <<< (mm &&& 0x3f).toInt64) ^^^ (-1 : Int64)))] ++ vr).map Value.long) (.long (0 : Int64)) := Arv.set Ar553 q553 S553 N553 H553 G553 rfl W553 0 rfl (by simp)
        have P555 : Rg p e below (T553.setTop (mkF m 37 #[sR a1, sI mm, sI 0] [])) B0 := fun t k => P551 t (by
          refine XS.iloadN X550.here hx rfl (hb hby dp23_4_25) rfl ?_
          refine XT.dup2 X550.here hx rfl (hb hby dp23_4_26) rfl rfl rfl ?_
          show Sg p e below (T550.setTop (mkF m 27 #[sR a1, sI mm, sI 0] [(.int (0 : Int32)), (.ref W), (.int (0 : Int32)), (.ref W)])) _
          refine X550.laload hx (j := (0 : Int32)) (v := (.long y0)) (by rw [e550]; exact Ar552.1) (State.isArrayOf_alike hZ.alike Ar552.2.1) Ar552.2.2 hin552 (H552.at hin552 rfl) (g := (mkF m 27 #[sR a1, sI mm, sI 0] [(.int (0 : Int32)), (.ref W), (.int (0 : Int32)), (.ref W)])) rfl rfl (hb hby dp23_4_27) _ ?_
          show Sg p e below (T550.setTop (mkF m 28 #[sR a1, sI mm, sI 0] [(.long y0), (.int (0 : Int32)), (.ref W)])) _
          refine XS.lconst X550.here hx rfl (hb hby dp23_4_28) ?_
          refine XS.iloadN X550.here hx rfl (hb hby dp23_4_29) rfl ?_
          refine XS.lshl X550.here hx rfl (hb hby dp23_4_30) rfl ?_
          show Sg p e below (T550.setTop (mkF m 31 #[sR a1, sI mm, sI 0] [(.long ((1 : Int64) <<< (mm &&& 0x3f).toInt64)), (.long y0), (.int (0 : Int32)), (.ref W)])) _
          refine X550.ldc2Long hx hown (mvT hZ (own_hw hw 62 rfl)) (g := (mkF m 31 #[sR a1, sI mm, sI 0] [(.long ((1 : Int64) <<< (mm &&& 0x3f).toInt64)), (.long y0), (.int (0 : Int32)), (.ref W)])) rfl (hb hby dp23_4_31) _ ?_
          show Sg p e below (T550.setTop (mkF m 34 #[sR a1, sI mm, sI 0] [(.long (-1 : Int64)), (.long ((1 : Int64) <<< (mm &&& 0x3f).toInt64)), (.long y0), (.int (0 : Int32)), (.ref W)])) _
          refine XS.lxor X550.here hx rfl (hb hby dp23_4_34) rfl ?_
          refine XS.land X550.here hx rfl (hb hby dp23_4_35) rfl ?_
          show Sg p e below (T550.setTop (mkF m 36 #[sR a1, sI mm, sI 0] [(.long (y0 &&& (((1 : Int64) <<< (mm &&& 0x3f).toInt64) ^^^ (-1 : Int64)))), (.int (0 : Int32)), (.ref W)])) _
          exact st553 _ k)
        have N556 := Fr.snoc X553 N548 g_W
        have Z557 : n0 ≤ h553.size := Nat.le_trans Z0 (Keep.of_wr W553).1
        have K558 : Keep h0 h553 [W] := (Keep.refl h0 [W]).wr W553 (Or.inl (List.mem_of_getElem? (i := 0) rfl))
        obtain ⟨fs559, hr559, hrun559, hended559, hW559, hsame559⟩ := X553.leave (v := none) (fun _ => rfl)
        refine ⟨_, _, pre0 _ (P555 _ ?_), hrun559, hended559, _, _, rfl, ?_, ⟨⟨_, rfl⟩, hW559, hsame559.mono (Nat.le_of_ble_eq_true rfl) (Nat.le_of_ble_eq_true rfl)⟩⟩
        · show Sg p e below (T553.setTop (mkF m 37 #[sR a1, sI mm, sI 0] [])) _
          exact X553.returnOut hx Bd.returns (hb hby dp23_4_37) hr559
        · show Q_rmv Z W kW M [x0] [y0] vr mm h0 n0 _ T553.heap _
          rw [e553]
          exact ⟨rfl, N556, K558, by rw [hq 0]; exact v554⟩
    · skip
      obtain ⟨y0, y1, rfl⟩ := own_len2 hl
      have hs01 := Int32.lt_iff_toInt_lt.mp (own_p2 hs)
      have hi' : i = 0 ∨ i = 1 := by simp only [List.length_cons, List.length_nil] at hi; omega
      rcases hi' with rfl | rfl
      · skip
        have hr' : r547 = (0 : Int32) := hr
        subst hr'
        have hk' : x0 = own_sh mm := Option.some.inj hk
        have hn1 : ¬ x1 = own_sh mm := fun e => by (have e' := congrArg Int32.toInt (e.trans hk'.symm); omega)
        have hq : ∀ z : Int64, own_rem [x0, x1] [y0, y1] mm = [y0 &&& (own_bit mm ^^^ (-1)), y1] := fun _ => by simp only [own_rem]; rw [if_pos hk', if_neg hn1]
        obtain ⟨T560, X560, e560, st560⟩ := getF X547 hx hZ hown (host := "") (Or.inl (own_hw hw 36 rfl)) Via.refl e547 Fw (g := (mkF m 22 #[sR a1, sI mm, sI 0] [(.ref a1)])) rfl rfl (hb hby dp23_4_22)
        have P561 : Rg p e below (T560.setTop (mkF m 25 #[sR a1, sI mm, sI 0] [(.ref W)])) B0 := fun t k => P549 t (by
          refine XS.istoreN X547.here hx rfl (hb hby dp23_4_16) rfl (l' := #[sR a1, sI mm, sI 0]) rfl ?_
          refine XS.iloadN X547.here hx rfl (hb hby dp23_4_17) rfl ?_
          refine XS.ifNo X547.here hx rfl (hb hby dp23_4_18) rfl ((if0 _ _).trans (flt (show ¬ ((0 : Int32) < (0 : Int32)) from (by decide))).1) ?_
          refine XS.aloadN X547.here hx rfl (hb hby dp23_4_21) rfl rfl ?_
          show Sg p e below (T547.setTop (mkF m 22 #[sR a1, sI mm, sI 0] [(.ref a1)])) _
          exact st560 _ k)
        obtain ⟨cl562, Ar562, -, S562, N562, H562, -⟩ := id AW
        have hin562 : ¬ ((0 : Int32) < 0 ∨ cl562.slots.size ≤ ((0 : Int32)).toNatClampNeg) := inb_of S562 (own_inb (own_hM2 hM hl hv) (k := 0) (by simp) (own_hm2 hm hl hv))
        obtain ⟨cl563, Ar563, q563, S563, N563, H563, G563⟩ := id AW
        obtain ⟨T563, h563, X563, e563, W563, st563⟩ := stJ X560 hx hZ e560 Ar563 (j := (0 : Int32)) (inb_of S563 (own_inb (own_hM2 hM hl hv) (k := 0) (by simp) (own_hm2 hm hl hv))) (g := (mkF m 36 #[sR a1, sI mm, sI 0] [(.long (y0 &&& (((1 : Int64) <<< (mm &&& 0x3f).toInt64) ^^^ (-1 : Int64)))), (.int (0 : Int32)), (.ref W)])) rfl rfl (hb hby dp23_4_36)
        have v564 : Arv Z h563 W kW .long M (([(y0 &&& (((1 : Int64) <<< (mm &&& 0x3f).toInt64) ^^^ (-1 : Int64))), y1] ++ vr).map Value.long) (.long (0 : Int64)) := Arv.set Ar563 q563 S563 N563 H563 G563 rfl W563 0 rfl (by simp)
        have P565 : Rg p e below (T563.setTop (mkF m 37 #[sR a1, sI mm, sI 0] [])) B0 := fun t k => P561 t (by
          refine XS.iloadN X560.here hx rfl (hb hby dp23_4_25) rfl ?_
          refine XT.dup2 X560.here hx rfl (hb hby dp23_4_26) rfl rfl rfl ?_
          show Sg p e below (T560.setTop (mkF m 27 #[sR a1, sI mm, sI 0] [(.int (0 : Int32)), (.ref W), (.int (0 : Int32)), (.ref W)])) _
          refine X560.laload hx (j := (0 : Int32)) (v := (.long y0)) (by rw [e560]; exact Ar562.1) (State.isArrayOf_alike hZ.alike Ar562.2.1) Ar562.2.2 hin562 (H562.at hin562 rfl) (g := (mkF m 27 #[sR a1, sI mm, sI 0] [(.int (0 : Int32)), (.ref W), (.int (0 : Int32)), (.ref W)])) rfl rfl (hb hby dp23_4_27) _ ?_
          show Sg p e below (T560.setTop (mkF m 28 #[sR a1, sI mm, sI 0] [(.long y0), (.int (0 : Int32)), (.ref W)])) _
          refine XS.lconst X560.here hx rfl (hb hby dp23_4_28) ?_
          refine XS.iloadN X560.here hx rfl (hb hby dp23_4_29) rfl ?_
          refine XS.lshl X560.here hx rfl (hb hby dp23_4_30) rfl ?_
          show Sg p e below (T560.setTop (mkF m 31 #[sR a1, sI mm, sI 0] [(.long ((1 : Int64) <<< (mm &&& 0x3f).toInt64)), (.long y0), (.int (0 : Int32)), (.ref W)])) _
          refine X560.ldc2Long hx hown (mvT hZ (own_hw hw 62 rfl)) (g := (mkF m 31 #[sR a1, sI mm, sI 0] [(.long ((1 : Int64) <<< (mm &&& 0x3f).toInt64)), (.long y0), (.int (0 : Int32)), (.ref W)])) rfl (hb hby dp23_4_31) _ ?_
          show Sg p e below (T560.setTop (mkF m 34 #[sR a1, sI mm, sI 0] [(.long (-1 : Int64)), (.long ((1 : Int64) <<< (mm &&& 0x3f).toInt64)), (.long y0), (.int (0 : Int32)), (.ref W)])) _
          refine XS.lxor X560.here hx rfl (hb hby dp23_4_34) rfl ?_
          refine XS.land X560.here hx rfl (hb hby dp23_4_35) rfl ?_
          show Sg p e below (T560.setTop (mkF m 36 #[sR a1, sI mm, sI 0] [(.long (y0 &&& (((1 : Int64) <<< (mm &&& 0x3f).toInt64) ^^^ (-1 : Int64)))), (.int (0 : Int32)), (.ref W)])) _
          exact st563 _ k)
        have N566 := Fr.snoc X563 N548 g_W
        have Z567 : n0 ≤ h563.size := Nat.le_trans Z0 (Keep.of_wr W563).1
        have K568 : Keep h0 h563 [W] := (Keep.refl h0 [W]).wr W563 (Or.inl (List.mem_of_getElem? (i := 0) rfl))
        obtain ⟨fs569, hr569, hrun569, hended569, hW569, hsame569⟩ := X563.leave (v := none) (fun _ => rfl)
        refine ⟨_, _, pre0 _ (P565 _ ?_), hrun569, hended569, _, _, rfl, ?_, ⟨⟨_, rfl⟩, hW569, hsame569.mono (Nat.le_of_ble_eq_true rfl) (Nat.le_of_ble_eq_true rfl)⟩⟩
        · show Sg p e below (T563.setTop (mkF m 37 #[sR a1, sI mm, sI 0] [])) _
          exact X563.returnOut hx Bd.returns (hb hby dp23_4_37) hr569
        · show Q_rmv Z W kW M [x0, x1] [y0, y1] vr mm h0 n0 _ T563.heap _
          rw [e563]
          exact ⟨rfl, N566, K568, by rw [hq 0]; exact v564⟩
      · skip
        have hr' : r547 = (1 : Int32) := hr
        subst hr'
        have hk' : x1 = own_sh mm := Option.some.inj hk
        have hn0 : ¬ x0 = own_sh mm := fun e => by (have e' := congrArg Int32.toInt (e.trans hk'.symm); omega)
        have hq : ∀ z : Int64, own_rem [x0, x1] [y0, y1] mm = [y0, y1 &&& (own_bit mm ^^^ (-1))] := fun _ => by simp only [own_rem]; rw [if_neg hn0, if_pos hk']
        obtain ⟨T570, X570, e570, st570⟩ := getF X547 hx hZ hown (host := "") (Or.inl (own_hw hw 36 rfl)) Via.refl e547 Fw (g := (mkF m 22 #[sR a1, sI mm, sI 1] [(.ref a1)])) rfl rfl (hb hby dp23_4_22)
        have P571 : Rg p e below (T570.setTop (mkF m 25 #[sR a1, sI mm, sI 1] [(.ref W)])) B0 := fun t k => P549 t (by
          refine XS.istoreN X547.here hx rfl (hb hby dp23_4_16) rfl (l' := #[sR a1, sI mm, sI 1]) rfl ?_
          refine XS.iloadN X547.here hx rfl (hb hby dp23_4_17) rfl ?_
          refine XS.ifNo X547.here hx rfl (hb hby dp23_4_18) rfl ((if0 _ _).trans (flt (show ¬ ((1 : Int32) < (0 : Int32)) from (by decide))).1) ?_
          refine XS.aloadN X547.here hx rfl (hb hby dp23_4_21) rfl rfl ?_
          show Sg p e below (T547.setTop (mkF m 22 #[sR a1, sI mm, sI 1] [(.ref a1)])) _
          exact st570 _ k)
        obtain ⟨cl572, Ar572, -, S572, N572, H572, -⟩ := id AW
        have hin572 : ¬ ((1 : Int32) < 0 ∨ cl572.slots.size ≤ ((1 : Int32)).toNatClampNeg) := inb_of S572 (own_inb (own_hM2 hM hl hv) (k := 1) (by simp) (own_hm2 hm hl hv))
        obtain ⟨cl573, Ar573, q573, S573, N573, H573, G573⟩ := id AW
        obtain ⟨T573, h573, X573, e573, W573, st573⟩ := stJ X570 hx hZ e570 Ar573 (j := (1 : Int32)) (inb_of S573 (own_inb (own_hM2 hM hl hv) (k := 1) (by simp) (own_hm2 hm hl hv))) (g := (mkF m 36 #[sR a1, sI mm, sI 1] [(.long (y1 &&& (((1 : Int64) <<< (mm &&& 0x3f).toInt64) ^^^ (-1 : Int64)))), (.int (1 : Int32)), (.ref W)])) rfl rfl (hb hby dp23_4_36)
        have v574 : Arv Z h573 W kW .long M (([y0, (y1 &&& (((1 : Int64) <<< (mm &&& 0x3f).toInt64) ^^^ (-1 : Int64)))] ++ vr).map Value.long) (.long (0 : Int64)) := Arv.set Ar573 q573 S573 N573 H573 G573 rfl W573 1 rfl (by simp)
        have P575 : Rg p e below (T573.setTop (mkF m 37 #[sR a1, sI mm, sI 1] [])) B0 := fun t k => P571 t (by
          refine XS.iloadN X570.here hx rfl (hb hby dp23_4_25) rfl ?_
          refine XT.dup2 X570.here hx rfl (hb hby dp23_4_26) rfl rfl rfl ?_
          show Sg p e below (T570.setTop (mkF m 27 #[sR a1, sI mm, sI 1] [(.int (1 : Int32)), (.ref W), (.int (1 : Int32)), (.ref W)])) _
          refine X570.laload hx (j := (1 : Int32)) (v := (.long y1)) (by rw [e570]; exact Ar572.1) (State.isArrayOf_alike hZ.alike Ar572.2.1) Ar572.2.2 hin572 (H572.at hin572 rfl) (g := (mkF m 27 #[sR a1, sI mm, sI 1] [(.int (1 : Int32)), (.ref W), (.int (1 : Int32)), (.ref W)])) rfl rfl (hb hby dp23_4_27) _ ?_
          show Sg p e below (T570.setTop (mkF m 28 #[sR a1, sI mm, sI 1] [(.long y1), (.int (1 : Int32)), (.ref W)])) _
          refine XS.lconst X570.here hx rfl (hb hby dp23_4_28) ?_
          refine XS.iloadN X570.here hx rfl (hb hby dp23_4_29) rfl ?_
          refine XS.lshl X570.here hx rfl (hb hby dp23_4_30) rfl ?_
          show Sg p e below (T570.setTop (mkF m 31 #[sR a1, sI mm, sI 1] [(.long ((1 : Int64) <<< (mm &&& 0x3f).toInt64)), (.long y1), (.int (1 : Int32)), (.ref W)])) _
          refine X570.ldc2Long hx hown (mvT hZ (own_hw hw 62 rfl)) (g := (mkF m 31 #[sR a1, sI mm, sI 1] [(.long ((1 : Int64) <<< (mm &&& 0x3f).toInt64)), (.long y1), (.int (1 : Int32)), (.ref W)])) rfl (hb hby dp23_4_31) _ ?_
          show Sg p e below (T570.setTop (mkF m 34 #[sR a1, sI mm, sI 1] [(.long (-1 : Int64)), (.long ((1 : Int64) <<< (mm &&& 0x3f).toInt64)), (.long y1), (.int (1 : Int32)), (.ref W)])) _
          refine XS.lxor X570.here hx rfl (hb hby dp23_4_34) rfl ?_
          refine XS.land X570.here hx rfl (hb hby dp23_4_35) rfl ?_
          show Sg p e below (T570.setTop (mkF m 36 #[sR a1, sI mm, sI 1] [(.long (y1 &&& (((1 : Int64) <<< (mm &&& 0x3f).toInt64) ^^^ (-1 : Int64)))), (.int (1 : Int32)), (.ref W)])) _
          exact st573 _ k)
        have N576 := Fr.snoc X573 N548 g_W
        have Z577 : n0 ≤ h573.size := Nat.le_trans Z0 (Keep.of_wr W573).1
        have K578 : Keep h0 h573 [W] := (Keep.refl h0 [W]).wr W573 (Or.inl (List.mem_of_getElem? (i := 0) rfl))
        obtain ⟨fs579, hr579, hrun579, hended579, hW579, hsame579⟩ := X573.leave (v := none) (fun _ => rfl)
        refine ⟨_, _, pre0 _ (P575 _ ?_), hrun579, hended579, _, _, rfl, ?_, ⟨⟨_, rfl⟩, hW579, hsame579.mono (Nat.le_of_ble_eq_true rfl) (Nat.le_of_ble_eq_true rfl)⟩⟩
        · show Sg p e below (T573.setTop (mkF m 37 #[sR a1, sI mm, sI 1] [])) _
          exact X573.returnOut hx Bd.returns (hb hby dp23_4_37) hr579
        · show Q_rmv Z W kW M [x0, x1] [y0, y1] vr mm h0 n0 _ T573.heap _
          rw [e573]
          exact ⟨rfl, N576, K578, by rw [hq 0]; exact v574⟩
    · skip
      obtain ⟨y0, y1, y2, rfl⟩ := own_len3 hl
      obtain ⟨hs01', hs12'⟩ := own_p3 hs
      have hs01 := Int32.lt_iff_toInt_lt.mp hs01'
      have hs12 := Int32.lt_iff_toInt_lt.mp hs12'
      have hi' : i = 0 ∨ i = 1 ∨ i = 2 := by simp only [List.length_cons, List.length_nil] at hi; omega
      rcases hi' with rfl | rfl | rfl
      · skip
        have hr' : r547 = (0 : Int32) := hr
        subst hr'
        have hk' : x0 = own_sh mm := Option.some.inj hk
        have hn1 : ¬ x1 = own_sh mm := fun e => by (have e' := congrArg Int32.toInt (e.trans hk'.symm); omega)
        have hn2 : ¬ x2 = own_sh mm := fun e => by (have e' := congrArg Int32.toInt (e.trans hk'.symm); omega)
        have hq : ∀ z : Int64, own_rem [x0, x1, x2] [y0, y1, y2] mm = [y0 &&& (own_bit mm ^^^ (-1)), y1, y2] := fun _ => by simp only [own_rem]; rw [if_pos hk', if_neg hn1, if_neg hn2]
        obtain ⟨T580, X580, e580, st580⟩ := getF X547 hx hZ hown (host := "") (Or.inl (own_hw hw 36 rfl)) Via.refl e547 Fw (g := (mkF m 22 #[sR a1, sI mm, sI 0] [(.ref a1)])) rfl rfl (hb hby dp23_4_22)
        have P581 : Rg p e below (T580.setTop (mkF m 25 #[sR a1, sI mm, sI 0] [(.ref W)])) B0 := fun t k => P549 t (by
          refine XS.istoreN X547.here hx rfl (hb hby dp23_4_16) rfl (l' := #[sR a1, sI mm, sI 0]) rfl ?_
          refine XS.iloadN X547.here hx rfl (hb hby dp23_4_17) rfl ?_
          refine XS.ifNo X547.here hx rfl (hb hby dp23_4_18) rfl ((if0 _ _).trans (flt (show ¬ ((0 : Int32) < (0 : Int32)) from (by decide))).1) ?_
          refine XS.aloadN X547.here hx rfl (hb hby dp23_4_21) rfl rfl ?_
          show Sg p e below (T547.setTop (mkF m 22 #[sR a1, sI mm, sI 0] [(.ref a1)])) _
          exact st580 _ k)
        obtain ⟨cl582, Ar582, -, S582, N582, H582, -⟩ := id AW
        have hin582 : ¬ ((0 : Int32) < 0 ∨ cl582.slots.size ≤ ((0 : Int32)).toNatClampNeg) := inb_of S582 (own_inb (own_hM2 hM hl hv) (k := 0) (by simp) (own_hm2 hm hl hv))
        obtain ⟨cl583, Ar583, q583, S583, N583, H583, G583⟩ := id AW
        obtain ⟨T583, h583, X583, e583, W583, st583⟩ := stJ X580 hx hZ e580 Ar583 (j := (0 : Int32)) (inb_of S583 (own_inb (own_hM2 hM hl hv) (k := 0) (by simp) (own_hm2 hm hl hv))) (g := (mkF m 36 #[sR a1, sI mm, sI 0] [(.long (y0 &&& (((1 : Int64) <<< (mm &&& 0x3f).toInt64) ^^^ (-1 : Int64)))), (.int (0 : Int32)), (.ref W)])) rfl rfl (hb hby dp23_4_36)
        have v584 : Arv Z h583 W kW .long M (([(y0 &&& (((1 : Int64) <<< (mm &&& 0x3f).toInt64) ^^^ (-1 : Int64))), y1, y2] ++ vr).map Value.long) (.long (0 : Int64)) := Arv.set Ar583 q583 S583 N583 H583 G583 rfl W583 0 rfl (by simp)
        have P585 : Rg p e below (T583.setTop (mkF m 37 #[sR a1, sI mm, sI 0] [])) B0 := fun t k => P581 t (by
          refine XS.iloadN X580.here hx rfl (hb hby dp23_4_25) rfl ?_
          refine XT.dup2 X580.here hx rfl (hb hby dp23_4_26) rfl rfl rfl ?_
          show Sg p e below (T580.setTop (mkF m 27 #[sR a1, sI mm, sI 0] [(.int (0 : Int32)), (.ref W), (.int (0 : Int32)), (.ref W)])) _
          refine X580.laload hx (j := (0 : Int32)) (v := (.long y0)) (by rw [e580]; exact Ar582.1) (State.isArrayOf_alike hZ.alike Ar582.2.1) Ar582.2.2 hin582 (H582.at hin582 rfl) (g := (mkF m 27 #[sR a1, sI mm, sI 0] [(.int (0 : Int32)), (.ref W), (.int (0 : Int32)), (.ref W)])) rfl rfl (hb hby dp23_4_27) _ ?_
          show Sg p e below (T580.setTop (mkF m 28 #[sR a1, sI mm, sI 0] [(.long y0), (.int (0 : Int32)), (.ref W)])) _
          refine XS.lconst X580.here hx rfl (hb hby dp23_4_28) ?_
          refine XS.iloadN X580.here hx rfl (hb hby dp23_4_29) rfl ?_
          refine XS.lshl X580.here hx rfl (hb hby dp23_4_30) rfl ?_
          show Sg p e below (T580.setTop (mkF m 31 #[sR a1, sI mm, sI 0] [(.long ((1 : Int64) <<< (mm &&& 0x3f).toInt64)), (.long y0), (.int (0 : Int32)), (.ref W)])) _
          refine X580.ldc2Long hx hown (mvT hZ (own_hw hw 62 rfl)) (g := (mkF m 31 #[sR a1, sI mm, sI 0] [(.long ((1 : Int64) <<< (mm &&& 0x3f).toInt64)), (.long y0), (.int (0 : Int32)), (.ref W)])) rfl (hb hby dp23_4_31) _ ?_
          show Sg p e below (T580.setTop (mkF m 34 #[sR a1, sI mm, sI 0] [(.long (-1 : Int64)), (.long ((1 : Int64) <<< (mm &&& 0x3f).toInt64)), (.long y0), (.int (0 : Int32)), (.ref W)])) _
          refine XS.lxor X580.here hx rfl (hb hby dp23_4_34) rfl ?_
          refine XS.land X580.here hx rfl (hb hby dp23_4_35) rfl ?_
          show Sg p e below (T580.setTop (mkF m 36 #[sR a1, sI mm, sI 0] [(.long (y0 &&& (((1 : Int64) <<< (mm &&& 0x3f).toInt64) ^^^ (-1 : Int64)))), (.int (0 : Int32)), (.ref W)])) _
          exact st583 _ k)
        have N586 := Fr.snoc X583 N548 g_W
        have Z587 : n0 ≤ h583.size := Nat.le_trans Z0 (Keep.of_wr W583).1
        have K588 : Keep h0 h583 [W] := (Keep.refl h0 [W]).wr W583 (Or.inl (List.mem_of_getElem? (i := 0) rfl))
        obtain ⟨fs589, hr589, hrun589, hended589, hW589, hsame589⟩ := X583.leave (v := none) (fun _ => rfl)
        refine ⟨_, _, pre0 _ (P585 _ ?_), hrun589, hended589, _, _, rfl, ?_, ⟨⟨_, rfl⟩, hW589, hsame589.mono (Nat.le_of_ble_eq_true rfl) (Nat.le_of_ble_eq_true rfl)⟩⟩
        · show Sg p e below (T583.setTop (mkF m 37 #[sR a1, sI mm, sI 0] [])) _
          exact X583.returnOut hx Bd.returns (hb hby dp23_4_37) hr589
        · show Q_rmv Z W kW M [x0, x1, x2] [y0, y1, y2] vr mm h0 n0 _ T583.heap _
          rw [e583]
          exact ⟨rfl, N586, K588, by rw [hq 0]; exact v584⟩
      · skip
        have hr' : r547 = (1 : Int32) := hr
        subst hr'
        have hk' : x1 = own_sh mm := Option.some.inj hk
        have hn0 : ¬ x0 = own_sh mm := fun e => by (have e' := congrArg Int32.toInt (e.trans hk'.symm); omega)
        have hn2 : ¬ x2 = own_sh mm := fun e => by (have e' := congrArg Int32.toInt (e.trans hk'.symm); omega)
        have hq : ∀ z : Int64, own_rem [x0, x1, x2] [y0, y1, y2] mm = [y0, y1 &&& (own_bit mm ^^^ (-1)), y2] := fun _ => by simp only [own_rem]; rw [if_neg hn0, if_pos hk', if_neg hn2]
        obtain ⟨T590, X590, e590, st590⟩ := getF X547 hx hZ hown (host := "") (Or.inl (own_hw hw 36 rfl)) Via.refl e547 Fw (g := (mkF m 22 #[sR a1, sI mm, sI 1] [(.ref a1)])) rfl rfl (hb hby dp23_4_22)
        have P591 : Rg p e below (T590.setTop (mkF m 25 #[sR a1, sI mm, sI 1] [(.ref W)])) B0 := fun t k => P549 t (by
          refine XS.istoreN X547.here hx rfl (hb hby dp23_4_16) rfl (l' := #[sR a1, sI mm, sI 1]) rfl ?_
          refine XS.iloadN X547.here hx rfl (hb hby dp23_4_17) rfl ?_
          refine XS.ifNo X547.here hx rfl (hb hby dp23_4_18) rfl ((if0 _ _).trans (flt (show ¬ ((1 : Int32) < (0 : Int32)) from (by decide))).1) ?_
          refine XS.aloadN X547.here hx rfl (hb hby dp23_4_21) rfl rfl ?_
          show Sg p e below (T547.setTop (mkF m 22 #[sR a1, sI mm, sI 1] [(.ref a1)])) _
          exact st590 _ k)
        obtain ⟨cl592, Ar592, -, S592, N592, H592, -⟩ := id AW
        have hin592 : ¬ ((1 : Int32) < 0 ∨ cl592.slots.size ≤ ((1 : Int32)).toNatClampNeg) := inb_of S592 (own_inb (own_hM2 hM hl hv) (k := 1) (by simp) (own_hm2 hm hl hv))
        obtain ⟨cl593, Ar593, q593, S593, N593, H593, G593⟩ := id AW
        obtain ⟨T593, h593, X593, e593, W593, st593⟩ := stJ X590 hx hZ e590 Ar593 (j := (1 : Int32)) (inb_of S593 (own_inb (own_hM2 hM hl hv) (k := 1) (by simp) (own_hm2 hm hl hv))) (g := (mkF m 36 #[sR a1, sI mm, sI 1] [(.long (y1 &&& (((1 : Int64) <<< (mm &&& 0x3f).toInt64) ^^^ (-1 : Int64)))), (.int (1 : Int32)), (.ref W)])) rfl rfl (hb hby dp23_4_36)
        have v594 : Arv Z h593 W kW .long M (([y0, (y1 &&& (((1 : Int64) <<< (mm &&& 0x3f).toInt64) ^^^ (-1 : Int64))), y2] ++ vr).map Value.long) (.long (0 : Int64)) := Arv.set Ar593 q593 S593 N593 H593 G593 rfl W593 1 rfl (by simp)
        have P595 : Rg p e below (T593.setTop (mkF m 37 #[sR a1, sI mm, sI 1] [])) B0 := fun t k => P591 t (by
          refine XS.iloadN X590.here hx rfl (hb hby dp23_4_25) rfl ?_
          refine XT.dup2 X590.here hx rfl (hb hby dp23_4_26) rfl rfl rfl ?_
          show Sg p e below (T590.setTop (mkF m 27 #[sR a1, sI mm, sI 1] [(.int (1 : Int32)), (.ref W), (.int (1 : Int32)), (.ref W)])) _
          refine X590.laload hx (j := (1 : Int32)) (v := (.long y1)) (by rw [e590]; exact Ar592.1) (State.isArrayOf_alike hZ.alike Ar592.2.1) Ar592.2.2 hin592 (H592.at hin592 rfl) (g := (mkF m 27 #[sR a1, sI mm, sI 1] [(.int (1 : Int32)), (.ref W), (.int (1 : Int32)), (.ref W)])) rfl rfl (hb hby dp23_4_27) _ ?_
          show Sg p e below (T590.setTop (mkF m 28 #[sR a1, sI mm, sI 1] [(.long y1), (.int (1 : Int32)), (.ref W)])) _
          refine XS.lconst X590.here hx rfl (hb hby dp23_4_28) ?_
          refine XS.iloadN X590.here hx rfl (hb hby dp23_4_29) rfl ?_
          refine XS.lshl X590.here hx rfl (hb hby dp23_4_30) rfl ?_
          show Sg p e below (T590.setTop (mkF m 31 #[sR a1, sI mm, sI 1] [(.long ((1 : Int64) <<< (mm &&& 0x3f).toInt64)), (.long y1), (.int (1 : Int32)), (.ref W)])) _
          refine X590.ldc2Long hx hown (mvT hZ (own_hw hw 62 rfl)) (g := (mkF m 31 #[sR a1, sI mm, sI 1] [(.long ((1 : Int64) <<< (mm &&& 0x3f).toInt64)), (.long y1), (.int (1 : Int32)), (.ref W)])) rfl (hb hby dp23_4_31) _ ?_
          show Sg p e below (T590.setTop (mkF m 34 #[sR a1, sI mm, sI 1] [(.long (-1 : Int64)), (.long ((1 : Int64) <<< (mm &&& 0x3f).toInt64)), (.long y1), (.int (1 : Int32)), (.ref W)])) _
          refine XS.lxor X590.here hx rfl (hb hby dp23_4_34) rfl ?_
          refine XS.land X590.here hx rfl (hb hby dp23_4_35) rfl ?_
          show Sg p e below (T590.setTop (mkF m 36 #[sR a1, sI mm, sI 1] [(.long (y1 &&& (((1 : Int64) <<< (mm &&& 0x3f).toInt64) ^^^ (-1 : Int64)))), (.int (1 : Int32)), (.ref W)])) _
          exact st593 _ k)
        have N596 := Fr.snoc X593 N548 g_W
        have Z597 : n0 ≤ h593.size := Nat.le_trans Z0 (Keep.of_wr W593).1
        have K598 : Keep h0 h593 [W] := (Keep.refl h0 [W]).wr W593 (Or.inl (List.mem_of_getElem? (i := 0) rfl))
        obtain ⟨fs599, hr599, hrun599, hended599, hW599, hsame599⟩ := X593.leave (v := none) (fun _ => rfl)
        refine ⟨_, _, pre0 _ (P595 _ ?_), hrun599, hended599, _, _, rfl, ?_, ⟨⟨_, rfl⟩, hW599, hsame599.mono (Nat.le_of_ble_eq_true rfl) (Nat.le_of_ble_eq_true rfl)⟩⟩
        · show Sg p e below (T593.setTop (mkF m 37 #[sR a1, sI mm, sI 1] [])) _
          exact X593.returnOut hx Bd.returns (hb hby dp23_4_37) hr599
        · show Q_rmv Z W kW M [x0, x1, x2] [y0, y1, y2] vr mm h0 n0 _ T593.heap _
          rw [e593]
          exact ⟨rfl, N596, K598, by rw [hq 0]; exact v594⟩
      · skip
        have hr' : r547 = (2 : Int32) := hr
        subst hr'
        have hk' : x2 = own_sh mm := Option.some.inj hk
        have hn0 : ¬ x0 = own_sh mm := fun e => by (have e' := congrArg Int32.toInt (e.trans hk'.symm); omega)
        have hn1 : ¬ x1 = own_sh mm := fun e => by (have e' := congrArg Int32.toInt (e.trans hk'.symm); omega)
        have hq : ∀ z : Int64, own_rem [x0, x1, x2] [y0, y1, y2] mm = [y0, y1, y2 &&& (own_bit mm ^^^ (-1))] := fun _ => by simp only [own_rem]; rw [if_neg hn0, if_neg hn1, if_pos hk']
        obtain ⟨T600, X600, e600, st600⟩ := getF X547 hx hZ hown (host := "") (Or.inl (own_hw hw 36 rfl)) Via.refl e547 Fw (g := (mkF m 22 #[sR a1, sI mm, sI 2] [(.ref a1)])) rfl rfl (hb hby dp23_4_22)
        have P601 : Rg p e below (T600.setTop (mkF m 25 #[sR a1, sI mm, sI 2] [(.ref W)])) B0 := fun t k => P549 t (by
          refine XS.istoreN X547.here hx rfl (hb hby dp23_4_16) rfl (l' := #[sR a1, sI mm, sI 2]) rfl ?_
          refine XS.iloadN X547.here hx rfl (hb hby dp23_4_17) rfl ?_
          refine XS.ifNo X547.here hx rfl (hb hby dp23_4_18) rfl ((if0 _ _).trans (flt (show ¬ ((2 : Int32) < (0 : Int32)) from (by decide))).1) ?_
          refine XS.aloadN X547.here hx rfl (hb hby dp23_4_21) rfl rfl ?_
          show Sg p e below (T547.setTop (mkF m 22 #[sR a1, sI mm, sI 2] [(.ref a1)])) _
          exact st600 _ k)
        obtain ⟨cl602, Ar602, -, S602, N602, H602, -⟩ := id AW
        have hin602 : ¬ ((2 : Int32) < 0 ∨ cl602.slots.size ≤ ((2 : Int32)).toNatClampNeg) := inb_of S602 (own_inb (own_hM2 hM hl hv) (k := 2) (by simp) (own_hm2 hm hl hv))
        obtain ⟨cl603, Ar603, q603, S603, N603, H603, G603⟩ := id AW
        obtain ⟨T603, h603, X603, e603, W603, st603⟩ := stJ X600 hx hZ e600 Ar603 (j := (2 : Int32)) (inb_of S603 (own_inb (own_hM2 hM hl hv) (k := 2) (by simp) (own_hm2 hm hl hv))) (g := (mkF m 36 #[sR a1, sI mm, sI 2] [(.long (y2 &&& (((1 : Int64) <<< (mm &&& 0x3f).toInt64) ^^^ (-1 : Int64)))), (.int (2 : Int32)), (.ref W)])) rfl rfl (hb hby dp23_4_36)
        have v604 : Arv Z h603 W kW .long M (([y0, y1, (y2 &&& (((1 : Int64) <<< (mm &&& 0x3f).toInt64) ^^^ (-1 : Int64)))] ++ vr).map Value.long) (.long (0 : Int64)) := Arv.set Ar603 q603 S603 N603 H603 G603 rfl W603 2 rfl (by simp)
        have P605 : Rg p e below (T603.setTop (mkF m 37 #[sR a1, sI mm, sI 2] [])) B0 := fun t k => P601 t (by
          refine XS.iloadN X600.here hx rfl (hb hby dp23_4_25) rfl ?_
          refine XT.dup2 X600.here hx rfl (hb hby dp23_4_26) rfl rfl rfl ?_
          show Sg p e below (T600.setTop (mkF m 27 #[sR a1, sI mm, sI 2] [(.int (2 : Int32)), (.ref W), (.int (2 : Int32)), (.ref W)])) _
          refine X600.laload hx (j := (2 : Int32)) (v := (.long y2)) (by rw [e600]; exact Ar602.1) (State.isArrayOf_alike hZ.alike Ar602.2.1) Ar602.2.2 hin602 (H602.at hin602 rfl) (g := (mkF m 27 #[sR a1, sI mm, sI 2] [(.int (2 : Int32)), (.ref W), (.int (2 : Int32)), (.ref W)])) rfl rfl (hb hby dp23_4_27) _ ?_
          show Sg p e below (T600.setTop (mkF m 28 #[sR a1, sI mm, sI 2] [(.long y2), (.int (2 : Int32)), (.ref W)])) _
          refine XS.lconst X600.here hx rfl (hb hby dp23_4_28) ?_
          refine XS.iloadN X600.here hx rfl (hb hby dp23_4_29) rfl ?_
          refine XS.lshl X600.here hx rfl (hb hby dp23_4_30) rfl ?_
          show Sg p e below (T600.setTop (mkF m 31 #[sR a1, sI mm, sI 2] [(.long ((1 : Int64) <<< (mm &&& 0x3f).toInt64)), (.long y2), (.int (2 : Int32)), (.ref W)])) _
          refine X600.ldc2Long hx hown (mvT hZ (own_hw hw 62 rfl)) (g := (mkF m 31 #[sR a1, sI mm, sI 2] [(.long ((1 : Int64) <<< (mm &&& 0x3f).toInt64)), (.long y2), (.int (2 : Int32)), (.ref W)])) rfl (hb hby dp23_4_31) _ ?_
          show Sg p e below (T600.setTop (mkF m 34 #[sR a1, sI mm, sI 2] [(.long (-1 : Int64)), (.long ((1 : Int64) <<< (mm &&& 0x3f).toInt64)), (.long y2), (.int (2 : Int32)), (.ref W)])) _
          refine XS.lxor X600.here hx rfl (hb hby dp23_4_34) rfl ?_
          refine XS.land X600.here hx rfl (hb hby dp23_4_35) rfl ?_
          show Sg p e below (T600.setTop (mkF m 36 #[sR a1, sI mm, sI 2] [(.long (y2 &&& (((1 : Int64) <<< (mm &&& 0x3f).toInt64) ^^^ (-1 : Int64)))), (.int (2 : Int32)), (.ref W)])) _
          exact st603 _ k)
        have N606 := Fr.snoc X603 N548 g_W
        have Z607 : n0 ≤ h603.size := Nat.le_trans Z0 (Keep.of_wr W603).1
        have K608 : Keep h0 h603 [W] := (Keep.refl h0 [W]).wr W603 (Or.inl (List.mem_of_getElem? (i := 0) rfl))
        obtain ⟨fs609, hr609, hrun609, hended609, hW609, hsame609⟩ := X603.leave (v := none) (fun _ => rfl)
        refine ⟨_, _, pre0 _ (P605 _ ?_), hrun609, hended609, _, _, rfl, ?_, ⟨⟨_, rfl⟩, hW609, hsame609.mono (Nat.le_of_ble_eq_true rfl) (Nat.le_of_ble_eq_true rfl)⟩⟩
        · show Sg p e below (T603.setTop (mkF m 37 #[sR a1, sI mm, sI 2] [])) _
          exact X603.returnOut hx Bd.returns (hb hby dp23_4_37) hr609
        · show Q_rmv Z W kW M [x0, x1, x2] [y0, y1, y2] vr mm h0 n0 _ T603.heap _
          rw [e603]
          exact ⟨rfl, N606, K608, by rw [hq 0]; exact v604⟩
    · exact absurd hlen (by simp)
  · skip
    obtain ⟨fs610, hr610, hrun610, hended610, hW610, hsame610⟩ := X547.leave (v := none) (fun _ => rfl)
    refine ⟨_, _, pre0 _ (P549 _ ?_), hrun610, hended610, _, _, rfl, ?_, ⟨⟨_, rfl⟩, hW610, hsame610.mono (Nat.le_of_ble_eq_true rfl) (Nat.le_of_ble_eq_true rfl)⟩⟩
    · show Sg p e below (T547.setTop (mkF m 16 #[sR a1, sI mm, sU] [(.int r547)])) _
      refine XS.istoreN X547.here hx rfl (hb hby dp23_4_16) rfl (l' := #[sR a1, sI mm, sI r547]) rfl ?_
      refine XS.iloadN X547.here hx rfl (hb hby dp23_4_17) rfl ?_
      refine XS.ifYes X547.here hx rfl (pc0 := 18) (pc' := 37) rfl (hb hby dp23_4_18) rfl ((if0 _ _).trans (tlt (show r547 < (0 : Int32) from hneg)).1) (by decide) (by decide) ?_
      show Sg p e below (T547.setTop (mkF m 37 #[sR a1, sI mm, sI r547] [])) _
      exact X547.returnOut hx Bd.returns (hb hby dp23_4_37) hr610
    · show Q_rmv Z W kW M pl wv vr mm h0 n0 _ T547.heap _
      rw [e547]
      exact ⟨rfl, N548, Keep.refl h0 [W], by rw [own_rem_none hni]; exact AW⟩
theorem dp23_5_0 : decode prog_23_method_5_code 0 = .ok (.iconst 0, 1) := by decide +kernel
theorem dp23_5_1 : decode prog_23_method_5_code 1 = .ok (.istore_n 1, 1) := by decide +kernel
theorem dp23_5_2 : decode prog_23_method_5_code 2 = .ok (.iload_n 1, 1) := by decide +kernel
theorem dp23_5_3 : decode prog_23_method_5_code 3 = .ok (.aload_n 0, 1) := by decide +kernel
theorem dp23_5_4 : decode prog_23_method_5_code 4 = .ok (.getfield 25, 3) := by decide +kernel
theorem dp23_5_7 : decode prog_23_method_5_code 7 = .ok (.if_icmp .ge 22, 3) := by decide +kernel
theorem dp23_5_29 : decode prog_23_method_5_code 29 = .ok (.iconst 1, 1) := by decide +kernel
theorem dp23_5_30 : decode prog_23_method_5_code 30 = .ok (.ireturn, 1) := by decide +kernel
theorem dp23_5_10 : decode prog_23_method_5_code 10 = .ok (.aload_n 0, 1) := by decide +kernel
theorem dp23_5_11 : decode prog_23_method_5_code 11 = .ok (.getfield 13, 3) := by decide +kernel
theorem dp23_5_14 : decode prog_23_method_5_code 14 = .ok (.iload_n 1, 1) := by decide +kernel
theorem dp23_5_15 : decode prog_23_method_5_code 15 = .ok (.laload, 1) := by decide +kernel
theorem dp23_5_16 : decode prog_23_method_5_code 16 = .ok (.lconst 0, 1) := by decide +kernel
theorem dp23_5_17 : decode prog_23_method_5_code 17 = .ok (.lcmp, 1) := by decide +kernel
theorem dp23_5_18 : decode prog_23_method_5_code 18 = .ok (.ifCond .eq 5, 3) := by decide +kernel
theorem dp23_5_23 : decode prog_23_method_5_code 23 = .ok (.iinc 1 1, 3) := by decide +kernel
theorem dp23_5_26 : decode prog_23_method_5_code 26 = .ok (.goto (-24), 3) := by decide +kernel
theorem dp23_5_21 : decode prog_23_method_5_code 21 = .ok (.iconst 0, 1) := by decide +kernel
theorem dp23_5_22 : decode prog_23_method_5_code 22 = .ok (.ireturn, 1) := by decide +kernel
theorem ef_emp (m : MethodId) (x0 : Addr) : entryFrame m #[(.ref x0)] 2 = mkF m 0 #[sR x0, sU] [] := by (first | (simp [entryFrame, mkF, argsToLocals, Value.category]; done) | rfl)
def Q_emp (wv : List Int64) (h0 : Heap) (n0 : Nat) (v : Option Value) (h : Heap) (L : List Loc) : Prop := v = some (.int (own_emp wv)) ∧ Fr n0 L ∧ h = h0
set_option maxRecDepth 65536 in
set_option maxHeartbeats 40000000 in
theorem rm_emp (l : Launch) (Z : State) (a0 : Array Value) (hw : ∀ d ∈ tables_1, d.before a0 Z = true) (ws : List Jvm.Cond) (a1 P W : Addr) (kP kW : ClassId) (M : Int32) (pl ur : List Int32) (wv vr : List Int64) (cn : Int32) (h0 : Heap) (n0 : Nat) (Z0 : n0 ≤ h0.size) (g_a1 : n0 ≤ a1) (g_P : n0 ≤ P) (g_W : n0 ≤ W) (E1 : Exa Z h0 a1 sM) (EP : Exa Z h0 P "[I") (EW1 : Exa Z h0 W "[J") (Fp : Fld Z h0 a1 sM "places" "[I" (.ref P)) (Fw : Fld Z h0 a1 sM "words" "[J" (.ref W)) (Fc : Fld Z h0 a1 sM "count" "I" (.int cn)) (AP : Arv Z h0 P kP .int M ((pl ++ ur).map Value.int) (.int (0 : Int32))) (AW : Arv Z h0 W kW .long M ((wv ++ vr).map Value.long) (.long (0 : Int64))) (hM : M = Int32.ofNat (pl ++ ur).length) (hm : (pl ++ ur).length ≤ 3) (hc : cn = Int32.ofNat pl.length) (hl : wv.length = pl.length) (hv : vr.length = ur.length) :
    MetFree l (⟨"com/example/whittle/whittle/engine/WordSets$Meet", "isEmpty", "()Z"⟩ : MethodName) (head1 (Jvm.Cond.code (⟨"com/example/whittle/whittle/engine/WordSets$Meet", "isEmpty", "()Z"⟩ : MethodName) prog_23_method_5_code 2 (some .boolean) :: ws) ({ frames := 0, cells := 0, slots := 0, locals := 0 } : Room)) (fun a U => a = #[(.ref a1)] ∧ Z.Warmed39 U.vm ∧ U.heap = h0) (fun _ _ _ _ _ => True) (fun _ U o U' => ∃ v L, o = .returned v ∧ Q_emp wv h0 n0 v U'.heap L ∧ FrameEnd U o U' L ({ frames := 0, cells := 0, slots := 0, locals := 0 } : Room).cells ({ frames := 0, cells := 0, slots := 0, locals := 0 } : Room).slots) := by
  refine MetFree.of_bodySF (plainFor_of_name pn_com_example_whittle_whittle_engine_WordSets_Meet) hisR ?_
  intro p e s m args below meth c s₁ Bd hml0 hP hK
  obtain ⟨rfl, hZ, hh⟩ := hP
  have hx := Bd.exec
  have hby := Bd.bytes
  have hml : c.maxLocals = 2 := hml0
  have hown : s.vm.findClass "com/example/whittle/whittle/engine/WordSets$Meet" = some m.cls := findClass_of_methodNamed Bd.named
  have hnm := (name_of_methodNamed Bd.named Bd.method).1
  have X0 : Stand p l e ({ frames := 0, cells := 0, slots := 0, locals := 0 } : Room) s m #[(.ref a1)] below meth c s₁ [] 0 0 := Stand.of_body Bd
  have e0 : s₁.heap = h0 := by rw [← hh, Bd.state]; rfl
  have N0 := Fr.nil n0
  have pre0 : ∀ t, Sg p e below (s₁.setTop (mkF m 0 #[sR a1, sU] [])) t → Steps p.tables e below (s₁.setTop (entryFrame m #[(.ref a1)] 2)) t := fun t k => castTop (ef_emp m a1) k
  have P0 : ∀ t, Sg p e below (s₁.setTop (mkF m 0 #[sR a1, sU] [])) t → Sg p e below (s₁.setTop (mkF m 0 #[sR a1, sU] [])) t := fun t k => k
  obtain ⟨B0, pre0, P0⟩ : ∃ B : State, (∀ t, Steps p.tables e below B t → Steps p.tables e below (s₁.setTop (entryFrame m #[(.ref a1)] 2)) t) ∧ Rg p e below (s₁.setTop (mkF m 0 #[sR a1, sU] [])) B := ⟨_, pre0, P0⟩
  have hlen : pl.length ≤ 3 := by simp at hm; omega
  rcases pl with _ | ⟨x0, _ | ⟨x1, _ | ⟨x2, _ | ⟨x3, pl⟩⟩⟩⟩
  · skip
    have hc' : cn = (0 : Int32) := hc
    subst hc'
    obtain rfl := own_len0 hl
    obtain ⟨T611, X611, e611, st611⟩ := getF X0 hx hZ hown (host := "") (Or.inl (own_hw hw 45 rfl)) Via.refl e0 Fc (g := (mkF m 4 #[sR a1, sI 0] [(.ref a1), (.int (0 : Int32))])) rfl rfl (hb hby dp23_5_4)
    have P612 : Rg p e below (T611.setTop (mkF m 7 #[sR a1, sI 0] [(.int (0 : Int32)), (.int (0 : Int32))])) B0 := fun t k => P0 t (by
      refine XS.iconst X0.here hx rfl (hb hby dp23_5_0) ?_
      refine XS.istoreN X0.here hx rfl (hb hby dp23_5_1) rfl (l' := #[sR a1, sI 0]) rfl ?_
      refine XS.iloadN X0.here hx rfl (hb hby dp23_5_2) rfl ?_
      refine XS.aloadN X0.here hx rfl (hb hby dp23_5_3) rfl rfl ?_
      show Sg p e below (s₁.setTop (mkF m 4 #[sR a1, sI 0] [(.ref a1), (.int (0 : Int32))])) _
      exact st611 _ k)
    obtain ⟨fs613, hr613, hrun613, hended613, hW613, hsame613⟩ := X611.leave (v := some (.int (1 : Int32))) (fun h => by rw [Bd.returns] at h; cases h)
    refine ⟨_, _, pre0 _ (P612 _ ?_), hrun613, hended613, _, _, rfl, ?_, ⟨⟨_, rfl⟩, hW613, hsame613.mono (Nat.le_of_ble_eq_true rfl) (Nat.le_of_ble_eq_true rfl)⟩⟩
    · show Sg p e below (T611.setTop (mkF m 7 #[sR a1, sI 0] [(.int (0 : Int32)), (.int (0 : Int32))])) _
      refine XS.icmpYes X611.here hx rfl (pc0 := 7) (pc' := 29) rfl (hb hby dp23_5_7) rfl (flt (show ¬ ((0 : Int32) < (0 : Int32)) from (by decide))).2.1 (by decide) (by decide) ?_
      refine XS.iconst X611.here hx rfl (hb hby dp23_5_29) ?_
      show Sg p e below (T611.setTop (mkF m 30 #[sR a1, sI 0] [(.int (1 : Int32))])) _
      exact retN X611 hx (t := .boolean) Bd.returns (by simp) (hb hby dp23_5_30) hr613
    · show Q_emp [] h0 n0 _ T611.heap _
      rw [e611]
      exact ⟨rfl, N0, rfl⟩
  · skip
    have hc' : cn = (1 : Int32) := hc
    subst hc'
    obtain ⟨y0, rfl⟩ := own_len1 hl
    obtain ⟨T614, X614, e614, st614⟩ := getF X0 hx hZ hown (host := "") (Or.inl (own_hw hw 45 rfl)) Via.refl e0 Fc (g := (mkF m 4 #[sR a1, sI 0] [(.ref a1), (.int (0 : Int32))])) rfl rfl (hb hby dp23_5_4)
    have P615 : Rg p e below (T614.setTop (mkF m 7 #[sR a1, sI 0] [(.int (1 : Int32)), (.int (0 : Int32))])) B0 := fun t k => P0 t (by
      refine XS.iconst X0.here hx rfl (hb hby dp23_5_0) ?_
      refine XS.istoreN X0.here hx rfl (hb hby dp23_5_1) rfl (l' := #[sR a1, sI 0]) rfl ?_
      refine XS.iloadN X0.here hx rfl (hb hby dp23_5_2) rfl ?_
      refine XS.aloadN X0.here hx rfl (hb hby dp23_5_3) rfl rfl ?_
      show Sg p e below (s₁.setTop (mkF m 4 #[sR a1, sI 0] [(.ref a1), (.int (0 : Int32))])) _
      exact st614 _ k)
    obtain ⟨T616, X616, e616, st616⟩ := getF X614 hx hZ hown (host := "") (Or.inl (own_hw hw 36 rfl)) Via.refl e614 Fw (g := (mkF m 11 #[sR a1, sI 0] [(.ref a1)])) rfl rfl (hb hby dp23_5_11)
    have P617 : Rg p e below (T616.setTop (mkF m 14 #[sR a1, sI 0] [(.ref W)])) B0 := fun t k => P615 t (by
      refine XS.icmpNo X614.here hx rfl (hb hby dp23_5_7) rfl (tlt (show (0 : Int32) < (1 : Int32) from (by decide))).2.1 ?_
      refine XS.aloadN X614.here hx rfl (hb hby dp23_5_10) rfl rfl ?_
      show Sg p e below (T614.setTop (mkF m 11 #[sR a1, sI 0] [(.ref a1)])) _
      exact st616 _ k)
    obtain ⟨cl618, Ar618, -, S618, N618, H618, -⟩ := id AW
    have hin618 : ¬ ((0 : Int32) < 0 ∨ cl618.slots.size ≤ ((0 : Int32)).toNatClampNeg) := inb_of S618 (own_inb (own_hM2 hM hl hv) (k := 0) (by simp) (own_hm2 hm hl hv))
    have P619 : Rg p e below (T616.setTop (mkF m 18 #[sR a1, sI 0] [(.int (lcmpW y0 (0 : Int64)))])) B0 := fun t k => P617 t (by
      refine XS.iloadN X616.here hx rfl (hb hby dp23_5_14) rfl ?_
      show Sg p e below (T616.setTop (mkF m 15 #[sR a1, sI 0] [(.int (0 : Int32)), (.ref W)])) _
      refine X616.laload hx (j := (0 : Int32)) (v := (.long y0)) (by rw [e616]; exact Ar618.1) (State.isArrayOf_alike hZ.alike Ar618.2.1) Ar618.2.2 hin618 (H618.at hin618 rfl) (g := (mkF m 15 #[sR a1, sI 0] [(.int (0 : Int32)), (.ref W)])) rfl rfl (hb hby dp23_5_15) _ ?_
      show Sg p e below (T616.setTop (mkF m 16 #[sR a1, sI 0] [(.long y0)])) _
      refine XS.lconst X616.here hx rfl (hb hby dp23_5_16) ?_
      refine XS.lcmp X616.here hx rfl (hb hby dp23_5_17) rfl ?_
      show Sg p e below (T616.setTop (mkF m 18 #[sR a1, sI 0] [(.int (lcmpW y0 (0 : Int64)))])) _
      exact k)
    by_cases q620 : y0 = (0 : Int64)
    · skip
      obtain ⟨T621, X621, e621, st621⟩ := getF X616 hx hZ hown (host := "") (Or.inl (own_hw hw 45 rfl)) Via.refl e616 Fc (g := (mkF m 4 #[sR a1, sI 1] [(.ref a1), (.int (1 : Int32))])) rfl rfl (hb hby dp23_5_4)
      have P622 : Rg p e below (T621.setTop (mkF m 7 #[sR a1, sI 1] [(.int (1 : Int32)), (.int (1 : Int32))])) B0 := fun t k => P619 t (by
        refine XS.ifYes X616.here hx rfl (pc0 := 18) (pc' := 23) rfl (hb hby dp23_5_18) rfl (XT.ll_eq_t (show y0 = (0 : Int64) from q620)) (by decide) (by decide) ?_
        refine XS.iinc X616.here hx rfl (hb hby dp23_5_23) rfl (l' := #[sR a1, sI 1]) rfl ?_
        refine XS.goto X616.here hx rfl (pc0 := 26) (pc' := 2) rfl (hb hby dp23_5_26) (by decide) (by decide) ?_
        refine XS.iloadN X616.here hx rfl (hb hby dp23_5_2) rfl ?_
        refine XS.aloadN X616.here hx rfl (hb hby dp23_5_3) rfl rfl ?_
        show Sg p e below (T616.setTop (mkF m 4 #[sR a1, sI 1] [(.ref a1), (.int (1 : Int32))])) _
        exact st621 _ k)
      obtain ⟨fs623, hr623, hrun623, hended623, hW623, hsame623⟩ := X621.leave (v := some (.int (1 : Int32))) (fun h => by rw [Bd.returns] at h; cases h)
      refine ⟨_, _, pre0 _ (P622 _ ?_), hrun623, hended623, _, _, rfl, ?_, ⟨⟨_, rfl⟩, hW623, hsame623.mono (Nat.le_of_ble_eq_true rfl) (Nat.le_of_ble_eq_true rfl)⟩⟩
      · show Sg p e below (T621.setTop (mkF m 7 #[sR a1, sI 1] [(.int (1 : Int32)), (.int (1 : Int32))])) _
        refine XS.icmpYes X621.here hx rfl (pc0 := 7) (pc' := 29) rfl (hb hby dp23_5_7) rfl (flt (show ¬ ((1 : Int32) < (1 : Int32)) from (by decide))).2.1 (by decide) (by decide) ?_
        refine XS.iconst X621.here hx rfl (hb hby dp23_5_29) ?_
        show Sg p e below (T621.setTop (mkF m 30 #[sR a1, sI 1] [(.int (1 : Int32))])) _
        exact retN X621 hx (t := .boolean) Bd.returns (by simp) (hb hby dp23_5_30) hr623
      · show Q_emp [y0] h0 n0 _ T621.heap _
        rw [e621]
        exact ⟨congrArg (fun z => some (Value.int z)) (Eq.symm ((if_pos q620).trans (rfl))), N0, rfl⟩
    · skip
      obtain ⟨fs624, hr624, hrun624, hended624, hW624, hsame624⟩ := X616.leave (v := some (.int (0 : Int32))) (fun h => by rw [Bd.returns] at h; cases h)
      refine ⟨_, _, pre0 _ (P619 _ ?_), hrun624, hended624, _, _, rfl, ?_, ⟨⟨_, rfl⟩, hW624, hsame624.mono (Nat.le_of_ble_eq_true rfl) (Nat.le_of_ble_eq_true rfl)⟩⟩
      · show Sg p e below (T616.setTop (mkF m 18 #[sR a1, sI 0] [(.int (lcmpW y0 (0 : Int64)))])) _
        refine XS.ifNo X616.here hx rfl (hb hby dp23_5_18) rfl (XT.ll_eq_f (show ¬ (y0 = (0 : Int64)) from q620)) ?_
        refine XS.iconst X616.here hx rfl (hb hby dp23_5_21) ?_
        show Sg p e below (T616.setTop (mkF m 22 #[sR a1, sI 0] [(.int (0 : Int32))])) _
        exact retN X616 hx (t := .boolean) Bd.returns (by simp) (hb hby dp23_5_22) hr624
      · show Q_emp [y0] h0 n0 _ T616.heap _
        rw [e616]
        exact ⟨congrArg (fun z => some (Value.int z)) (Eq.symm ((if_neg q620).trans (rfl))), N0, rfl⟩
  · skip
    have hc' : cn = (2 : Int32) := hc
    subst hc'
    obtain ⟨y0, y1, rfl⟩ := own_len2 hl
    obtain ⟨T625, X625, e625, st625⟩ := getF X0 hx hZ hown (host := "") (Or.inl (own_hw hw 45 rfl)) Via.refl e0 Fc (g := (mkF m 4 #[sR a1, sI 0] [(.ref a1), (.int (0 : Int32))])) rfl rfl (hb hby dp23_5_4)
    have P626 : Rg p e below (T625.setTop (mkF m 7 #[sR a1, sI 0] [(.int (2 : Int32)), (.int (0 : Int32))])) B0 := fun t k => P0 t (by
      refine XS.iconst X0.here hx rfl (hb hby dp23_5_0) ?_
      refine XS.istoreN X0.here hx rfl (hb hby dp23_5_1) rfl (l' := #[sR a1, sI 0]) rfl ?_
      refine XS.iloadN X0.here hx rfl (hb hby dp23_5_2) rfl ?_
      refine XS.aloadN X0.here hx rfl (hb hby dp23_5_3) rfl rfl ?_
      show Sg p e below (s₁.setTop (mkF m 4 #[sR a1, sI 0] [(.ref a1), (.int (0 : Int32))])) _
      exact st625 _ k)
    obtain ⟨T627, X627, e627, st627⟩ := getF X625 hx hZ hown (host := "") (Or.inl (own_hw hw 36 rfl)) Via.refl e625 Fw (g := (mkF m 11 #[sR a1, sI 0] [(.ref a1)])) rfl rfl (hb hby dp23_5_11)
    have P628 : Rg p e below (T627.setTop (mkF m 14 #[sR a1, sI 0] [(.ref W)])) B0 := fun t k => P626 t (by
      refine XS.icmpNo X625.here hx rfl (hb hby dp23_5_7) rfl (tlt (show (0 : Int32) < (2 : Int32) from (by decide))).2.1 ?_
      refine XS.aloadN X625.here hx rfl (hb hby dp23_5_10) rfl rfl ?_
      show Sg p e below (T625.setTop (mkF m 11 #[sR a1, sI 0] [(.ref a1)])) _
      exact st627 _ k)
    obtain ⟨cl629, Ar629, -, S629, N629, H629, -⟩ := id AW
    have hin629 : ¬ ((0 : Int32) < 0 ∨ cl629.slots.size ≤ ((0 : Int32)).toNatClampNeg) := inb_of S629 (own_inb (own_hM2 hM hl hv) (k := 0) (by simp) (own_hm2 hm hl hv))
    have P630 : Rg p e below (T627.setTop (mkF m 18 #[sR a1, sI 0] [(.int (lcmpW y0 (0 : Int64)))])) B0 := fun t k => P628 t (by
      refine XS.iloadN X627.here hx rfl (hb hby dp23_5_14) rfl ?_
      show Sg p e below (T627.setTop (mkF m 15 #[sR a1, sI 0] [(.int (0 : Int32)), (.ref W)])) _
      refine X627.laload hx (j := (0 : Int32)) (v := (.long y0)) (by rw [e627]; exact Ar629.1) (State.isArrayOf_alike hZ.alike Ar629.2.1) Ar629.2.2 hin629 (H629.at hin629 rfl) (g := (mkF m 15 #[sR a1, sI 0] [(.int (0 : Int32)), (.ref W)])) rfl rfl (hb hby dp23_5_15) _ ?_
      show Sg p e below (T627.setTop (mkF m 16 #[sR a1, sI 0] [(.long y0)])) _
      refine XS.lconst X627.here hx rfl (hb hby dp23_5_16) ?_
      refine XS.lcmp X627.here hx rfl (hb hby dp23_5_17) rfl ?_
      show Sg p e below (T627.setTop (mkF m 18 #[sR a1, sI 0] [(.int (lcmpW y0 (0 : Int64)))])) _
      exact k)
    by_cases q631 : y0 = (0 : Int64)
    · skip
      obtain ⟨T632, X632, e632, st632⟩ := getF X627 hx hZ hown (host := "") (Or.inl (own_hw hw 45 rfl)) Via.refl e627 Fc (g := (mkF m 4 #[sR a1, sI 1] [(.ref a1), (.int (1 : Int32))])) rfl rfl (hb hby dp23_5_4)
      have P633 : Rg p e below (T632.setTop (mkF m 7 #[sR a1, sI 1] [(.int (2 : Int32)), (.int (1 : Int32))])) B0 := fun t k => P630 t (by
        refine XS.ifYes X627.here hx rfl (pc0 := 18) (pc' := 23) rfl (hb hby dp23_5_18) rfl (XT.ll_eq_t (show y0 = (0 : Int64) from q631)) (by decide) (by decide) ?_
        refine XS.iinc X627.here hx rfl (hb hby dp23_5_23) rfl (l' := #[sR a1, sI 1]) rfl ?_
        refine XS.goto X627.here hx rfl (pc0 := 26) (pc' := 2) rfl (hb hby dp23_5_26) (by decide) (by decide) ?_
        refine XS.iloadN X627.here hx rfl (hb hby dp23_5_2) rfl ?_
        refine XS.aloadN X627.here hx rfl (hb hby dp23_5_3) rfl rfl ?_
        show Sg p e below (T627.setTop (mkF m 4 #[sR a1, sI 1] [(.ref a1), (.int (1 : Int32))])) _
        exact st632 _ k)
      obtain ⟨T634, X634, e634, st634⟩ := getF X632 hx hZ hown (host := "") (Or.inl (own_hw hw 36 rfl)) Via.refl e632 Fw (g := (mkF m 11 #[sR a1, sI 1] [(.ref a1)])) rfl rfl (hb hby dp23_5_11)
      have P635 : Rg p e below (T634.setTop (mkF m 14 #[sR a1, sI 1] [(.ref W)])) B0 := fun t k => P633 t (by
        refine XS.icmpNo X632.here hx rfl (hb hby dp23_5_7) rfl (tlt (show (1 : Int32) < (2 : Int32) from (by decide))).2.1 ?_
        refine XS.aloadN X632.here hx rfl (hb hby dp23_5_10) rfl rfl ?_
        show Sg p e below (T632.setTop (mkF m 11 #[sR a1, sI 1] [(.ref a1)])) _
        exact st634 _ k)
      obtain ⟨cl636, Ar636, -, S636, N636, H636, -⟩ := id AW
      have hin636 : ¬ ((1 : Int32) < 0 ∨ cl636.slots.size ≤ ((1 : Int32)).toNatClampNeg) := inb_of S636 (own_inb (own_hM2 hM hl hv) (k := 1) (by simp) (own_hm2 hm hl hv))
      have P637 : Rg p e below (T634.setTop (mkF m 18 #[sR a1, sI 1] [(.int (lcmpW y1 (0 : Int64)))])) B0 := fun t k => P635 t (by
        refine XS.iloadN X634.here hx rfl (hb hby dp23_5_14) rfl ?_
        show Sg p e below (T634.setTop (mkF m 15 #[sR a1, sI 1] [(.int (1 : Int32)), (.ref W)])) _
        refine X634.laload hx (j := (1 : Int32)) (v := (.long y1)) (by rw [e634]; exact Ar636.1) (State.isArrayOf_alike hZ.alike Ar636.2.1) Ar636.2.2 hin636 (H636.at hin636 rfl) (g := (mkF m 15 #[sR a1, sI 1] [(.int (1 : Int32)), (.ref W)])) rfl rfl (hb hby dp23_5_15) _ ?_
        show Sg p e below (T634.setTop (mkF m 16 #[sR a1, sI 1] [(.long y1)])) _
        refine XS.lconst X634.here hx rfl (hb hby dp23_5_16) ?_
        refine XS.lcmp X634.here hx rfl (hb hby dp23_5_17) rfl ?_
        show Sg p e below (T634.setTop (mkF m 18 #[sR a1, sI 1] [(.int (lcmpW y1 (0 : Int64)))])) _
        exact k)
      by_cases q638 : y1 = (0 : Int64)
      · skip
        obtain ⟨T639, X639, e639, st639⟩ := getF X634 hx hZ hown (host := "") (Or.inl (own_hw hw 45 rfl)) Via.refl e634 Fc (g := (mkF m 4 #[sR a1, sI 2] [(.ref a1), (.int (2 : Int32))])) rfl rfl (hb hby dp23_5_4)
        have P640 : Rg p e below (T639.setTop (mkF m 7 #[sR a1, sI 2] [(.int (2 : Int32)), (.int (2 : Int32))])) B0 := fun t k => P637 t (by
          refine XS.ifYes X634.here hx rfl (pc0 := 18) (pc' := 23) rfl (hb hby dp23_5_18) rfl (XT.ll_eq_t (show y1 = (0 : Int64) from q638)) (by decide) (by decide) ?_
          refine XS.iinc X634.here hx rfl (hb hby dp23_5_23) rfl (l' := #[sR a1, sI 2]) rfl ?_
          refine XS.goto X634.here hx rfl (pc0 := 26) (pc' := 2) rfl (hb hby dp23_5_26) (by decide) (by decide) ?_
          refine XS.iloadN X634.here hx rfl (hb hby dp23_5_2) rfl ?_
          refine XS.aloadN X634.here hx rfl (hb hby dp23_5_3) rfl rfl ?_
          show Sg p e below (T634.setTop (mkF m 4 #[sR a1, sI 2] [(.ref a1), (.int (2 : Int32))])) _
          exact st639 _ k)
        obtain ⟨fs641, hr641, hrun641, hended641, hW641, hsame641⟩ := X639.leave (v := some (.int (1 : Int32))) (fun h => by rw [Bd.returns] at h; cases h)
        refine ⟨_, _, pre0 _ (P640 _ ?_), hrun641, hended641, _, _, rfl, ?_, ⟨⟨_, rfl⟩, hW641, hsame641.mono (Nat.le_of_ble_eq_true rfl) (Nat.le_of_ble_eq_true rfl)⟩⟩
        · show Sg p e below (T639.setTop (mkF m 7 #[sR a1, sI 2] [(.int (2 : Int32)), (.int (2 : Int32))])) _
          refine XS.icmpYes X639.here hx rfl (pc0 := 7) (pc' := 29) rfl (hb hby dp23_5_7) rfl (flt (show ¬ ((2 : Int32) < (2 : Int32)) from (by decide))).2.1 (by decide) (by decide) ?_
          refine XS.iconst X639.here hx rfl (hb hby dp23_5_29) ?_
          show Sg p e below (T639.setTop (mkF m 30 #[sR a1, sI 2] [(.int (1 : Int32))])) _
          exact retN X639 hx (t := .boolean) Bd.returns (by simp) (hb hby dp23_5_30) hr641
        · show Q_emp [y0, y1] h0 n0 _ T639.heap _
          rw [e639]
          exact ⟨congrArg (fun z => some (Value.int z)) (Eq.symm ((if_pos q631).trans ((if_pos q638).trans (rfl)))), N0, rfl⟩
      · skip
        obtain ⟨fs642, hr642, hrun642, hended642, hW642, hsame642⟩ := X634.leave (v := some (.int (0 : Int32))) (fun h => by rw [Bd.returns] at h; cases h)
        refine ⟨_, _, pre0 _ (P637 _ ?_), hrun642, hended642, _, _, rfl, ?_, ⟨⟨_, rfl⟩, hW642, hsame642.mono (Nat.le_of_ble_eq_true rfl) (Nat.le_of_ble_eq_true rfl)⟩⟩
        · show Sg p e below (T634.setTop (mkF m 18 #[sR a1, sI 1] [(.int (lcmpW y1 (0 : Int64)))])) _
          refine XS.ifNo X634.here hx rfl (hb hby dp23_5_18) rfl (XT.ll_eq_f (show ¬ (y1 = (0 : Int64)) from q638)) ?_
          refine XS.iconst X634.here hx rfl (hb hby dp23_5_21) ?_
          show Sg p e below (T634.setTop (mkF m 22 #[sR a1, sI 1] [(.int (0 : Int32))])) _
          exact retN X634 hx (t := .boolean) Bd.returns (by simp) (hb hby dp23_5_22) hr642
        · show Q_emp [y0, y1] h0 n0 _ T634.heap _
          rw [e634]
          exact ⟨congrArg (fun z => some (Value.int z)) (Eq.symm ((if_pos q631).trans ((if_neg q638).trans (rfl)))), N0, rfl⟩
    · skip
      obtain ⟨fs643, hr643, hrun643, hended643, hW643, hsame643⟩ := X627.leave (v := some (.int (0 : Int32))) (fun h => by rw [Bd.returns] at h; cases h)
      refine ⟨_, _, pre0 _ (P630 _ ?_), hrun643, hended643, _, _, rfl, ?_, ⟨⟨_, rfl⟩, hW643, hsame643.mono (Nat.le_of_ble_eq_true rfl) (Nat.le_of_ble_eq_true rfl)⟩⟩
      · show Sg p e below (T627.setTop (mkF m 18 #[sR a1, sI 0] [(.int (lcmpW y0 (0 : Int64)))])) _
        refine XS.ifNo X627.here hx rfl (hb hby dp23_5_18) rfl (XT.ll_eq_f (show ¬ (y0 = (0 : Int64)) from q631)) ?_
        refine XS.iconst X627.here hx rfl (hb hby dp23_5_21) ?_
        show Sg p e below (T627.setTop (mkF m 22 #[sR a1, sI 0] [(.int (0 : Int32))])) _
        exact retN X627 hx (t := .boolean) Bd.returns (by simp) (hb hby dp23_5_22) hr643
      · show Q_emp [y0, y1] h0 n0 _ T627.heap _
        rw [e627]
        exact ⟨congrArg (fun z => some (Value.int z)) (Eq.symm ((if_neg q631).trans (rfl))), N0, rfl⟩
  · skip
    have hc' : cn = (3 : Int32) := hc
    subst hc'
    obtain ⟨y0, y1, y2, rfl⟩ := own_len3 hl
    obtain ⟨T644, X644, e644, st644⟩ := getF X0 hx hZ hown (host := "") (Or.inl (own_hw hw 45 rfl)) Via.refl e0 Fc (g := (mkF m 4 #[sR a1, sI 0] [(.ref a1), (.int (0 : Int32))])) rfl rfl (hb hby dp23_5_4)
    have P645 : Rg p e below (T644.setTop (mkF m 7 #[sR a1, sI 0] [(.int (3 : Int32)), (.int (0 : Int32))])) B0 := fun t k => P0 t (by
      refine XS.iconst X0.here hx rfl (hb hby dp23_5_0) ?_
      refine XS.istoreN X0.here hx rfl (hb hby dp23_5_1) rfl (l' := #[sR a1, sI 0]) rfl ?_
      refine XS.iloadN X0.here hx rfl (hb hby dp23_5_2) rfl ?_
      refine XS.aloadN X0.here hx rfl (hb hby dp23_5_3) rfl rfl ?_
      show Sg p e below (s₁.setTop (mkF m 4 #[sR a1, sI 0] [(.ref a1), (.int (0 : Int32))])) _
      exact st644 _ k)
    obtain ⟨T646, X646, e646, st646⟩ := getF X644 hx hZ hown (host := "") (Or.inl (own_hw hw 36 rfl)) Via.refl e644 Fw (g := (mkF m 11 #[sR a1, sI 0] [(.ref a1)])) rfl rfl (hb hby dp23_5_11)
    have P647 : Rg p e below (T646.setTop (mkF m 14 #[sR a1, sI 0] [(.ref W)])) B0 := fun t k => P645 t (by
      refine XS.icmpNo X644.here hx rfl (hb hby dp23_5_7) rfl (tlt (show (0 : Int32) < (3 : Int32) from (by decide))).2.1 ?_
      refine XS.aloadN X644.here hx rfl (hb hby dp23_5_10) rfl rfl ?_
      show Sg p e below (T644.setTop (mkF m 11 #[sR a1, sI 0] [(.ref a1)])) _
      exact st646 _ k)
    obtain ⟨cl648, Ar648, -, S648, N648, H648, -⟩ := id AW
    have hin648 : ¬ ((0 : Int32) < 0 ∨ cl648.slots.size ≤ ((0 : Int32)).toNatClampNeg) := inb_of S648 (own_inb (own_hM2 hM hl hv) (k := 0) (by simp) (own_hm2 hm hl hv))
    have P649 : Rg p e below (T646.setTop (mkF m 18 #[sR a1, sI 0] [(.int (lcmpW y0 (0 : Int64)))])) B0 := fun t k => P647 t (by
      refine XS.iloadN X646.here hx rfl (hb hby dp23_5_14) rfl ?_
      show Sg p e below (T646.setTop (mkF m 15 #[sR a1, sI 0] [(.int (0 : Int32)), (.ref W)])) _
      refine X646.laload hx (j := (0 : Int32)) (v := (.long y0)) (by rw [e646]; exact Ar648.1) (State.isArrayOf_alike hZ.alike Ar648.2.1) Ar648.2.2 hin648 (H648.at hin648 rfl) (g := (mkF m 15 #[sR a1, sI 0] [(.int (0 : Int32)), (.ref W)])) rfl rfl (hb hby dp23_5_15) _ ?_
      show Sg p e below (T646.setTop (mkF m 16 #[sR a1, sI 0] [(.long y0)])) _
      refine XS.lconst X646.here hx rfl (hb hby dp23_5_16) ?_
      refine XS.lcmp X646.here hx rfl (hb hby dp23_5_17) rfl ?_
      show Sg p e below (T646.setTop (mkF m 18 #[sR a1, sI 0] [(.int (lcmpW y0 (0 : Int64)))])) _
      exact k)
    by_cases q650 : y0 = (0 : Int64)
    · skip
      obtain ⟨T651, X651, e651, st651⟩ := getF X646 hx hZ hown (host := "") (Or.inl (own_hw hw 45 rfl)) Via.refl e646 Fc (g := (mkF m 4 #[sR a1, sI 1] [(.ref a1), (.int (1 : Int32))])) rfl rfl (hb hby dp23_5_4)
      have P652 : Rg p e below (T651.setTop (mkF m 7 #[sR a1, sI 1] [(.int (3 : Int32)), (.int (1 : Int32))])) B0 := fun t k => P649 t (by
        refine XS.ifYes X646.here hx rfl (pc0 := 18) (pc' := 23) rfl (hb hby dp23_5_18) rfl (XT.ll_eq_t (show y0 = (0 : Int64) from q650)) (by decide) (by decide) ?_
        refine XS.iinc X646.here hx rfl (hb hby dp23_5_23) rfl (l' := #[sR a1, sI 1]) rfl ?_
        refine XS.goto X646.here hx rfl (pc0 := 26) (pc' := 2) rfl (hb hby dp23_5_26) (by decide) (by decide) ?_
        refine XS.iloadN X646.here hx rfl (hb hby dp23_5_2) rfl ?_
        refine XS.aloadN X646.here hx rfl (hb hby dp23_5_3) rfl rfl ?_
        show Sg p e below (T646.setTop (mkF m 4 #[sR a1, sI 1] [(.ref a1), (.int (1 : Int32))])) _
        exact st651 _ k)
      obtain ⟨T653, X653, e653, st653⟩ := getF X651 hx hZ hown (host := "") (Or.inl (own_hw hw 36 rfl)) Via.refl e651 Fw (g := (mkF m 11 #[sR a1, sI 1] [(.ref a1)])) rfl rfl (hb hby dp23_5_11)
      have P654 : Rg p e below (T653.setTop (mkF m 14 #[sR a1, sI 1] [(.ref W)])) B0 := fun t k => P652 t (by
        refine XS.icmpNo X651.here hx rfl (hb hby dp23_5_7) rfl (tlt (show (1 : Int32) < (3 : Int32) from (by decide))).2.1 ?_
        refine XS.aloadN X651.here hx rfl (hb hby dp23_5_10) rfl rfl ?_
        show Sg p e below (T651.setTop (mkF m 11 #[sR a1, sI 1] [(.ref a1)])) _
        exact st653 _ k)
      obtain ⟨cl655, Ar655, -, S655, N655, H655, -⟩ := id AW
      have hin655 : ¬ ((1 : Int32) < 0 ∨ cl655.slots.size ≤ ((1 : Int32)).toNatClampNeg) := inb_of S655 (own_inb (own_hM2 hM hl hv) (k := 1) (by simp) (own_hm2 hm hl hv))
      have P656 : Rg p e below (T653.setTop (mkF m 18 #[sR a1, sI 1] [(.int (lcmpW y1 (0 : Int64)))])) B0 := fun t k => P654 t (by
        refine XS.iloadN X653.here hx rfl (hb hby dp23_5_14) rfl ?_
        show Sg p e below (T653.setTop (mkF m 15 #[sR a1, sI 1] [(.int (1 : Int32)), (.ref W)])) _
        refine X653.laload hx (j := (1 : Int32)) (v := (.long y1)) (by rw [e653]; exact Ar655.1) (State.isArrayOf_alike hZ.alike Ar655.2.1) Ar655.2.2 hin655 (H655.at hin655 rfl) (g := (mkF m 15 #[sR a1, sI 1] [(.int (1 : Int32)), (.ref W)])) rfl rfl (hb hby dp23_5_15) _ ?_
        show Sg p e below (T653.setTop (mkF m 16 #[sR a1, sI 1] [(.long y1)])) _
        refine XS.lconst X653.here hx rfl (hb hby dp23_5_16) ?_
        refine XS.lcmp X653.here hx rfl (hb hby dp23_5_17) rfl ?_
        show Sg p e below (T653.setTop (mkF m 18 #[sR a1, sI 1] [(.int (lcmpW y1 (0 : Int64)))])) _
        exact k)
      by_cases q657 : y1 = (0 : Int64)
      · skip
        obtain ⟨T658, X658, e658, st658⟩ := getF X653 hx hZ hown (host := "") (Or.inl (own_hw hw 45 rfl)) Via.refl e653 Fc (g := (mkF m 4 #[sR a1, sI 2] [(.ref a1), (.int (2 : Int32))])) rfl rfl (hb hby dp23_5_4)
        have P659 : Rg p e below (T658.setTop (mkF m 7 #[sR a1, sI 2] [(.int (3 : Int32)), (.int (2 : Int32))])) B0 := fun t k => P656 t (by
          refine XS.ifYes X653.here hx rfl (pc0 := 18) (pc' := 23) rfl (hb hby dp23_5_18) rfl (XT.ll_eq_t (show y1 = (0 : Int64) from q657)) (by decide) (by decide) ?_
          refine XS.iinc X653.here hx rfl (hb hby dp23_5_23) rfl (l' := #[sR a1, sI 2]) rfl ?_
          refine XS.goto X653.here hx rfl (pc0 := 26) (pc' := 2) rfl (hb hby dp23_5_26) (by decide) (by decide) ?_
          refine XS.iloadN X653.here hx rfl (hb hby dp23_5_2) rfl ?_
          refine XS.aloadN X653.here hx rfl (hb hby dp23_5_3) rfl rfl ?_
          show Sg p e below (T653.setTop (mkF m 4 #[sR a1, sI 2] [(.ref a1), (.int (2 : Int32))])) _
          exact st658 _ k)
        obtain ⟨T660, X660, e660, st660⟩ := getF X658 hx hZ hown (host := "") (Or.inl (own_hw hw 36 rfl)) Via.refl e658 Fw (g := (mkF m 11 #[sR a1, sI 2] [(.ref a1)])) rfl rfl (hb hby dp23_5_11)
        have P661 : Rg p e below (T660.setTop (mkF m 14 #[sR a1, sI 2] [(.ref W)])) B0 := fun t k => P659 t (by
          refine XS.icmpNo X658.here hx rfl (hb hby dp23_5_7) rfl (tlt (show (2 : Int32) < (3 : Int32) from (by decide))).2.1 ?_
          refine XS.aloadN X658.here hx rfl (hb hby dp23_5_10) rfl rfl ?_
          show Sg p e below (T658.setTop (mkF m 11 #[sR a1, sI 2] [(.ref a1)])) _
          exact st660 _ k)
        obtain ⟨cl662, Ar662, -, S662, N662, H662, -⟩ := id AW
        have hin662 : ¬ ((2 : Int32) < 0 ∨ cl662.slots.size ≤ ((2 : Int32)).toNatClampNeg) := inb_of S662 (own_inb (own_hM2 hM hl hv) (k := 2) (by simp) (own_hm2 hm hl hv))
        have P663 : Rg p e below (T660.setTop (mkF m 18 #[sR a1, sI 2] [(.int (lcmpW y2 (0 : Int64)))])) B0 := fun t k => P661 t (by
          refine XS.iloadN X660.here hx rfl (hb hby dp23_5_14) rfl ?_
          show Sg p e below (T660.setTop (mkF m 15 #[sR a1, sI 2] [(.int (2 : Int32)), (.ref W)])) _
          refine X660.laload hx (j := (2 : Int32)) (v := (.long y2)) (by rw [e660]; exact Ar662.1) (State.isArrayOf_alike hZ.alike Ar662.2.1) Ar662.2.2 hin662 (H662.at hin662 rfl) (g := (mkF m 15 #[sR a1, sI 2] [(.int (2 : Int32)), (.ref W)])) rfl rfl (hb hby dp23_5_15) _ ?_
          show Sg p e below (T660.setTop (mkF m 16 #[sR a1, sI 2] [(.long y2)])) _
          refine XS.lconst X660.here hx rfl (hb hby dp23_5_16) ?_
          refine XS.lcmp X660.here hx rfl (hb hby dp23_5_17) rfl ?_
          show Sg p e below (T660.setTop (mkF m 18 #[sR a1, sI 2] [(.int (lcmpW y2 (0 : Int64)))])) _
          exact k)
        by_cases q664 : y2 = (0 : Int64)
        · skip
          obtain ⟨T665, X665, e665, st665⟩ := getF X660 hx hZ hown (host := "") (Or.inl (own_hw hw 45 rfl)) Via.refl e660 Fc (g := (mkF m 4 #[sR a1, sI 3] [(.ref a1), (.int (3 : Int32))])) rfl rfl (hb hby dp23_5_4)
          have P666 : Rg p e below (T665.setTop (mkF m 7 #[sR a1, sI 3] [(.int (3 : Int32)), (.int (3 : Int32))])) B0 := fun t k => P663 t (by
            refine XS.ifYes X660.here hx rfl (pc0 := 18) (pc' := 23) rfl (hb hby dp23_5_18) rfl (XT.ll_eq_t (show y2 = (0 : Int64) from q664)) (by decide) (by decide) ?_
            refine XS.iinc X660.here hx rfl (hb hby dp23_5_23) rfl (l' := #[sR a1, sI 3]) rfl ?_
            refine XS.goto X660.here hx rfl (pc0 := 26) (pc' := 2) rfl (hb hby dp23_5_26) (by decide) (by decide) ?_
            refine XS.iloadN X660.here hx rfl (hb hby dp23_5_2) rfl ?_
            refine XS.aloadN X660.here hx rfl (hb hby dp23_5_3) rfl rfl ?_
            show Sg p e below (T660.setTop (mkF m 4 #[sR a1, sI 3] [(.ref a1), (.int (3 : Int32))])) _
            exact st665 _ k)
          obtain ⟨fs667, hr667, hrun667, hended667, hW667, hsame667⟩ := X665.leave (v := some (.int (1 : Int32))) (fun h => by rw [Bd.returns] at h; cases h)
          refine ⟨_, _, pre0 _ (P666 _ ?_), hrun667, hended667, _, _, rfl, ?_, ⟨⟨_, rfl⟩, hW667, hsame667.mono (Nat.le_of_ble_eq_true rfl) (Nat.le_of_ble_eq_true rfl)⟩⟩
          · show Sg p e below (T665.setTop (mkF m 7 #[sR a1, sI 3] [(.int (3 : Int32)), (.int (3 : Int32))])) _
            refine XS.icmpYes X665.here hx rfl (pc0 := 7) (pc' := 29) rfl (hb hby dp23_5_7) rfl (flt (show ¬ ((3 : Int32) < (3 : Int32)) from (by decide))).2.1 (by decide) (by decide) ?_
            refine XS.iconst X665.here hx rfl (hb hby dp23_5_29) ?_
            show Sg p e below (T665.setTop (mkF m 30 #[sR a1, sI 3] [(.int (1 : Int32))])) _
            exact retN X665 hx (t := .boolean) Bd.returns (by simp) (hb hby dp23_5_30) hr667
          · show Q_emp [y0, y1, y2] h0 n0 _ T665.heap _
            rw [e665]
            exact ⟨congrArg (fun z => some (Value.int z)) (Eq.symm ((if_pos q650).trans ((if_pos q657).trans ((if_pos q664).trans (rfl))))), N0, rfl⟩
        · skip
          obtain ⟨fs668, hr668, hrun668, hended668, hW668, hsame668⟩ := X660.leave (v := some (.int (0 : Int32))) (fun h => by rw [Bd.returns] at h; cases h)
          refine ⟨_, _, pre0 _ (P663 _ ?_), hrun668, hended668, _, _, rfl, ?_, ⟨⟨_, rfl⟩, hW668, hsame668.mono (Nat.le_of_ble_eq_true rfl) (Nat.le_of_ble_eq_true rfl)⟩⟩
          · show Sg p e below (T660.setTop (mkF m 18 #[sR a1, sI 2] [(.int (lcmpW y2 (0 : Int64)))])) _
            refine XS.ifNo X660.here hx rfl (hb hby dp23_5_18) rfl (XT.ll_eq_f (show ¬ (y2 = (0 : Int64)) from q664)) ?_
            refine XS.iconst X660.here hx rfl (hb hby dp23_5_21) ?_
            show Sg p e below (T660.setTop (mkF m 22 #[sR a1, sI 2] [(.int (0 : Int32))])) _
            exact retN X660 hx (t := .boolean) Bd.returns (by simp) (hb hby dp23_5_22) hr668
          · show Q_emp [y0, y1, y2] h0 n0 _ T660.heap _
            rw [e660]
            exact ⟨congrArg (fun z => some (Value.int z)) (Eq.symm ((if_pos q650).trans ((if_pos q657).trans ((if_neg q664).trans (rfl))))), N0, rfl⟩
      · skip
        obtain ⟨fs669, hr669, hrun669, hended669, hW669, hsame669⟩ := X653.leave (v := some (.int (0 : Int32))) (fun h => by rw [Bd.returns] at h; cases h)
        refine ⟨_, _, pre0 _ (P656 _ ?_), hrun669, hended669, _, _, rfl, ?_, ⟨⟨_, rfl⟩, hW669, hsame669.mono (Nat.le_of_ble_eq_true rfl) (Nat.le_of_ble_eq_true rfl)⟩⟩
        · show Sg p e below (T653.setTop (mkF m 18 #[sR a1, sI 1] [(.int (lcmpW y1 (0 : Int64)))])) _
          refine XS.ifNo X653.here hx rfl (hb hby dp23_5_18) rfl (XT.ll_eq_f (show ¬ (y1 = (0 : Int64)) from q657)) ?_
          refine XS.iconst X653.here hx rfl (hb hby dp23_5_21) ?_
          show Sg p e below (T653.setTop (mkF m 22 #[sR a1, sI 1] [(.int (0 : Int32))])) _
          exact retN X653 hx (t := .boolean) Bd.returns (by simp) (hb hby dp23_5_22) hr669
        · show Q_emp [y0, y1, y2] h0 n0 _ T653.heap _
          rw [e653]
          exact ⟨congrArg (fun z => some (Value.int z)) (Eq.symm ((if_pos q650).trans ((if_neg q657).trans (rfl)))), N0, rfl⟩
    · skip
      obtain ⟨fs670, hr670, hrun670, hended670, hW670, hsame670⟩ := X646.leave (v := some (.int (0 : Int32))) (fun h => by rw [Bd.returns] at h; cases h)
      refine ⟨_, _, pre0 _ (P649 _ ?_), hrun670, hended670, _, _, rfl, ?_, ⟨⟨_, rfl⟩, hW670, hsame670.mono (Nat.le_of_ble_eq_true rfl) (Nat.le_of_ble_eq_true rfl)⟩⟩
      · show Sg p e below (T646.setTop (mkF m 18 #[sR a1, sI 0] [(.int (lcmpW y0 (0 : Int64)))])) _
        refine XS.ifNo X646.here hx rfl (hb hby dp23_5_18) rfl (XT.ll_eq_f (show ¬ (y0 = (0 : Int64)) from q650)) ?_
        refine XS.iconst X646.here hx rfl (hb hby dp23_5_21) ?_
        show Sg p e below (T646.setTop (mkF m 22 #[sR a1, sI 0] [(.int (0 : Int32))])) _
        exact retN X646 hx (t := .boolean) Bd.returns (by simp) (hb hby dp23_5_22) hr670
      · show Q_emp [y0, y1, y2] h0 n0 _ T646.heap _
        rw [e646]
        exact ⟨congrArg (fun z => some (Value.int z)) (Eq.symm ((if_neg q650).trans (rfl))), N0, rfl⟩
  · exact absurd hlen (by simp)
theorem dp23_2_0 : decode prog_23_method_2_code 0 = .ok (.aload_n 1, 1) := by decide +kernel
theorem dp23_2_1 : decode prog_23_method_2_code 1 = .ok (.getfield 17, 3) := by decide +kernel
theorem dp23_2_4 : decode prog_23_method_2_code 4 = .ok (.iload_n 2, 1) := by decide +kernel
theorem dp23_2_5 : decode prog_23_method_2_code 5 = .ok (.aaload, 1) := by decide +kernel
theorem dp23_2_6 : decode prog_23_method_2_code 6 = .ok (.astore_n 3, 1) := by decide +kernel
theorem dp23_2_7 : decode prog_23_method_2_code 7 = .ok (.aload_n 1, 1) := by decide +kernel
theorem dp23_2_8 : decode prog_23_method_2_code 8 = .ok (.getfield 22, 3) := by decide +kernel
theorem dp23_2_11 : decode prog_23_method_2_code 11 = .ok (.iload_n 2, 1) := by decide +kernel
theorem dp23_2_12 : decode prog_23_method_2_code 12 = .ok (.aaload, 1) := by decide +kernel
theorem dp23_2_13 : decode prog_23_method_2_code 13 = .ok (.astore 4, 2) := by decide +kernel
theorem dp23_2_15 : decode prog_23_method_2_code 15 = .ok (.aload_n 0, 1) := by decide +kernel
theorem dp23_2_16 : decode prog_23_method_2_code 16 = .ok (.getfield 7, 3) := by decide +kernel
theorem dp23_2_19 : decode prog_23_method_2_code 19 = .ok (.arraylength, 1) := by decide +kernel
theorem dp23_2_20 : decode prog_23_method_2_code 20 = .ok (.aload_n 3, 1) := by decide +kernel
theorem dp23_2_21 : decode prog_23_method_2_code 21 = .ok (.arraylength, 1) := by decide +kernel
theorem dp23_2_22 : decode prog_23_method_2_code 22 = .ok (.if_icmp .ge 19, 3) := by decide +kernel
theorem dp23_2_25 : decode prog_23_method_2_code 25 = .ok (.aload_n 0, 1) := by decide +kernel
theorem dp23_2_26 : decode prog_23_method_2_code 26 = .ok (.aload_n 3, 1) := by decide +kernel
theorem dp23_2_27 : decode prog_23_method_2_code 27 = .ok (.arraylength, 1) := by decide +kernel
theorem dp23_2_28 : decode prog_23_method_2_code 28 = .ok (.newarray .int, 2) := by decide +kernel
theorem dp23_2_30 : decode prog_23_method_2_code 30 = .ok (.putfield 7, 3) := by decide +kernel
theorem dp23_2_33 : decode prog_23_method_2_code 33 = .ok (.aload_n 0, 1) := by decide +kernel
theorem dp23_2_34 : decode prog_23_method_2_code 34 = .ok (.aload_n 3, 1) := by decide +kernel
theorem dp23_2_35 : decode prog_23_method_2_code 35 = .ok (.arraylength, 1) := by decide +kernel
theorem dp23_2_36 : decode prog_23_method_2_code 36 = .ok (.newarray .long, 2) := by decide +kernel
theorem dp23_2_38 : decode prog_23_method_2_code 38 = .ok (.putfield 13, 3) := by decide +kernel
theorem dp23_2_41 : decode prog_23_method_2_code 41 = .ok (.aload_n 0, 1) := by decide +kernel
theorem dp23_2_42 : decode prog_23_method_2_code 42 = .ok (.iconst 0, 1) := by decide +kernel
theorem dp23_2_43 : decode prog_23_method_2_code 43 = .ok (.putfield 25, 3) := by decide +kernel
theorem dp23_2_46 : decode prog_23_method_2_code 46 = .ok (.iconst 0, 1) := by decide +kernel
theorem dp23_2_47 : decode prog_23_method_2_code 47 = .ok (.istore 5, 2) := by decide +kernel
theorem dp23_2_49 : decode prog_23_method_2_code 49 = .ok (.iload 5, 2) := by decide +kernel
theorem dp23_2_51 : decode prog_23_method_2_code 51 = .ok (.aload_n 3, 1) := by decide +kernel
theorem dp23_2_52 : decode prog_23_method_2_code 52 = .ok (.arraylength, 1) := by decide +kernel
theorem dp23_2_53 : decode prog_23_method_2_code 53 = .ok (.if_icmp .ge 53, 3) := by decide +kernel
theorem dp23_2_56 : decode prog_23_method_2_code 56 = .ok (.aload 4, 2) := by decide +kernel
theorem dp23_2_58 : decode prog_23_method_2_code 58 = .ok (.iload 5, 2) := by decide +kernel
theorem dp23_2_60 : decode prog_23_method_2_code 60 = .ok (.laload, 1) := by decide +kernel
theorem dp23_2_61 : decode prog_23_method_2_code 61 = .ok (.lconst 0, 1) := by decide +kernel
theorem dp23_2_62 : decode prog_23_method_2_code 62 = .ok (.lcmp, 1) := by decide +kernel
theorem dp23_2_63 : decode prog_23_method_2_code 63 = .ok (.ifCond .eq 37, 3) := by decide +kernel
theorem dp23_2_66 : decode prog_23_method_2_code 66 = .ok (.aload_n 0, 1) := by decide +kernel
theorem dp23_2_67 : decode prog_23_method_2_code 67 = .ok (.getfield 7, 3) := by decide +kernel
theorem dp23_2_70 : decode prog_23_method_2_code 70 = .ok (.aload_n 0, 1) := by decide +kernel
theorem dp23_2_71 : decode prog_23_method_2_code 71 = .ok (.getfield 25, 3) := by decide +kernel
theorem dp23_2_74 : decode prog_23_method_2_code 74 = .ok (.aload_n 3, 1) := by decide +kernel
theorem dp23_2_75 : decode prog_23_method_2_code 75 = .ok (.iload 5, 2) := by decide +kernel
theorem dp23_2_77 : decode prog_23_method_2_code 77 = .ok (.iaload, 1) := by decide +kernel
theorem dp23_2_78 : decode prog_23_method_2_code 78 = .ok (.iastore, 1) := by decide +kernel
theorem dp23_2_79 : decode prog_23_method_2_code 79 = .ok (.aload_n 0, 1) := by decide +kernel
theorem dp23_2_80 : decode prog_23_method_2_code 80 = .ok (.getfield 13, 3) := by decide +kernel
theorem dp23_2_83 : decode prog_23_method_2_code 83 = .ok (.aload_n 0, 1) := by decide +kernel
theorem dp23_2_84 : decode prog_23_method_2_code 84 = .ok (.dup, 1) := by decide +kernel
theorem dp23_2_85 : decode prog_23_method_2_code 85 = .ok (.getfield 25, 3) := by decide +kernel
theorem dp23_2_88 : decode prog_23_method_2_code 88 = .ok (.dup_x1, 1) := by decide +kernel
theorem dp23_2_89 : decode prog_23_method_2_code 89 = .ok (.iconst 1, 1) := by decide +kernel
theorem dp23_2_90 : decode prog_23_method_2_code 90 = .ok (.iadd, 1) := by decide +kernel
theorem dp23_2_91 : decode prog_23_method_2_code 91 = .ok (.putfield 25, 3) := by decide +kernel
theorem dp23_2_94 : decode prog_23_method_2_code 94 = .ok (.aload 4, 2) := by decide +kernel
theorem dp23_2_96 : decode prog_23_method_2_code 96 = .ok (.iload 5, 2) := by decide +kernel
theorem dp23_2_98 : decode prog_23_method_2_code 98 = .ok (.laload, 1) := by decide +kernel
theorem dp23_2_99 : decode prog_23_method_2_code 99 = .ok (.lastore, 1) := by decide +kernel
theorem dp23_2_100 : decode prog_23_method_2_code 100 = .ok (.iinc 5 1, 3) := by decide +kernel
theorem dp23_2_103 : decode prog_23_method_2_code 103 = .ok (.goto (-54), 3) := by decide +kernel
theorem dp23_2_106 : decode prog_23_method_2_code 106 = .ok (.return_, 1) := by decide +kernel
theorem ef_stf (m : MethodId) (x0 : Addr) (x1 : Addr) (x2 : Int32) : entryFrame m #[(.ref x0), (.ref x1), (.int x2)] 6 = mkF m 0 #[sR x0, sR x1, sI x2, sU, sU, sU] [] := by (first | (simp [entryFrame, mkF, argsToLocals, Value.category]; done) | rfl)
def Q_stf (Z : State) (a1 : Addr) (N : Int32) (pl : List Int32) (wl : List Int64) (h0 : Heap) (n0 : Nat) (v : Option Value) (h : Heap) (L : List Loc) : Prop := v = none ∧ Fr n0 L ∧ Keep h0 h [a1] ∧ Exa Z h a1 sM ∧ Fld Z h a1 sM "count" "I" (.int N) ∧ ∃ (P2 W2 : Addr) (k k2 : ClassId), Fld Z h a1 sM "places" "[I" (.ref P2) ∧ Fld Z h a1 sM "words" "[J" (.ref W2) ∧ Arv Z h P2 k .int N (pl.map Value.int) (.int (0 : Int32)) ∧ Arv Z h W2 k2 .long N (wl.map Value.long) (.long (0 : Int64)) ∧ Exa Z h P2 "[I" ∧ Exa Z h W2 "[J" ∧ h0.size ≤ P2 ∧ h0.size ≤ W2
set_option maxRecDepth 65536 in
set_option maxHeartbeats 40000000 in
theorem rm_stf (l : Launch) (Z : State) (a0 : Array Value) (hw : ∀ d ∈ tables_1, d.before a0 Z = true) (ws : List Jvm.Cond) (a1 P W : Addr) (kP : ClassId) (fa PP WW f0 g0 : Addr) (kPP kWW kf kg : ClassId) (N : Int32) (pl : List Int32) (wl : List Int64) (h0 : Heap) (n0 : Nat) (Z0 : n0 ≤ h0.size) (g_a1 : n0 ≤ a1) (E1 : Exa Z h0 a1 sM) (Fp : Fld Z h0 a1 sM "places" "[I" (.ref P)) (Fw : Fld Z h0 a1 sM "words" "[J" (.ref W)) (Fc : Fld Z h0 a1 sM "count" "I" (.int (0 : Int32))) (AP : Arv Z h0 P kP .int (0 : Int32) ([] : List Value) (.int (0 : Int32))) (Ef : Exa Z h0 fa sW) (Ffp : Fld Z h0 fa sW "places" "[[I" (.ref PP)) (Ffw : Fld Z h0 fa sW "words" "[[J" (.ref WW)) (APP : Arv Z h0 PP kPP (.array .int) (1 : Int32) [(.ref f0)] .null) (AWW : Arv Z h0 WW kWW (.array .long) (1 : Int32) [(.ref g0)] .null) (Af : Arv Z h0 f0 kf .int N (pl.map Value.int) (.int (0 : Int32))) (Ag : Arv Z h0 g0 kg .long N (wl.map Value.long) (.long (0 : Int64))) (hN : N = Int32.ofNat pl.length) (hpl : pl.length ≤ 3) (hp0 : 0 < pl.length) (hwl : wl.length = pl.length) (hnz : ∀ y ∈ wl, ¬ y = (0 : Int64)) :
    MetFree l (⟨"com/example/whittle/whittle/engine/WordSets$Meet", "start", "(Lcom/example/whittle/whittle/engine/WordSets;I)V"⟩ : MethodName) (head1 (Jvm.Cond.code (⟨"com/example/whittle/whittle/engine/WordSets$Meet", "start", "(Lcom/example/whittle/whittle/engine/WordSets;I)V"⟩ : MethodName) prog_23_method_2_code 6 none :: ws) ({ frames := 0, cells := 2, slots := 6, locals := 0 } : Room)) (fun a U => a = #[(.ref a1), (.ref fa), (.int (0 : Int32))] ∧ Z.Warmed39 U.vm ∧ U.heap = h0) (fun _ _ _ _ _ => True) (fun _ U o U' => ∃ v L, o = .returned v ∧ Q_stf Z a1 N pl wl h0 n0 v U'.heap L ∧ FrameEnd U o U' L ({ frames := 0, cells := 2, slots := 6, locals := 0 } : Room).cells ({ frames := 0, cells := 2, slots := 6, locals := 0 } : Room).slots) := by
  refine MetFree.of_bodySF (plainFor_of_name pn_com_example_whittle_whittle_engine_WordSets_Meet) hisR ?_
  intro p e s m args below meth c s₁ Bd hml0 hP hK
  obtain ⟨rfl, hZ, hh⟩ := hP
  have hx := Bd.exec
  have hby := Bd.bytes
  have hml : c.maxLocals = 6 := hml0
  have hown : s.vm.findClass "com/example/whittle/whittle/engine/WordSets$Meet" = some m.cls := findClass_of_methodNamed Bd.named
  have hnm := (name_of_methodNamed Bd.named Bd.method).1
  have X0 : Stand p l e ({ frames := 0, cells := 2, slots := 6, locals := 0 } : Room) s m #[(.ref a1), (.ref fa), (.int (0 : Int32))] below meth c s₁ [] 0 0 := Stand.of_body Bd
  have e0 : s₁.heap = h0 := by rw [← hh, Bd.state]; rfl
  have N0 := Fr.nil n0
  have pre0 : ∀ t, Sg p e below (s₁.setTop (mkF m 0 #[sR a1, sR fa, sI 0, sU, sU, sU] [])) t → Steps p.tables e below (s₁.setTop (entryFrame m #[(.ref a1), (.ref fa), (.int (0 : Int32))] 6)) t := fun t k => castTop (ef_stf m a1 fa (0 : Int32)) k
  have P0 : ∀ t, Sg p e below (s₁.setTop (mkF m 0 #[sR a1, sR fa, sI 0, sU, sU, sU] [])) t → Sg p e below (s₁.setTop (mkF m 0 #[sR a1, sR fa, sI 0, sU, sU, sU] [])) t := fun t k => k
  obtain ⟨B0, pre0, P0⟩ : ∃ B : State, (∀ t, Steps p.tables e below B t → Steps p.tables e below (s₁.setTop (entryFrame m #[(.ref a1), (.ref fa), (.int (0 : Int32))] 6)) t) ∧ Rg p e below (s₁.setTop (mkF m 0 #[sR a1, sR fa, sI 0, sU, sU, sU] [])) B := ⟨_, pre0, P0⟩
  rcases pl with _ | ⟨x0, _ | ⟨x1, _ | ⟨x2, _ | ⟨x3, pl⟩⟩⟩⟩
  · skip
    exact absurd hp0 (by simp)
  · skip
    obtain ⟨y0, rfl⟩ := own_len1 hwl
    have hN' : N = (1 : Int32) := hN
    subst hN'
    have z_y0 := hnz y0 (by simp)
    obtain ⟨T671, X671, e671, st671⟩ := getF X0 hx hZ hown (Or.inr (own_hw hw 43 rfl)) Via.refl e0 Ffp (g := (mkF m 1 #[sR a1, sR fa, sI 0, sU, sU, sU] [(.ref fa)])) rfl rfl (hb hby dp23_2_1)
    have P672 : Rg p e below (T671.setTop (mkF m 4 #[sR a1, sR fa, sI 0, sU, sU, sU] [(.ref PP)])) B0 := fun t k => P0 t (by
      refine XS.aloadN X0.here hx rfl (hb hby dp23_2_0) rfl rfl ?_
      show Sg p e below (s₁.setTop (mkF m 1 #[sR a1, sR fa, sI 0, sU, sU, sU] [(.ref fa)])) _
      exact st671 _ k)
    obtain ⟨cl673, Ar673, -, S673, N673, H673, -⟩ := id APP
    have hin673 : ¬ ((0 : Int32) < 0 ∨ cl673.slots.size ≤ ((0 : Int32)).toNatClampNeg) := inb_of S673 ⟨by decide, by decide⟩
    obtain ⟨T674, X674, e674, st674⟩ := getF X671 hx hZ hown (Or.inr (own_hw hw 44 rfl)) Via.refl e671 Ffw (g := (mkF m 8 #[sR a1, sR fa, sI 0, sR f0, sU, sU] [(.ref fa)])) rfl rfl (hb hby dp23_2_8)
    have P675 : Rg p e below (T674.setTop (mkF m 11 #[sR a1, sR fa, sI 0, sR f0, sU, sU] [(.ref WW)])) B0 := fun t k => P672 t (by
      refine XS.iloadN X671.here hx rfl (hb hby dp23_2_4) rfl ?_
      show Sg p e below (T671.setTop (mkF m 5 #[sR a1, sR fa, sI 0, sU, sU, sU] [(.int (0 : Int32)), (.ref PP)])) _
      refine X671.aaload hx (j := (0 : Int32)) (v := (.ref f0)) (by rw [e671]; exact Ar673.1) (State.isArrayOf_alike hZ.alike Ar673.2.1) rfl Ar673.2.2 hin673 (H673.at hin673 rfl) (g := (mkF m 5 #[sR a1, sR fa, sI 0, sU, sU, sU] [(.int (0 : Int32)), (.ref PP)])) rfl rfl (hb hby dp23_2_5) _ ?_
      show Sg p e below (T671.setTop (mkF m 6 #[sR a1, sR fa, sI 0, sU, sU, sU] [(.ref f0)])) _
      refine XS.astoreN X671.here hx rfl (hb hby dp23_2_6) rfl rfl (l' := #[sR a1, sR fa, sI 0, sR f0, sU, sU]) rfl ?_
      refine XS.aloadN X671.here hx rfl (hb hby dp23_2_7) rfl rfl ?_
      show Sg p e below (T671.setTop (mkF m 8 #[sR a1, sR fa, sI 0, sR f0, sU, sU] [(.ref fa)])) _
      exact st674 _ k)
    obtain ⟨cl676, Ar676, -, S676, N676, H676, -⟩ := id AWW
    have hin676 : ¬ ((0 : Int32) < 0 ∨ cl676.slots.size ≤ ((0 : Int32)).toNatClampNeg) := inb_of S676 ⟨by decide, by decide⟩
    obtain ⟨T677, X677, e677, st677⟩ := getF X674 hx hZ hown (host := "") (Or.inl (own_hw hw 34 rfl)) Via.refl e674 Fp (g := (mkF m 16 #[sR a1, sR fa, sI 0, sR f0, sR g0, sU] [(.ref a1)])) rfl rfl (hb hby dp23_2_16)
    have P678 : Rg p e below (T677.setTop (mkF m 19 #[sR a1, sR fa, sI 0, sR f0, sR g0, sU] [(.ref P)])) B0 := fun t k => P675 t (by
      refine XS.iloadN X674.here hx rfl (hb hby dp23_2_11) rfl ?_
      show Sg p e below (T674.setTop (mkF m 12 #[sR a1, sR fa, sI 0, sR f0, sU, sU] [(.int (0 : Int32)), (.ref WW)])) _
      refine X674.aaload hx (j := (0 : Int32)) (v := (.ref g0)) (by rw [e674]; exact Ar676.1) (State.isArrayOf_alike hZ.alike Ar676.2.1) rfl Ar676.2.2 hin676 (H676.at hin676 rfl) (g := (mkF m 12 #[sR a1, sR fa, sI 0, sR f0, sU, sU] [(.int (0 : Int32)), (.ref WW)])) rfl rfl (hb hby dp23_2_12) _ ?_
      show Sg p e below (T674.setTop (mkF m 13 #[sR a1, sR fa, sI 0, sR f0, sU, sU] [(.ref g0)])) _
      refine XS.astore X674.here hx rfl (hb hby dp23_2_13) rfl rfl (l' := #[sR a1, sR fa, sI 0, sR f0, sR g0, sU]) rfl ?_
      refine XS.aloadN X674.here hx rfl (hb hby dp23_2_15) rfl rfl ?_
      show Sg p e below (T674.setTop (mkF m 16 #[sR a1, sR fa, sI 0, sR f0, sR g0, sU] [(.ref a1)])) _
      exact st677 _ k)
    obtain ⟨cl679, Ar679, -, S679, N679, -, -⟩ := id AP
    obtain ⟨cl680, Ar680, -, S680, N680, -, -⟩ := id Af
    obtain ⟨cl681, Ar681, -, S681, N681, -, -⟩ := id Af
    obtain ⟨T682, h682, k682, X682, e682, E682, A682, B682, st682⟩ := newPE X677 hx hZ (own_hw hw 7 rfl) e677 (g := (mkF m 28 #[sR a1, sR fa, sI 0, sR f0, sR g0, sU] [(.int (1 : Int32)), (.ref a1)])) rfl (hb hby dp23_2_28) rfl (by decide) (cap := 1) (by decide) (by decide) (by decide) (by decide) (ad := "[I") (by decide)
    obtain ⟨b682, g682⟩ : ∃ z, z = h0.size := ⟨_, rfl⟩
    rw [← g682] at A682 B682 st682
    have g_b682 : n0 ≤ b682 := Nat.le_trans Z0 (Nat.le_of_eq g682.symm)
    have sz_b682 : h0.size ≤ b682 := Nat.le_trans (Keep.refl h0 [a1]).1 (Nat.le_of_eq g682.symm)
    have P683 : Rg p e below (T682.setTop (mkF m 30 #[sR a1, sR fa, sI 0, sR f0, sR g0, sU] [(.ref b682), (.ref a1)])) B0 := fun t k => P678 t (by
      refine X677.arraylength hx (by rw [e677]; exact Ar679.1) (State.isArrayOf_alike hZ.alike Ar679.2.1) (g := (mkF m 19 #[sR a1, sR fa, sI 0, sR f0, sR g0, sU] [(.ref P)])) rfl rfl (hb hby dp23_2_19) _ ?_
      rw [len_of S679 N679]
      show Sg p e below (T677.setTop (mkF m 20 #[sR a1, sR fa, sI 0, sR f0, sR g0, sU] [(.int (0 : Int32))])) _
      refine XS.aloadN X677.here hx rfl (hb hby dp23_2_20) rfl rfl ?_
      show Sg p e below (T677.setTop (mkF m 21 #[sR a1, sR fa, sI 0, sR f0, sR g0, sU] [(.ref f0), (.int (0 : Int32))])) _
      refine X677.arraylength hx (by rw [e677]; exact Ar680.1) (State.isArrayOf_alike hZ.alike Ar680.2.1) (g := (mkF m 21 #[sR a1, sR fa, sI 0, sR f0, sR g0, sU] [(.ref f0), (.int (0 : Int32))])) rfl rfl (hb hby dp23_2_21) _ ?_
      rw [len_of S680 N680]
      show Sg p e below (T677.setTop (mkF m 22 #[sR a1, sR fa, sI 0, sR f0, sR g0, sU] [(.int (1 : Int32)), (.int (0 : Int32))])) _
      refine XS.icmpNo X677.here hx rfl (hb hby dp23_2_22) rfl (tlt (show (0 : Int32) < (1 : Int32) from (by decide))).2.1 ?_
      refine XS.aloadN X677.here hx rfl (hb hby dp23_2_25) rfl rfl ?_
      refine XS.aloadN X677.here hx rfl (hb hby dp23_2_26) rfl rfl ?_
      show Sg p e below (T677.setTop (mkF m 27 #[sR a1, sR fa, sI 0, sR f0, sR g0, sU] [(.ref f0), (.ref a1)])) _
      refine X677.arraylength hx (by rw [e677]; exact Ar681.1) (State.isArrayOf_alike hZ.alike Ar681.2.1) (g := (mkF m 27 #[sR a1, sR fa, sI 0, sR f0, sR g0, sU] [(.ref f0), (.ref a1)])) rfl rfl (hb hby dp23_2_27) _ ?_
      rw [len_of S681 N681]
      show Sg p e below (T677.setTop (mkF m 28 #[sR a1, sR fa, sI 0, sR f0, sR g0, sU] [(.int (1 : Int32)), (.ref a1)])) _
      exact st682 _ k)
    have Z684 : n0 ≤ h682.size := Nat.le_trans Z0 E682.1
    have K685 : Keep h0 h682 [a1] := (Keep.refl h0 [a1]).ext E682
    have v686 : Arv Z h682 b682 k682 .int (1 : Int32) [(.int (0 : Int32))] (.int (0 : Int32)) := (Arv.new A682 (by decide)).pad (pad_rep [] (.int (0 : Int32)) 1)
    have f687 := (Fp.ext E682)
    have f688 := (E1.ext E682)
    obtain ⟨T689, h689, X689, e689, W689, st689⟩ := putF X682 hx hZ hown (host := "") (Or.inl (own_hw hw 34 rfl)) Via.refl e682 f687 f688 (Or.inl (own_hw hw 35 rfl)) (own_hw hw 28 rfl) (ty := (.array .int)) (by decide) rfl rfl (g := (mkF m 30 #[sR a1, sR fa, sI 0, sR f0, sR g0, sU] [(.ref b682), (.ref a1)])) rfl rfl (hb hby dp23_2_30)
    have P690 : Rg p e below (T689.setTop (mkF m 33 #[sR a1, sR fa, sI 0, sR f0, sR g0, sU] [])) B0 := fun t k => P683 t (by
      exact st689 _ k)
    have f691 := f687.same W689
    have N692 := Fr.snoc X689 N0 g_a1
    have Z693 : n0 ≤ h689.size := Nat.le_trans Z684 (Keep.of_wr W689).1
    have K694 : Keep h0 h689 [a1] := K685.wr W689 (Or.inl (List.mem_of_getElem? (i := 0) rfl))
    have f695 := ((Af.ext E682).other W689 (Ne.symm (Exa.neArv E1 Af (own_hw hw 28 rfl))))
    obtain ⟨cl696, Ar696, -, S696, N696, -, -⟩ := id f695
    obtain ⟨T697, h697, k697, X697, e697, E697, A697, B697, st697⟩ := newPE X689 hx hZ (own_hw hw 25 rfl) e689 (g := (mkF m 36 #[sR a1, sR fa, sI 0, sR f0, sR g0, sU] [(.int (1 : Int32)), (.ref a1)])) rfl (hb hby dp23_2_36) rfl (by decide) (cap := 1) (by decide) (by decide) (by decide) (by decide) (ad := "[J") (by decide)
    obtain ⟨b697, g697⟩ : ∃ z, z = h689.size := ⟨_, rfl⟩
    rw [← g697] at A697 B697 st697
    have g_b697 : n0 ≤ b697 := Nat.le_trans Z693 (Nat.le_of_eq g697.symm)
    have sz_b697 : h0.size ≤ b697 := Nat.le_trans K694.1 (Nat.le_of_eq g697.symm)
    have P698 : Rg p e below (T697.setTop (mkF m 38 #[sR a1, sR fa, sI 0, sR f0, sR g0, sU] [(.ref b697), (.ref a1)])) B0 := fun t k => P690 t (by
      refine XS.aloadN X689.here hx rfl (hb hby dp23_2_33) rfl rfl ?_
      refine XS.aloadN X689.here hx rfl (hb hby dp23_2_34) rfl rfl ?_
      show Sg p e below (T689.setTop (mkF m 35 #[sR a1, sR fa, sI 0, sR f0, sR g0, sU] [(.ref f0), (.ref a1)])) _
      refine X689.arraylength hx (by rw [e689]; exact Ar696.1) (State.isArrayOf_alike hZ.alike Ar696.2.1) (g := (mkF m 35 #[sR a1, sR fa, sI 0, sR f0, sR g0, sU] [(.ref f0), (.ref a1)])) rfl rfl (hb hby dp23_2_35) _ ?_
      rw [len_of S696 N696]
      show Sg p e below (T689.setTop (mkF m 36 #[sR a1, sR fa, sI 0, sR f0, sR g0, sU] [(.int (1 : Int32)), (.ref a1)])) _
      exact st697 _ k)
    have Z699 : n0 ≤ h697.size := Nat.le_trans Z693 E697.1
    have K700 : Keep h0 h697 [a1] := K694.ext E697
    have v701 : Arv Z h697 b697 k697 .long (1 : Int32) [(.long (0 : Int64))] (.long (0 : Int64)) := (Arv.new A697 (by decide)).pad (pad_rep [] (.long (0 : Int64)) 1)
    have f702 := (((Fw.ext E682).other W689 (Or.inr (slot_ne (Or.inl (own_hw hw 37 rfl)) (Or.inl (own_hw hw 35 rfl)) (by decide) (t := (.array .long)) (t' := (.array .int)) (by decide) (by decide)))).ext E697)
    have f703 := ((f688.wr W689).ext E697)
    obtain ⟨T704, h704, X704, e704, W704, st704⟩ := putF X697 hx hZ hown (host := "") (Or.inl (own_hw hw 36 rfl)) Via.refl e697 f702 f703 (Or.inl (own_hw hw 37 rfl)) (own_hw hw 28 rfl) (ty := (.array .long)) (by decide) rfl rfl (g := (mkF m 38 #[sR a1, sR fa, sI 0, sR f0, sR g0, sU] [(.ref b697), (.ref a1)])) rfl rfl (hb hby dp23_2_38)
    have P705 : Rg p e below (T704.setTop (mkF m 41 #[sR a1, sR fa, sI 0, sR f0, sR g0, sU] [])) B0 := fun t k => P698 t (by
      exact st704 _ k)
    have f706 := f702.same W704
    have N707 := Fr.snoc X704 N692 g_a1
    have Z708 : n0 ≤ h704.size := Nat.le_trans Z699 (Keep.of_wr W704).1
    have K709 : Keep h0 h704 [a1] := K700.wr W704 (Or.inl (List.mem_of_getElem? (i := 0) rfl))
    have f710 := ((((Fc.ext E682).other W689 (Or.inr (slot_ne (Or.inl (own_hw hw 46 rfl)) (Or.inl (own_hw hw 35 rfl)) (by decide) (t := .int) (t' := (.array .int)) (by decide) (by decide)))).ext E697).other W704 (Or.inr (slot_ne (Or.inl (own_hw hw 46 rfl)) (Or.inl (own_hw hw 37 rfl)) (by decide) (t := .int) (t' := (.array .long)) (by decide) (by decide))))
    have f711 := (f703.wr W704)
    obtain ⟨T712, h712, X712, e712, W712, st712⟩ := putF X704 hx hZ hown (host := "") (Or.inl (own_hw hw 45 rfl)) Via.refl e704 f710 f711 (Or.inl (own_hw hw 46 rfl)) (own_hw hw 28 rfl) (ty := .int) (by decide) rfl rfl (g := (mkF m 43 #[sR a1, sR fa, sI 0, sR f0, sR g0, sU] [(.int (0 : Int32)), (.ref a1)])) rfl rfl (hb hby dp23_2_43)
    have P713 : Rg p e below (T712.setTop (mkF m 46 #[sR a1, sR fa, sI 0, sR f0, sR g0, sU] [])) B0 := fun t k => P705 t (by
      refine XS.aloadN X704.here hx rfl (hb hby dp23_2_41) rfl rfl ?_
      refine XS.iconst X704.here hx rfl (hb hby dp23_2_42) ?_
      show Sg p e below (T704.setTop (mkF m 43 #[sR a1, sR fa, sI 0, sR f0, sR g0, sU] [(.int (0 : Int32)), (.ref a1)])) _
      exact st712 _ k)
    have f714 := f710.same W712
    have N715 := Fr.snoc X712 N707 g_a1
    have Z716 : n0 ≤ h712.size := Nat.le_trans Z708 (Keep.of_wr W712).1
    have K717 : Keep h0 h712 [a1] := K709.wr W712 (Or.inl (List.mem_of_getElem? (i := 0) rfl))
    have f718 := (((f695.ext E697).other W704 (Ne.symm (Exa.neArv E1 Af (own_hw hw 28 rfl)))).other W712 (Ne.symm (Exa.neArv E1 Af (own_hw hw 28 rfl))))
    obtain ⟨cl719, Ar719, -, S719, N719, -, -⟩ := id f718
    have f720 := (((((Ag.ext E682).other W689 (Ne.symm (Exa.neArv E1 Ag (own_hw hw 28 rfl)))).ext E697).other W704 (Ne.symm (Exa.neArv E1 Ag (own_hw hw 28 rfl)))).other W712 (Ne.symm (Exa.neArv E1 Ag (own_hw hw 28 rfl))))
    obtain ⟨cl721, Ar721, -, S721, N721, H721, -⟩ := id f720
    have hin721 : ¬ ((0 : Int32) < 0 ∨ cl721.slots.size ≤ ((0 : Int32)).toNatClampNeg) := inb_of S721 ⟨by decide, by decide⟩
    have f722 := (((f691.ext E697).other W704 (Or.inr (slot_ne (Or.inl (own_hw hw 35 rfl)) (Or.inl (own_hw hw 37 rfl)) (by decide) (t := (.array .int)) (t' := (.array .long)) (by decide) (by decide)))).other W712 (Or.inr (slot_ne (Or.inl (own_hw hw 35 rfl)) (Or.inl (own_hw hw 46 rfl)) (by decide) (t := (.array .int)) (t' := .int) (by decide) (by decide))))
    obtain ⟨T723, X723, e723, st723⟩ := getF X712 hx hZ hown (host := "") (Or.inl (own_hw hw 34 rfl)) Via.refl e712 f722 (g := (mkF m 67 #[sR a1, sR fa, sI 0, sR f0, sR g0, sI 0] [(.ref a1)])) rfl rfl (hb hby dp23_2_67)
    have P724 : Rg p e below (T723.setTop (mkF m 70 #[sR a1, sR fa, sI 0, sR f0, sR g0, sI 0] [(.ref b682)])) B0 := fun t k => P713 t (by
      refine XS.iconst X712.here hx rfl (hb hby dp23_2_46) ?_
      refine XS.istore X712.here hx rfl (hb hby dp23_2_47) rfl (l' := #[sR a1, sR fa, sI 0, sR f0, sR g0, sI 0]) rfl ?_
      refine XS.iload X712.here hx rfl (hb hby dp23_2_49) rfl ?_
      refine XS.aloadN X712.here hx rfl (hb hby dp23_2_51) rfl rfl ?_
      show Sg p e below (T712.setTop (mkF m 52 #[sR a1, sR fa, sI 0, sR f0, sR g0, sI 0] [(.ref f0), (.int (0 : Int32))])) _
      refine X712.arraylength hx (by rw [e712]; exact Ar719.1) (State.isArrayOf_alike hZ.alike Ar719.2.1) (g := (mkF m 52 #[sR a1, sR fa, sI 0, sR f0, sR g0, sI 0] [(.ref f0), (.int (0 : Int32))])) rfl rfl (hb hby dp23_2_52) _ ?_
      rw [len_of S719 N719]
      show Sg p e below (T712.setTop (mkF m 53 #[sR a1, sR fa, sI 0, sR f0, sR g0, sI 0] [(.int (1 : Int32)), (.int (0 : Int32))])) _
      refine XS.icmpNo X712.here hx rfl (hb hby dp23_2_53) rfl (tlt (show (0 : Int32) < (1 : Int32) from (by decide))).2.1 ?_
      refine XS.aload X712.here hx rfl (hb hby dp23_2_56) rfl rfl ?_
      refine XS.iload X712.here hx rfl (hb hby dp23_2_58) rfl ?_
      show Sg p e below (T712.setTop (mkF m 60 #[sR a1, sR fa, sI 0, sR f0, sR g0, sI 0] [(.int (0 : Int32)), (.ref g0)])) _
      refine X712.laload hx (j := (0 : Int32)) (v := (.long y0)) (by rw [e712]; exact Ar721.1) (State.isArrayOf_alike hZ.alike Ar721.2.1) Ar721.2.2 hin721 (H721.at hin721 rfl) (g := (mkF m 60 #[sR a1, sR fa, sI 0, sR f0, sR g0, sI 0] [(.int (0 : Int32)), (.ref g0)])) rfl rfl (hb hby dp23_2_60) _ ?_
      show Sg p e below (T712.setTop (mkF m 61 #[sR a1, sR fa, sI 0, sR f0, sR g0, sI 0] [(.long y0)])) _
      refine XS.lconst X712.here hx rfl (hb hby dp23_2_61) ?_
      refine XS.lcmp X712.here hx rfl (hb hby dp23_2_62) rfl ?_
      refine XS.ifNo X712.here hx rfl (hb hby dp23_2_63) rfl (XT.ll_eq_f (show ¬ (y0 = (0 : Int64)) from z_y0)) ?_
      refine XS.aloadN X712.here hx rfl (hb hby dp23_2_66) rfl rfl ?_
      show Sg p e below (T712.setTop (mkF m 67 #[sR a1, sR fa, sI 0, sR f0, sR g0, sI 0] [(.ref a1)])) _
      exact st723 _ k)
    obtain ⟨T725, X725, e725, st725⟩ := getF X723 hx hZ hown (host := "") (Or.inl (own_hw hw 45 rfl)) Via.refl e723 f714 (g := (mkF m 71 #[sR a1, sR fa, sI 0, sR f0, sR g0, sI 0] [(.ref a1), (.ref b682)])) rfl rfl (hb hby dp23_2_71)
    have P726 : Rg p e below (T725.setTop (mkF m 74 #[sR a1, sR fa, sI 0, sR f0, sR g0, sI 0] [(.int (0 : Int32)), (.ref b682)])) B0 := fun t k => P724 t (by
      refine XS.aloadN X723.here hx rfl (hb hby dp23_2_70) rfl rfl ?_
      show Sg p e below (T723.setTop (mkF m 71 #[sR a1, sR fa, sI 0, sR f0, sR g0, sI 0] [(.ref a1), (.ref b682)])) _
      exact st725 _ k)
    obtain ⟨cl727, Ar727, -, S727, N727, H727, -⟩ := id f718
    have hin727 : ¬ ((0 : Int32) < 0 ∨ cl727.slots.size ≤ ((0 : Int32)).toNatClampNeg) := inb_of S727 ⟨by decide, by decide⟩
    have f728 := ((((v686.other W689 (Ne.symm (Nat.ne_of_lt (Nat.lt_of_lt_of_le Fc.lt (Nat.le_of_eq g682.symm))))).ext E697).other W704 (Ne.symm (Nat.ne_of_lt (Nat.lt_of_lt_of_le Fc.lt (Nat.le_of_eq g682.symm))))).other W712 (Ne.symm (Nat.ne_of_lt (Nat.lt_of_lt_of_le Fc.lt (Nat.le_of_eq g682.symm)))))
    obtain ⟨cl729, Ar729, q729, S729, N729, H729, G729⟩ := id f728
    obtain ⟨T729, h729, X729, e729, W729, st729⟩ := stI X725 hx hZ e725 Ar729 (j := (0 : Int32)) (inb_of S729 ⟨by decide, by decide⟩) (g := (mkF m 78 #[sR a1, sR fa, sI 0, sR f0, sR g0, sI 0] [(.int x0), (.int (0 : Int32)), (.ref b682)])) rfl rfl (hb hby dp23_2_78)
    have v730 : Arv Z h729 b682 k682 .int (1 : Int32) [(.int x0)] (.int (0 : Int32)) := Arv.set Ar729 q729 S729 N729 H729 G729 rfl W729 0 rfl (Nat.le_of_ble_eq_true rfl)
    have P731 : Rg p e below (T729.setTop (mkF m 79 #[sR a1, sR fa, sI 0, sR f0, sR g0, sI 0] [])) B0 := fun t k => P726 t (by
      refine XS.aloadN X725.here hx rfl (hb hby dp23_2_74) rfl rfl ?_
      refine XS.iload X725.here hx rfl (hb hby dp23_2_75) rfl ?_
      show Sg p e below (T725.setTop (mkF m 77 #[sR a1, sR fa, sI 0, sR f0, sR g0, sI 0] [(.int (0 : Int32)), (.ref f0), (.int (0 : Int32)), (.ref b682)])) _
      refine X725.iaload hx (j := (0 : Int32)) (v := (.int x0)) (by rw [e725]; exact Ar727.1) (State.isArrayOf_alike hZ.alike Ar727.2.1) Ar727.2.2 hin727 (H727.at hin727 rfl) (g := (mkF m 77 #[sR a1, sR fa, sI 0, sR f0, sR g0, sI 0] [(.int (0 : Int32)), (.ref f0), (.int (0 : Int32)), (.ref b682)])) rfl rfl (hb hby dp23_2_77) _ ?_
      show Sg p e below (T725.setTop (mkF m 78 #[sR a1, sR fa, sI 0, sR f0, sR g0, sI 0] [(.int x0), (.int (0 : Int32)), (.ref b682)])) _
      exact st729 _ k)
    have N732 := Fr.snoc X729 N715 g_b682
    have Z733 : n0 ≤ h729.size := Nat.le_trans Z716 (Keep.of_wr W729).1
    have K734 : Keep h0 h729 [a1] := K717.wr W729 (Or.inr sz_b682)
    have f735 := ((f706.other W712 (Or.inr (slot_ne (Or.inl (own_hw hw 37 rfl)) (Or.inl (own_hw hw 46 rfl)) (by decide) (t := (.array .long)) (t' := .int) (by decide) (by decide)))).other W729 (Or.inl (Nat.ne_of_lt (Nat.lt_of_lt_of_le Fc.lt (Nat.le_of_eq g682.symm)))))
    obtain ⟨T736, X736, e736, st736⟩ := getF X729 hx hZ hown (host := "") (Or.inl (own_hw hw 36 rfl)) Via.refl e729 f735 (g := (mkF m 80 #[sR a1, sR fa, sI 0, sR f0, sR g0, sI 0] [(.ref a1)])) rfl rfl (hb hby dp23_2_80)
    have P737 : Rg p e below (T736.setTop (mkF m 83 #[sR a1, sR fa, sI 0, sR f0, sR g0, sI 0] [(.ref b697)])) B0 := fun t k => P731 t (by
      refine XS.aloadN X729.here hx rfl (hb hby dp23_2_79) rfl rfl ?_
      show Sg p e below (T729.setTop (mkF m 80 #[sR a1, sR fa, sI 0, sR f0, sR g0, sI 0] [(.ref a1)])) _
      exact st736 _ k)
    have f738 := (f714.other W729 (Or.inl (Nat.ne_of_lt (Nat.lt_of_lt_of_le Fc.lt (Nat.le_of_eq g682.symm)))))
    obtain ⟨T739, X739, e739, st739⟩ := getF X736 hx hZ hown (host := "") (Or.inl (own_hw hw 45 rfl)) Via.refl e736 f738 (g := (mkF m 85 #[sR a1, sR fa, sI 0, sR f0, sR g0, sI 0] [(.ref a1), (.ref a1), (.ref b697)])) rfl rfl (hb hby dp23_2_85)
    have P740 : Rg p e below (T739.setTop (mkF m 88 #[sR a1, sR fa, sI 0, sR f0, sR g0, sI 0] [(.int (0 : Int32)), (.ref a1), (.ref b697)])) B0 := fun t k => P737 t (by
      refine XS.aloadN X736.here hx rfl (hb hby dp23_2_83) rfl rfl ?_
      refine XS.dup X736.here hx rfl (hb hby dp23_2_84) rfl rfl ?_
      show Sg p e below (T736.setTop (mkF m 85 #[sR a1, sR fa, sI 0, sR f0, sR g0, sI 0] [(.ref a1), (.ref a1), (.ref b697)])) _
      exact st739 _ k)
    have f741 := ((f711.wr W712).wr W729)
    obtain ⟨T742, h742, X742, e742, W742, st742⟩ := putF X739 hx hZ hown (host := "") (Or.inl (own_hw hw 45 rfl)) Via.refl e739 f738 f741 (Or.inl (own_hw hw 46 rfl)) (own_hw hw 28 rfl) (ty := .int) (by decide) rfl rfl (g := (mkF m 91 #[sR a1, sR fa, sI 0, sR f0, sR g0, sI 0] [(.int (1 : Int32)), (.ref a1), (.int (0 : Int32)), (.ref b697)])) rfl rfl (hb hby dp23_2_91)
    have P743 : Rg p e below (T742.setTop (mkF m 94 #[sR a1, sR fa, sI 0, sR f0, sR g0, sI 0] [(.int (0 : Int32)), (.ref b697)])) B0 := fun t k => P740 t (by
      refine XT.dupX1 X739.here hx rfl (hb hby dp23_2_88) rfl rfl rfl ?_
      refine XS.iconst X739.here hx rfl (hb hby dp23_2_89) ?_
      refine XS.iadd X739.here hx rfl (hb hby dp23_2_90) rfl ?_
      show Sg p e below (T739.setTop (mkF m 91 #[sR a1, sR fa, sI 0, sR f0, sR g0, sI 0] [(.int (1 : Int32)), (.ref a1), (.int (0 : Int32)), (.ref b697)])) _
      exact st742 _ k)
    have f744 := f738.same W742
    have N745 := Fr.snoc X742 N732 g_a1
    have Z746 : n0 ≤ h742.size := Nat.le_trans Z733 (Keep.of_wr W742).1
    have K747 : Keep h0 h742 [a1] := K734.wr W742 (Or.inl (List.mem_of_getElem? (i := 0) rfl))
    have f748 := ((f720.other W729 (Nat.ne_of_lt (Nat.lt_of_lt_of_le Ag.lt (Nat.le_of_eq g682.symm)))).other W742 (Ne.symm (Exa.neArv E1 Ag (own_hw hw 28 rfl))))
    obtain ⟨cl749, Ar749, -, S749, N749, H749, -⟩ := id f748
    have hin749 : ¬ ((0 : Int32) < 0 ∨ cl749.slots.size ≤ ((0 : Int32)).toNatClampNeg) := inb_of S749 ⟨by decide, by decide⟩
    have f750 := ((((v701.other W704 (Ne.symm (Nat.ne_of_lt (Nat.lt_of_lt_of_le f691.lt (Nat.le_of_eq g697.symm))))).other W712 (Ne.symm (Nat.ne_of_lt (Nat.lt_of_lt_of_le f691.lt (Nat.le_of_eq g697.symm))))).other W729 (Ne.symm (Nat.ne_of_lt (Nat.lt_of_lt_of_le (B682.wr W689).lt (Nat.le_of_eq g697.symm))))).other W742 (Ne.symm (Nat.ne_of_lt (Nat.lt_of_lt_of_le f691.lt (Nat.le_of_eq g697.symm)))))
    obtain ⟨cl751, Ar751, q751, S751, N751, H751, G751⟩ := id f750
    obtain ⟨T751, h751, X751, e751, W751, st751⟩ := stJ X742 hx hZ e742 Ar751 (j := (0 : Int32)) (inb_of S751 ⟨by decide, by decide⟩) (g := (mkF m 99 #[sR a1, sR fa, sI 0, sR f0, sR g0, sI 0] [(.long y0), (.int (0 : Int32)), (.ref b697)])) rfl rfl (hb hby dp23_2_99)
    have v752 : Arv Z h751 b697 k697 .long (1 : Int32) [(.long y0)] (.long (0 : Int64)) := Arv.set Ar751 q751 S751 N751 H751 G751 rfl W751 0 rfl (Nat.le_of_ble_eq_true rfl)
    have P753 : Rg p e below (T751.setTop (mkF m 100 #[sR a1, sR fa, sI 0, sR f0, sR g0, sI 0] [])) B0 := fun t k => P743 t (by
      refine XS.aload X742.here hx rfl (hb hby dp23_2_94) rfl rfl ?_
      refine XS.iload X742.here hx rfl (hb hby dp23_2_96) rfl ?_
      show Sg p e below (T742.setTop (mkF m 98 #[sR a1, sR fa, sI 0, sR f0, sR g0, sI 0] [(.int (0 : Int32)), (.ref g0), (.int (0 : Int32)), (.ref b697)])) _
      refine X742.laload hx (j := (0 : Int32)) (v := (.long y0)) (by rw [e742]; exact Ar749.1) (State.isArrayOf_alike hZ.alike Ar749.2.1) Ar749.2.2 hin749 (H749.at hin749 rfl) (g := (mkF m 98 #[sR a1, sR fa, sI 0, sR f0, sR g0, sI 0] [(.int (0 : Int32)), (.ref g0), (.int (0 : Int32)), (.ref b697)])) rfl rfl (hb hby dp23_2_98) _ ?_
      show Sg p e below (T742.setTop (mkF m 99 #[sR a1, sR fa, sI 0, sR f0, sR g0, sI 0] [(.long y0), (.int (0 : Int32)), (.ref b697)])) _
      exact st751 _ k)
    have N754 := Fr.snoc X751 N745 g_b697
    have Z755 : n0 ≤ h751.size := Nat.le_trans Z746 (Keep.of_wr W751).1
    have K756 : Keep h0 h751 [a1] := K747.wr W751 (Or.inr sz_b697)
    have f757 := (((f718.other W729 (Nat.ne_of_lt (Nat.lt_of_lt_of_le Af.lt (Nat.le_of_eq g682.symm)))).other W742 (Ne.symm (Exa.neArv E1 Af (own_hw hw 28 rfl)))).other W751 (Nat.ne_of_lt (Nat.lt_of_lt_of_le f695.lt (Nat.le_of_eq g697.symm))))
    obtain ⟨cl758, Ar758, -, S758, N758, -, -⟩ := id f757
    have f759 := ((f741.wr W742).wr W751)
    have f760 := (f744.other W751 (Or.inl (Nat.ne_of_lt (Nat.lt_of_lt_of_le f691.lt (Nat.le_of_eq g697.symm)))))
    have f761 := (((f722.other W729 (Or.inl (Nat.ne_of_lt (Nat.lt_of_lt_of_le Fc.lt (Nat.le_of_eq g682.symm))))).other W742 (Or.inr (slot_ne (Or.inl (own_hw hw 35 rfl)) (Or.inl (own_hw hw 46 rfl)) (by decide) (t := (.array .int)) (t' := .int) (by decide) (by decide)))).other W751 (Or.inl (Nat.ne_of_lt (Nat.lt_of_lt_of_le f691.lt (Nat.le_of_eq g697.symm)))))
    have f762 := ((f735.other W742 (Or.inr (slot_ne (Or.inl (own_hw hw 37 rfl)) (Or.inl (own_hw hw 46 rfl)) (by decide) (t := (.array .long)) (t' := .int) (by decide) (by decide)))).other W751 (Or.inl (Nat.ne_of_lt (Nat.lt_of_lt_of_le f691.lt (Nat.le_of_eq g697.symm)))))
    have f763 := ((v730.other W742 (Ne.symm (Nat.ne_of_lt (Nat.lt_of_lt_of_le Fc.lt (Nat.le_of_eq g682.symm))))).other W751 (Nat.ne_of_lt (Nat.lt_of_lt_of_le (B682.wr W689).lt (Nat.le_of_eq g697.symm))))
    have f764 := (((((((B682.wr W689).ext E697).wr W704).wr W712).wr W729).wr W742).wr W751)
    have f765 := (((((B697.wr W704).wr W712).wr W729).wr W742).wr W751)
    obtain ⟨fs766, hr766, hrun766, hended766, hW766, hsame766⟩ := X751.leave (v := none) (fun _ => rfl)
    refine ⟨_, _, pre0 _ (P753 _ ?_), hrun766, hended766, _, _, rfl, ?_, ⟨⟨_, rfl⟩, hW766, hsame766.mono (Nat.le_of_ble_eq_true rfl) (Nat.le_of_ble_eq_true rfl)⟩⟩
    · show Sg p e below (T751.setTop (mkF m 100 #[sR a1, sR fa, sI 0, sR f0, sR g0, sI 0] [])) _
      refine XS.iinc X751.here hx rfl (hb hby dp23_2_100) rfl (l' := #[sR a1, sR fa, sI 0, sR f0, sR g0, sI 1]) rfl ?_
      refine XS.goto X751.here hx rfl (pc0 := 103) (pc' := 49) rfl (hb hby dp23_2_103) (by decide) (by decide) ?_
      refine XS.iload X751.here hx rfl (hb hby dp23_2_49) rfl ?_
      refine XS.aloadN X751.here hx rfl (hb hby dp23_2_51) rfl rfl ?_
      show Sg p e below (T751.setTop (mkF m 52 #[sR a1, sR fa, sI 0, sR f0, sR g0, sI 1] [(.ref f0), (.int (1 : Int32))])) _
      refine X751.arraylength hx (by rw [e751]; exact Ar758.1) (State.isArrayOf_alike hZ.alike Ar758.2.1) (g := (mkF m 52 #[sR a1, sR fa, sI 0, sR f0, sR g0, sI 1] [(.ref f0), (.int (1 : Int32))])) rfl rfl (hb hby dp23_2_52) _ ?_
      rw [len_of S758 N758]
      show Sg p e below (T751.setTop (mkF m 53 #[sR a1, sR fa, sI 0, sR f0, sR g0, sI 1] [(.int (1 : Int32)), (.int (1 : Int32))])) _
      refine XS.icmpYes X751.here hx rfl (pc0 := 53) (pc' := 106) rfl (hb hby dp23_2_53) rfl (flt (show ¬ ((1 : Int32) < (1 : Int32)) from (by decide))).2.1 (by decide) (by decide) ?_
      show Sg p e below (T751.setTop (mkF m 106 #[sR a1, sR fa, sI 0, sR f0, sR g0, sI 1] [])) _
      exact X751.returnOut hx Bd.returns (hb hby dp23_2_106) hr766
    · show Q_stf Z a1 (1 : Int32) [x0] [y0] h0 n0 _ T751.heap _
      rw [e751]
      exact ⟨rfl, N754, K756, f759, f760, b682, b697, _, _, f761, f762, f763, v752, f764, f765, sz_b682, sz_b697⟩
  · skip
    obtain ⟨y0, y1, rfl⟩ := own_len2 hwl
    have hN' : N = (2 : Int32) := hN
    subst hN'
    have z_y0 := hnz y0 (by simp)
    have z_y1 := hnz y1 (by simp)
    obtain ⟨T767, X767, e767, st767⟩ := getF X0 hx hZ hown (Or.inr (own_hw hw 43 rfl)) Via.refl e0 Ffp (g := (mkF m 1 #[sR a1, sR fa, sI 0, sU, sU, sU] [(.ref fa)])) rfl rfl (hb hby dp23_2_1)
    have P768 : Rg p e below (T767.setTop (mkF m 4 #[sR a1, sR fa, sI 0, sU, sU, sU] [(.ref PP)])) B0 := fun t k => P0 t (by
      refine XS.aloadN X0.here hx rfl (hb hby dp23_2_0) rfl rfl ?_
      show Sg p e below (s₁.setTop (mkF m 1 #[sR a1, sR fa, sI 0, sU, sU, sU] [(.ref fa)])) _
      exact st767 _ k)
    obtain ⟨cl769, Ar769, -, S769, N769, H769, -⟩ := id APP
    have hin769 : ¬ ((0 : Int32) < 0 ∨ cl769.slots.size ≤ ((0 : Int32)).toNatClampNeg) := inb_of S769 ⟨by decide, by decide⟩
    obtain ⟨T770, X770, e770, st770⟩ := getF X767 hx hZ hown (Or.inr (own_hw hw 44 rfl)) Via.refl e767 Ffw (g := (mkF m 8 #[sR a1, sR fa, sI 0, sR f0, sU, sU] [(.ref fa)])) rfl rfl (hb hby dp23_2_8)
    have P771 : Rg p e below (T770.setTop (mkF m 11 #[sR a1, sR fa, sI 0, sR f0, sU, sU] [(.ref WW)])) B0 := fun t k => P768 t (by
      refine XS.iloadN X767.here hx rfl (hb hby dp23_2_4) rfl ?_
      show Sg p e below (T767.setTop (mkF m 5 #[sR a1, sR fa, sI 0, sU, sU, sU] [(.int (0 : Int32)), (.ref PP)])) _
      refine X767.aaload hx (j := (0 : Int32)) (v := (.ref f0)) (by rw [e767]; exact Ar769.1) (State.isArrayOf_alike hZ.alike Ar769.2.1) rfl Ar769.2.2 hin769 (H769.at hin769 rfl) (g := (mkF m 5 #[sR a1, sR fa, sI 0, sU, sU, sU] [(.int (0 : Int32)), (.ref PP)])) rfl rfl (hb hby dp23_2_5) _ ?_
      show Sg p e below (T767.setTop (mkF m 6 #[sR a1, sR fa, sI 0, sU, sU, sU] [(.ref f0)])) _
      refine XS.astoreN X767.here hx rfl (hb hby dp23_2_6) rfl rfl (l' := #[sR a1, sR fa, sI 0, sR f0, sU, sU]) rfl ?_
      refine XS.aloadN X767.here hx rfl (hb hby dp23_2_7) rfl rfl ?_
      show Sg p e below (T767.setTop (mkF m 8 #[sR a1, sR fa, sI 0, sR f0, sU, sU] [(.ref fa)])) _
      exact st770 _ k)
    obtain ⟨cl772, Ar772, -, S772, N772, H772, -⟩ := id AWW
    have hin772 : ¬ ((0 : Int32) < 0 ∨ cl772.slots.size ≤ ((0 : Int32)).toNatClampNeg) := inb_of S772 ⟨by decide, by decide⟩
    obtain ⟨T773, X773, e773, st773⟩ := getF X770 hx hZ hown (host := "") (Or.inl (own_hw hw 34 rfl)) Via.refl e770 Fp (g := (mkF m 16 #[sR a1, sR fa, sI 0, sR f0, sR g0, sU] [(.ref a1)])) rfl rfl (hb hby dp23_2_16)
    have P774 : Rg p e below (T773.setTop (mkF m 19 #[sR a1, sR fa, sI 0, sR f0, sR g0, sU] [(.ref P)])) B0 := fun t k => P771 t (by
      refine XS.iloadN X770.here hx rfl (hb hby dp23_2_11) rfl ?_
      show Sg p e below (T770.setTop (mkF m 12 #[sR a1, sR fa, sI 0, sR f0, sU, sU] [(.int (0 : Int32)), (.ref WW)])) _
      refine X770.aaload hx (j := (0 : Int32)) (v := (.ref g0)) (by rw [e770]; exact Ar772.1) (State.isArrayOf_alike hZ.alike Ar772.2.1) rfl Ar772.2.2 hin772 (H772.at hin772 rfl) (g := (mkF m 12 #[sR a1, sR fa, sI 0, sR f0, sU, sU] [(.int (0 : Int32)), (.ref WW)])) rfl rfl (hb hby dp23_2_12) _ ?_
      show Sg p e below (T770.setTop (mkF m 13 #[sR a1, sR fa, sI 0, sR f0, sU, sU] [(.ref g0)])) _
      refine XS.astore X770.here hx rfl (hb hby dp23_2_13) rfl rfl (l' := #[sR a1, sR fa, sI 0, sR f0, sR g0, sU]) rfl ?_
      refine XS.aloadN X770.here hx rfl (hb hby dp23_2_15) rfl rfl ?_
      show Sg p e below (T770.setTop (mkF m 16 #[sR a1, sR fa, sI 0, sR f0, sR g0, sU] [(.ref a1)])) _
      exact st773 _ k)
    obtain ⟨cl775, Ar775, -, S775, N775, -, -⟩ := id AP
    obtain ⟨cl776, Ar776, -, S776, N776, -, -⟩ := id Af
    obtain ⟨cl777, Ar777, -, S777, N777, -, -⟩ := id Af
    obtain ⟨T778, h778, k778, X778, e778, E778, A778, B778, st778⟩ := newPE X773 hx hZ (own_hw hw 7 rfl) e773 (g := (mkF m 28 #[sR a1, sR fa, sI 0, sR f0, sR g0, sU] [(.int (2 : Int32)), (.ref a1)])) rfl (hb hby dp23_2_28) rfl (by decide) (cap := 2) (by decide) (by decide) (by decide) (by decide) (ad := "[I") (by decide)
    obtain ⟨b778, g778⟩ : ∃ z, z = h0.size := ⟨_, rfl⟩
    rw [← g778] at A778 B778 st778
    have g_b778 : n0 ≤ b778 := Nat.le_trans Z0 (Nat.le_of_eq g778.symm)
    have sz_b778 : h0.size ≤ b778 := Nat.le_trans (Keep.refl h0 [a1]).1 (Nat.le_of_eq g778.symm)
    have P779 : Rg p e below (T778.setTop (mkF m 30 #[sR a1, sR fa, sI 0, sR f0, sR g0, sU] [(.ref b778), (.ref a1)])) B0 := fun t k => P774 t (by
      refine X773.arraylength hx (by rw [e773]; exact Ar775.1) (State.isArrayOf_alike hZ.alike Ar775.2.1) (g := (mkF m 19 #[sR a1, sR fa, sI 0, sR f0, sR g0, sU] [(.ref P)])) rfl rfl (hb hby dp23_2_19) _ ?_
      rw [len_of S775 N775]
      show Sg p e below (T773.setTop (mkF m 20 #[sR a1, sR fa, sI 0, sR f0, sR g0, sU] [(.int (0 : Int32))])) _
      refine XS.aloadN X773.here hx rfl (hb hby dp23_2_20) rfl rfl ?_
      show Sg p e below (T773.setTop (mkF m 21 #[sR a1, sR fa, sI 0, sR f0, sR g0, sU] [(.ref f0), (.int (0 : Int32))])) _
      refine X773.arraylength hx (by rw [e773]; exact Ar776.1) (State.isArrayOf_alike hZ.alike Ar776.2.1) (g := (mkF m 21 #[sR a1, sR fa, sI 0, sR f0, sR g0, sU] [(.ref f0), (.int (0 : Int32))])) rfl rfl (hb hby dp23_2_21) _ ?_
      rw [len_of S776 N776]
      show Sg p e below (T773.setTop (mkF m 22 #[sR a1, sR fa, sI 0, sR f0, sR g0, sU] [(.int (2 : Int32)), (.int (0 : Int32))])) _
      refine XS.icmpNo X773.here hx rfl (hb hby dp23_2_22) rfl (tlt (show (0 : Int32) < (2 : Int32) from (by decide))).2.1 ?_
      refine XS.aloadN X773.here hx rfl (hb hby dp23_2_25) rfl rfl ?_
      refine XS.aloadN X773.here hx rfl (hb hby dp23_2_26) rfl rfl ?_
      show Sg p e below (T773.setTop (mkF m 27 #[sR a1, sR fa, sI 0, sR f0, sR g0, sU] [(.ref f0), (.ref a1)])) _
      refine X773.arraylength hx (by rw [e773]; exact Ar777.1) (State.isArrayOf_alike hZ.alike Ar777.2.1) (g := (mkF m 27 #[sR a1, sR fa, sI 0, sR f0, sR g0, sU] [(.ref f0), (.ref a1)])) rfl rfl (hb hby dp23_2_27) _ ?_
      rw [len_of S777 N777]
      show Sg p e below (T773.setTop (mkF m 28 #[sR a1, sR fa, sI 0, sR f0, sR g0, sU] [(.int (2 : Int32)), (.ref a1)])) _
      exact st778 _ k)
    have Z780 : n0 ≤ h778.size := Nat.le_trans Z0 E778.1
    have K781 : Keep h0 h778 [a1] := (Keep.refl h0 [a1]).ext E778
    have v782 : Arv Z h778 b778 k778 .int (2 : Int32) [(.int (0 : Int32)), (.int (0 : Int32))] (.int (0 : Int32)) := (Arv.new A778 (by decide)).pad (pad_rep [] (.int (0 : Int32)) 2)
    have f783 := (Fp.ext E778)
    have f784 := (E1.ext E778)
    obtain ⟨T785, h785, X785, e785, W785, st785⟩ := putF X778 hx hZ hown (host := "") (Or.inl (own_hw hw 34 rfl)) Via.refl e778 f783 f784 (Or.inl (own_hw hw 35 rfl)) (own_hw hw 28 rfl) (ty := (.array .int)) (by decide) rfl rfl (g := (mkF m 30 #[sR a1, sR fa, sI 0, sR f0, sR g0, sU] [(.ref b778), (.ref a1)])) rfl rfl (hb hby dp23_2_30)
    have P786 : Rg p e below (T785.setTop (mkF m 33 #[sR a1, sR fa, sI 0, sR f0, sR g0, sU] [])) B0 := fun t k => P779 t (by
      exact st785 _ k)
    have f787 := f783.same W785
    have N788 := Fr.snoc X785 N0 g_a1
    have Z789 : n0 ≤ h785.size := Nat.le_trans Z780 (Keep.of_wr W785).1
    have K790 : Keep h0 h785 [a1] := K781.wr W785 (Or.inl (List.mem_of_getElem? (i := 0) rfl))
    have f791 := ((Af.ext E778).other W785 (Ne.symm (Exa.neArv E1 Af (own_hw hw 28 rfl))))
    obtain ⟨cl792, Ar792, -, S792, N792, -, -⟩ := id f791
    obtain ⟨T793, h793, k793, X793, e793, E793, A793, B793, st793⟩ := newPE X785 hx hZ (own_hw hw 25 rfl) e785 (g := (mkF m 36 #[sR a1, sR fa, sI 0, sR f0, sR g0, sU] [(.int (2 : Int32)), (.ref a1)])) rfl (hb hby dp23_2_36) rfl (by decide) (cap := 2) (by decide) (by decide) (by decide) (by decide) (ad := "[J") (by decide)
    obtain ⟨b793, g793⟩ : ∃ z, z = h785.size := ⟨_, rfl⟩
    rw [← g793] at A793 B793 st793
    have g_b793 : n0 ≤ b793 := Nat.le_trans Z789 (Nat.le_of_eq g793.symm)
    have sz_b793 : h0.size ≤ b793 := Nat.le_trans K790.1 (Nat.le_of_eq g793.symm)
    have P794 : Rg p e below (T793.setTop (mkF m 38 #[sR a1, sR fa, sI 0, sR f0, sR g0, sU] [(.ref b793), (.ref a1)])) B0 := fun t k => P786 t (by
      refine XS.aloadN X785.here hx rfl (hb hby dp23_2_33) rfl rfl ?_
      refine XS.aloadN X785.here hx rfl (hb hby dp23_2_34) rfl rfl ?_
      show Sg p e below (T785.setTop (mkF m 35 #[sR a1, sR fa, sI 0, sR f0, sR g0, sU] [(.ref f0), (.ref a1)])) _
      refine X785.arraylength hx (by rw [e785]; exact Ar792.1) (State.isArrayOf_alike hZ.alike Ar792.2.1) (g := (mkF m 35 #[sR a1, sR fa, sI 0, sR f0, sR g0, sU] [(.ref f0), (.ref a1)])) rfl rfl (hb hby dp23_2_35) _ ?_
      rw [len_of S792 N792]
      show Sg p e below (T785.setTop (mkF m 36 #[sR a1, sR fa, sI 0, sR f0, sR g0, sU] [(.int (2 : Int32)), (.ref a1)])) _
      exact st793 _ k)
    have Z795 : n0 ≤ h793.size := Nat.le_trans Z789 E793.1
    have K796 : Keep h0 h793 [a1] := K790.ext E793
    have v797 : Arv Z h793 b793 k793 .long (2 : Int32) [(.long (0 : Int64)), (.long (0 : Int64))] (.long (0 : Int64)) := (Arv.new A793 (by decide)).pad (pad_rep [] (.long (0 : Int64)) 2)
    have f798 := (((Fw.ext E778).other W785 (Or.inr (slot_ne (Or.inl (own_hw hw 37 rfl)) (Or.inl (own_hw hw 35 rfl)) (by decide) (t := (.array .long)) (t' := (.array .int)) (by decide) (by decide)))).ext E793)
    have f799 := ((f784.wr W785).ext E793)
    obtain ⟨T800, h800, X800, e800, W800, st800⟩ := putF X793 hx hZ hown (host := "") (Or.inl (own_hw hw 36 rfl)) Via.refl e793 f798 f799 (Or.inl (own_hw hw 37 rfl)) (own_hw hw 28 rfl) (ty := (.array .long)) (by decide) rfl rfl (g := (mkF m 38 #[sR a1, sR fa, sI 0, sR f0, sR g0, sU] [(.ref b793), (.ref a1)])) rfl rfl (hb hby dp23_2_38)
    have P801 : Rg p e below (T800.setTop (mkF m 41 #[sR a1, sR fa, sI 0, sR f0, sR g0, sU] [])) B0 := fun t k => P794 t (by
      exact st800 _ k)
    have f802 := f798.same W800
    have N803 := Fr.snoc X800 N788 g_a1
    have Z804 : n0 ≤ h800.size := Nat.le_trans Z795 (Keep.of_wr W800).1
    have K805 : Keep h0 h800 [a1] := K796.wr W800 (Or.inl (List.mem_of_getElem? (i := 0) rfl))
    have f806 := ((((Fc.ext E778).other W785 (Or.inr (slot_ne (Or.inl (own_hw hw 46 rfl)) (Or.inl (own_hw hw 35 rfl)) (by decide) (t := .int) (t' := (.array .int)) (by decide) (by decide)))).ext E793).other W800 (Or.inr (slot_ne (Or.inl (own_hw hw 46 rfl)) (Or.inl (own_hw hw 37 rfl)) (by decide) (t := .int) (t' := (.array .long)) (by decide) (by decide))))
    have f807 := (f799.wr W800)
    obtain ⟨T808, h808, X808, e808, W808, st808⟩ := putF X800 hx hZ hown (host := "") (Or.inl (own_hw hw 45 rfl)) Via.refl e800 f806 f807 (Or.inl (own_hw hw 46 rfl)) (own_hw hw 28 rfl) (ty := .int) (by decide) rfl rfl (g := (mkF m 43 #[sR a1, sR fa, sI 0, sR f0, sR g0, sU] [(.int (0 : Int32)), (.ref a1)])) rfl rfl (hb hby dp23_2_43)
    have P809 : Rg p e below (T808.setTop (mkF m 46 #[sR a1, sR fa, sI 0, sR f0, sR g0, sU] [])) B0 := fun t k => P801 t (by
      refine XS.aloadN X800.here hx rfl (hb hby dp23_2_41) rfl rfl ?_
      refine XS.iconst X800.here hx rfl (hb hby dp23_2_42) ?_
      show Sg p e below (T800.setTop (mkF m 43 #[sR a1, sR fa, sI 0, sR f0, sR g0, sU] [(.int (0 : Int32)), (.ref a1)])) _
      exact st808 _ k)
    have f810 := f806.same W808
    have N811 := Fr.snoc X808 N803 g_a1
    have Z812 : n0 ≤ h808.size := Nat.le_trans Z804 (Keep.of_wr W808).1
    have K813 : Keep h0 h808 [a1] := K805.wr W808 (Or.inl (List.mem_of_getElem? (i := 0) rfl))
    have f814 := (((f791.ext E793).other W800 (Ne.symm (Exa.neArv E1 Af (own_hw hw 28 rfl)))).other W808 (Ne.symm (Exa.neArv E1 Af (own_hw hw 28 rfl))))
    obtain ⟨cl815, Ar815, -, S815, N815, -, -⟩ := id f814
    have f816 := (((((Ag.ext E778).other W785 (Ne.symm (Exa.neArv E1 Ag (own_hw hw 28 rfl)))).ext E793).other W800 (Ne.symm (Exa.neArv E1 Ag (own_hw hw 28 rfl)))).other W808 (Ne.symm (Exa.neArv E1 Ag (own_hw hw 28 rfl))))
    obtain ⟨cl817, Ar817, -, S817, N817, H817, -⟩ := id f816
    have hin817 : ¬ ((0 : Int32) < 0 ∨ cl817.slots.size ≤ ((0 : Int32)).toNatClampNeg) := inb_of S817 ⟨by decide, by decide⟩
    have f818 := (((f787.ext E793).other W800 (Or.inr (slot_ne (Or.inl (own_hw hw 35 rfl)) (Or.inl (own_hw hw 37 rfl)) (by decide) (t := (.array .int)) (t' := (.array .long)) (by decide) (by decide)))).other W808 (Or.inr (slot_ne (Or.inl (own_hw hw 35 rfl)) (Or.inl (own_hw hw 46 rfl)) (by decide) (t := (.array .int)) (t' := .int) (by decide) (by decide))))
    obtain ⟨T819, X819, e819, st819⟩ := getF X808 hx hZ hown (host := "") (Or.inl (own_hw hw 34 rfl)) Via.refl e808 f818 (g := (mkF m 67 #[sR a1, sR fa, sI 0, sR f0, sR g0, sI 0] [(.ref a1)])) rfl rfl (hb hby dp23_2_67)
    have P820 : Rg p e below (T819.setTop (mkF m 70 #[sR a1, sR fa, sI 0, sR f0, sR g0, sI 0] [(.ref b778)])) B0 := fun t k => P809 t (by
      refine XS.iconst X808.here hx rfl (hb hby dp23_2_46) ?_
      refine XS.istore X808.here hx rfl (hb hby dp23_2_47) rfl (l' := #[sR a1, sR fa, sI 0, sR f0, sR g0, sI 0]) rfl ?_
      refine XS.iload X808.here hx rfl (hb hby dp23_2_49) rfl ?_
      refine XS.aloadN X808.here hx rfl (hb hby dp23_2_51) rfl rfl ?_
      show Sg p e below (T808.setTop (mkF m 52 #[sR a1, sR fa, sI 0, sR f0, sR g0, sI 0] [(.ref f0), (.int (0 : Int32))])) _
      refine X808.arraylength hx (by rw [e808]; exact Ar815.1) (State.isArrayOf_alike hZ.alike Ar815.2.1) (g := (mkF m 52 #[sR a1, sR fa, sI 0, sR f0, sR g0, sI 0] [(.ref f0), (.int (0 : Int32))])) rfl rfl (hb hby dp23_2_52) _ ?_
      rw [len_of S815 N815]
      show Sg p e below (T808.setTop (mkF m 53 #[sR a1, sR fa, sI 0, sR f0, sR g0, sI 0] [(.int (2 : Int32)), (.int (0 : Int32))])) _
      refine XS.icmpNo X808.here hx rfl (hb hby dp23_2_53) rfl (tlt (show (0 : Int32) < (2 : Int32) from (by decide))).2.1 ?_
      refine XS.aload X808.here hx rfl (hb hby dp23_2_56) rfl rfl ?_
      refine XS.iload X808.here hx rfl (hb hby dp23_2_58) rfl ?_
      show Sg p e below (T808.setTop (mkF m 60 #[sR a1, sR fa, sI 0, sR f0, sR g0, sI 0] [(.int (0 : Int32)), (.ref g0)])) _
      refine X808.laload hx (j := (0 : Int32)) (v := (.long y0)) (by rw [e808]; exact Ar817.1) (State.isArrayOf_alike hZ.alike Ar817.2.1) Ar817.2.2 hin817 (H817.at hin817 rfl) (g := (mkF m 60 #[sR a1, sR fa, sI 0, sR f0, sR g0, sI 0] [(.int (0 : Int32)), (.ref g0)])) rfl rfl (hb hby dp23_2_60) _ ?_
      show Sg p e below (T808.setTop (mkF m 61 #[sR a1, sR fa, sI 0, sR f0, sR g0, sI 0] [(.long y0)])) _
      refine XS.lconst X808.here hx rfl (hb hby dp23_2_61) ?_
      refine XS.lcmp X808.here hx rfl (hb hby dp23_2_62) rfl ?_
      refine XS.ifNo X808.here hx rfl (hb hby dp23_2_63) rfl (XT.ll_eq_f (show ¬ (y0 = (0 : Int64)) from z_y0)) ?_
      refine XS.aloadN X808.here hx rfl (hb hby dp23_2_66) rfl rfl ?_
      show Sg p e below (T808.setTop (mkF m 67 #[sR a1, sR fa, sI 0, sR f0, sR g0, sI 0] [(.ref a1)])) _
      exact st819 _ k)
    obtain ⟨T821, X821, e821, st821⟩ := getF X819 hx hZ hown (host := "") (Or.inl (own_hw hw 45 rfl)) Via.refl e819 f810 (g := (mkF m 71 #[sR a1, sR fa, sI 0, sR f0, sR g0, sI 0] [(.ref a1), (.ref b778)])) rfl rfl (hb hby dp23_2_71)
    have P822 : Rg p e below (T821.setTop (mkF m 74 #[sR a1, sR fa, sI 0, sR f0, sR g0, sI 0] [(.int (0 : Int32)), (.ref b778)])) B0 := fun t k => P820 t (by
      refine XS.aloadN X819.here hx rfl (hb hby dp23_2_70) rfl rfl ?_
      show Sg p e below (T819.setTop (mkF m 71 #[sR a1, sR fa, sI 0, sR f0, sR g0, sI 0] [(.ref a1), (.ref b778)])) _
      exact st821 _ k)
    obtain ⟨cl823, Ar823, -, S823, N823, H823, -⟩ := id f814
    have hin823 : ¬ ((0 : Int32) < 0 ∨ cl823.slots.size ≤ ((0 : Int32)).toNatClampNeg) := inb_of S823 ⟨by decide, by decide⟩
    have f824 := ((((v782.other W785 (Ne.symm (Nat.ne_of_lt (Nat.lt_of_lt_of_le Fc.lt (Nat.le_of_eq g778.symm))))).ext E793).other W800 (Ne.symm (Nat.ne_of_lt (Nat.lt_of_lt_of_le Fc.lt (Nat.le_of_eq g778.symm))))).other W808 (Ne.symm (Nat.ne_of_lt (Nat.lt_of_lt_of_le Fc.lt (Nat.le_of_eq g778.symm)))))
    obtain ⟨cl825, Ar825, q825, S825, N825, H825, G825⟩ := id f824
    obtain ⟨T825, h825, X825, e825, W825, st825⟩ := stI X821 hx hZ e821 Ar825 (j := (0 : Int32)) (inb_of S825 ⟨by decide, by decide⟩) (g := (mkF m 78 #[sR a1, sR fa, sI 0, sR f0, sR g0, sI 0] [(.int x0), (.int (0 : Int32)), (.ref b778)])) rfl rfl (hb hby dp23_2_78)
    have v826 : Arv Z h825 b778 k778 .int (2 : Int32) [(.int x0), (.int (0 : Int32))] (.int (0 : Int32)) := Arv.set Ar825 q825 S825 N825 H825 G825 rfl W825 0 rfl (Nat.le_of_ble_eq_true rfl)
    have P827 : Rg p e below (T825.setTop (mkF m 79 #[sR a1, sR fa, sI 0, sR f0, sR g0, sI 0] [])) B0 := fun t k => P822 t (by
      refine XS.aloadN X821.here hx rfl (hb hby dp23_2_74) rfl rfl ?_
      refine XS.iload X821.here hx rfl (hb hby dp23_2_75) rfl ?_
      show Sg p e below (T821.setTop (mkF m 77 #[sR a1, sR fa, sI 0, sR f0, sR g0, sI 0] [(.int (0 : Int32)), (.ref f0), (.int (0 : Int32)), (.ref b778)])) _
      refine X821.iaload hx (j := (0 : Int32)) (v := (.int x0)) (by rw [e821]; exact Ar823.1) (State.isArrayOf_alike hZ.alike Ar823.2.1) Ar823.2.2 hin823 (H823.at hin823 rfl) (g := (mkF m 77 #[sR a1, sR fa, sI 0, sR f0, sR g0, sI 0] [(.int (0 : Int32)), (.ref f0), (.int (0 : Int32)), (.ref b778)])) rfl rfl (hb hby dp23_2_77) _ ?_
      show Sg p e below (T821.setTop (mkF m 78 #[sR a1, sR fa, sI 0, sR f0, sR g0, sI 0] [(.int x0), (.int (0 : Int32)), (.ref b778)])) _
      exact st825 _ k)
    have N828 := Fr.snoc X825 N811 g_b778
    have Z829 : n0 ≤ h825.size := Nat.le_trans Z812 (Keep.of_wr W825).1
    have K830 : Keep h0 h825 [a1] := K813.wr W825 (Or.inr sz_b778)
    have f831 := ((f802.other W808 (Or.inr (slot_ne (Or.inl (own_hw hw 37 rfl)) (Or.inl (own_hw hw 46 rfl)) (by decide) (t := (.array .long)) (t' := .int) (by decide) (by decide)))).other W825 (Or.inl (Nat.ne_of_lt (Nat.lt_of_lt_of_le Fc.lt (Nat.le_of_eq g778.symm)))))
    obtain ⟨T832, X832, e832, st832⟩ := getF X825 hx hZ hown (host := "") (Or.inl (own_hw hw 36 rfl)) Via.refl e825 f831 (g := (mkF m 80 #[sR a1, sR fa, sI 0, sR f0, sR g0, sI 0] [(.ref a1)])) rfl rfl (hb hby dp23_2_80)
    have P833 : Rg p e below (T832.setTop (mkF m 83 #[sR a1, sR fa, sI 0, sR f0, sR g0, sI 0] [(.ref b793)])) B0 := fun t k => P827 t (by
      refine XS.aloadN X825.here hx rfl (hb hby dp23_2_79) rfl rfl ?_
      show Sg p e below (T825.setTop (mkF m 80 #[sR a1, sR fa, sI 0, sR f0, sR g0, sI 0] [(.ref a1)])) _
      exact st832 _ k)
    have f834 := (f810.other W825 (Or.inl (Nat.ne_of_lt (Nat.lt_of_lt_of_le Fc.lt (Nat.le_of_eq g778.symm)))))
    obtain ⟨T835, X835, e835, st835⟩ := getF X832 hx hZ hown (host := "") (Or.inl (own_hw hw 45 rfl)) Via.refl e832 f834 (g := (mkF m 85 #[sR a1, sR fa, sI 0, sR f0, sR g0, sI 0] [(.ref a1), (.ref a1), (.ref b793)])) rfl rfl (hb hby dp23_2_85)
    have P836 : Rg p e below (T835.setTop (mkF m 88 #[sR a1, sR fa, sI 0, sR f0, sR g0, sI 0] [(.int (0 : Int32)), (.ref a1), (.ref b793)])) B0 := fun t k => P833 t (by
      refine XS.aloadN X832.here hx rfl (hb hby dp23_2_83) rfl rfl ?_
      refine XS.dup X832.here hx rfl (hb hby dp23_2_84) rfl rfl ?_
      show Sg p e below (T832.setTop (mkF m 85 #[sR a1, sR fa, sI 0, sR f0, sR g0, sI 0] [(.ref a1), (.ref a1), (.ref b793)])) _
      exact st835 _ k)
    have f837 := ((f807.wr W808).wr W825)
    obtain ⟨T838, h838, X838, e838, W838, st838⟩ := putF X835 hx hZ hown (host := "") (Or.inl (own_hw hw 45 rfl)) Via.refl e835 f834 f837 (Or.inl (own_hw hw 46 rfl)) (own_hw hw 28 rfl) (ty := .int) (by decide) rfl rfl (g := (mkF m 91 #[sR a1, sR fa, sI 0, sR f0, sR g0, sI 0] [(.int (1 : Int32)), (.ref a1), (.int (0 : Int32)), (.ref b793)])) rfl rfl (hb hby dp23_2_91)
    have P839 : Rg p e below (T838.setTop (mkF m 94 #[sR a1, sR fa, sI 0, sR f0, sR g0, sI 0] [(.int (0 : Int32)), (.ref b793)])) B0 := fun t k => P836 t (by
      refine XT.dupX1 X835.here hx rfl (hb hby dp23_2_88) rfl rfl rfl ?_
      refine XS.iconst X835.here hx rfl (hb hby dp23_2_89) ?_
      refine XS.iadd X835.here hx rfl (hb hby dp23_2_90) rfl ?_
      show Sg p e below (T835.setTop (mkF m 91 #[sR a1, sR fa, sI 0, sR f0, sR g0, sI 0] [(.int (1 : Int32)), (.ref a1), (.int (0 : Int32)), (.ref b793)])) _
      exact st838 _ k)
    have f840 := f834.same W838
    have N841 := Fr.snoc X838 N828 g_a1
    have Z842 : n0 ≤ h838.size := Nat.le_trans Z829 (Keep.of_wr W838).1
    have K843 : Keep h0 h838 [a1] := K830.wr W838 (Or.inl (List.mem_of_getElem? (i := 0) rfl))
    have f844 := ((f816.other W825 (Nat.ne_of_lt (Nat.lt_of_lt_of_le Ag.lt (Nat.le_of_eq g778.symm)))).other W838 (Ne.symm (Exa.neArv E1 Ag (own_hw hw 28 rfl))))
    obtain ⟨cl845, Ar845, -, S845, N845, H845, -⟩ := id f844
    have hin845 : ¬ ((0 : Int32) < 0 ∨ cl845.slots.size ≤ ((0 : Int32)).toNatClampNeg) := inb_of S845 ⟨by decide, by decide⟩
    have f846 := ((((v797.other W800 (Ne.symm (Nat.ne_of_lt (Nat.lt_of_lt_of_le f787.lt (Nat.le_of_eq g793.symm))))).other W808 (Ne.symm (Nat.ne_of_lt (Nat.lt_of_lt_of_le f787.lt (Nat.le_of_eq g793.symm))))).other W825 (Ne.symm (Nat.ne_of_lt (Nat.lt_of_lt_of_le (B778.wr W785).lt (Nat.le_of_eq g793.symm))))).other W838 (Ne.symm (Nat.ne_of_lt (Nat.lt_of_lt_of_le f787.lt (Nat.le_of_eq g793.symm)))))
    obtain ⟨cl847, Ar847, q847, S847, N847, H847, G847⟩ := id f846
    obtain ⟨T847, h847, X847, e847, W847, st847⟩ := stJ X838 hx hZ e838 Ar847 (j := (0 : Int32)) (inb_of S847 ⟨by decide, by decide⟩) (g := (mkF m 99 #[sR a1, sR fa, sI 0, sR f0, sR g0, sI 0] [(.long y0), (.int (0 : Int32)), (.ref b793)])) rfl rfl (hb hby dp23_2_99)
    have v848 : Arv Z h847 b793 k793 .long (2 : Int32) [(.long y0), (.long (0 : Int64))] (.long (0 : Int64)) := Arv.set Ar847 q847 S847 N847 H847 G847 rfl W847 0 rfl (Nat.le_of_ble_eq_true rfl)
    have P849 : Rg p e below (T847.setTop (mkF m 100 #[sR a1, sR fa, sI 0, sR f0, sR g0, sI 0] [])) B0 := fun t k => P839 t (by
      refine XS.aload X838.here hx rfl (hb hby dp23_2_94) rfl rfl ?_
      refine XS.iload X838.here hx rfl (hb hby dp23_2_96) rfl ?_
      show Sg p e below (T838.setTop (mkF m 98 #[sR a1, sR fa, sI 0, sR f0, sR g0, sI 0] [(.int (0 : Int32)), (.ref g0), (.int (0 : Int32)), (.ref b793)])) _
      refine X838.laload hx (j := (0 : Int32)) (v := (.long y0)) (by rw [e838]; exact Ar845.1) (State.isArrayOf_alike hZ.alike Ar845.2.1) Ar845.2.2 hin845 (H845.at hin845 rfl) (g := (mkF m 98 #[sR a1, sR fa, sI 0, sR f0, sR g0, sI 0] [(.int (0 : Int32)), (.ref g0), (.int (0 : Int32)), (.ref b793)])) rfl rfl (hb hby dp23_2_98) _ ?_
      show Sg p e below (T838.setTop (mkF m 99 #[sR a1, sR fa, sI 0, sR f0, sR g0, sI 0] [(.long y0), (.int (0 : Int32)), (.ref b793)])) _
      exact st847 _ k)
    have N850 := Fr.snoc X847 N841 g_b793
    have Z851 : n0 ≤ h847.size := Nat.le_trans Z842 (Keep.of_wr W847).1
    have K852 : Keep h0 h847 [a1] := K843.wr W847 (Or.inr sz_b793)
    have f853 := (((f814.other W825 (Nat.ne_of_lt (Nat.lt_of_lt_of_le Af.lt (Nat.le_of_eq g778.symm)))).other W838 (Ne.symm (Exa.neArv E1 Af (own_hw hw 28 rfl)))).other W847 (Nat.ne_of_lt (Nat.lt_of_lt_of_le f791.lt (Nat.le_of_eq g793.symm))))
    obtain ⟨cl854, Ar854, -, S854, N854, -, -⟩ := id f853
    have f855 := (f844.other W847 (Nat.ne_of_lt (Nat.lt_of_lt_of_le ((Ag.ext E778).other W785 (Ne.symm (Exa.neArv E1 Ag (own_hw hw 28 rfl)))).lt (Nat.le_of_eq g793.symm))))
    obtain ⟨cl856, Ar856, -, S856, N856, H856, -⟩ := id f855
    have hin856 : ¬ ((1 : Int32) < 0 ∨ cl856.slots.size ≤ ((1 : Int32)).toNatClampNeg) := inb_of S856 ⟨by decide, by decide⟩
    have f857 := (((f818.other W825 (Or.inl (Nat.ne_of_lt (Nat.lt_of_lt_of_le Fc.lt (Nat.le_of_eq g778.symm))))).other W838 (Or.inr (slot_ne (Or.inl (own_hw hw 35 rfl)) (Or.inl (own_hw hw 46 rfl)) (by decide) (t := (.array .int)) (t' := .int) (by decide) (by decide)))).other W847 (Or.inl (Nat.ne_of_lt (Nat.lt_of_lt_of_le f787.lt (Nat.le_of_eq g793.symm)))))
    obtain ⟨T858, X858, e858, st858⟩ := getF X847 hx hZ hown (host := "") (Or.inl (own_hw hw 34 rfl)) Via.refl e847 f857 (g := (mkF m 67 #[sR a1, sR fa, sI 0, sR f0, sR g0, sI 1] [(.ref a1)])) rfl rfl (hb hby dp23_2_67)
    have P859 : Rg p e below (T858.setTop (mkF m 70 #[sR a1, sR fa, sI 0, sR f0, sR g0, sI 1] [(.ref b778)])) B0 := fun t k => P849 t (by
      refine XS.iinc X847.here hx rfl (hb hby dp23_2_100) rfl (l' := #[sR a1, sR fa, sI 0, sR f0, sR g0, sI 1]) rfl ?_
      refine XS.goto X847.here hx rfl (pc0 := 103) (pc' := 49) rfl (hb hby dp23_2_103) (by decide) (by decide) ?_
      refine XS.iload X847.here hx rfl (hb hby dp23_2_49) rfl ?_
      refine XS.aloadN X847.here hx rfl (hb hby dp23_2_51) rfl rfl ?_
      show Sg p e below (T847.setTop (mkF m 52 #[sR a1, sR fa, sI 0, sR f0, sR g0, sI 1] [(.ref f0), (.int (1 : Int32))])) _
      refine X847.arraylength hx (by rw [e847]; exact Ar854.1) (State.isArrayOf_alike hZ.alike Ar854.2.1) (g := (mkF m 52 #[sR a1, sR fa, sI 0, sR f0, sR g0, sI 1] [(.ref f0), (.int (1 : Int32))])) rfl rfl (hb hby dp23_2_52) _ ?_
      rw [len_of S854 N854]
      show Sg p e below (T847.setTop (mkF m 53 #[sR a1, sR fa, sI 0, sR f0, sR g0, sI 1] [(.int (2 : Int32)), (.int (1 : Int32))])) _
      refine XS.icmpNo X847.here hx rfl (hb hby dp23_2_53) rfl (tlt (show (1 : Int32) < (2 : Int32) from (by decide))).2.1 ?_
      refine XS.aload X847.here hx rfl (hb hby dp23_2_56) rfl rfl ?_
      refine XS.iload X847.here hx rfl (hb hby dp23_2_58) rfl ?_
      show Sg p e below (T847.setTop (mkF m 60 #[sR a1, sR fa, sI 0, sR f0, sR g0, sI 1] [(.int (1 : Int32)), (.ref g0)])) _
      refine X847.laload hx (j := (1 : Int32)) (v := (.long y1)) (by rw [e847]; exact Ar856.1) (State.isArrayOf_alike hZ.alike Ar856.2.1) Ar856.2.2 hin856 (H856.at hin856 rfl) (g := (mkF m 60 #[sR a1, sR fa, sI 0, sR f0, sR g0, sI 1] [(.int (1 : Int32)), (.ref g0)])) rfl rfl (hb hby dp23_2_60) _ ?_
      show Sg p e below (T847.setTop (mkF m 61 #[sR a1, sR fa, sI 0, sR f0, sR g0, sI 1] [(.long y1)])) _
      refine XS.lconst X847.here hx rfl (hb hby dp23_2_61) ?_
      refine XS.lcmp X847.here hx rfl (hb hby dp23_2_62) rfl ?_
      refine XS.ifNo X847.here hx rfl (hb hby dp23_2_63) rfl (XT.ll_eq_f (show ¬ (y1 = (0 : Int64)) from z_y1)) ?_
      refine XS.aloadN X847.here hx rfl (hb hby dp23_2_66) rfl rfl ?_
      show Sg p e below (T847.setTop (mkF m 67 #[sR a1, sR fa, sI 0, sR f0, sR g0, sI 1] [(.ref a1)])) _
      exact st858 _ k)
    have f860 := (f840.other W847 (Or.inl (Nat.ne_of_lt (Nat.lt_of_lt_of_le f787.lt (Nat.le_of_eq g793.symm)))))
    obtain ⟨T861, X861, e861, st861⟩ := getF X858 hx hZ hown (host := "") (Or.inl (own_hw hw 45 rfl)) Via.refl e858 f860 (g := (mkF m 71 #[sR a1, sR fa, sI 0, sR f0, sR g0, sI 1] [(.ref a1), (.ref b778)])) rfl rfl (hb hby dp23_2_71)
    have P862 : Rg p e below (T861.setTop (mkF m 74 #[sR a1, sR fa, sI 0, sR f0, sR g0, sI 1] [(.int (1 : Int32)), (.ref b778)])) B0 := fun t k => P859 t (by
      refine XS.aloadN X858.here hx rfl (hb hby dp23_2_70) rfl rfl ?_
      show Sg p e below (T858.setTop (mkF m 71 #[sR a1, sR fa, sI 0, sR f0, sR g0, sI 1] [(.ref a1), (.ref b778)])) _
      exact st861 _ k)
    obtain ⟨cl863, Ar863, -, S863, N863, H863, -⟩ := id f853
    have hin863 : ¬ ((1 : Int32) < 0 ∨ cl863.slots.size ≤ ((1 : Int32)).toNatClampNeg) := inb_of S863 ⟨by decide, by decide⟩
    have f864 := ((v826.other W838 (Ne.symm (Nat.ne_of_lt (Nat.lt_of_lt_of_le Fc.lt (Nat.le_of_eq g778.symm))))).other W847 (Nat.ne_of_lt (Nat.lt_of_lt_of_le (B778.wr W785).lt (Nat.le_of_eq g793.symm))))
    obtain ⟨cl865, Ar865, q865, S865, N865, H865, G865⟩ := id f864
    obtain ⟨T865, h865, X865, e865, W865, st865⟩ := stI X861 hx hZ e861 Ar865 (j := (1 : Int32)) (inb_of S865 ⟨by decide, by decide⟩) (g := (mkF m 78 #[sR a1, sR fa, sI 0, sR f0, sR g0, sI 1] [(.int x1), (.int (1 : Int32)), (.ref b778)])) rfl rfl (hb hby dp23_2_78)
    have v866 : Arv Z h865 b778 k778 .int (2 : Int32) [(.int x0), (.int x1)] (.int (0 : Int32)) := Arv.set Ar865 q865 S865 N865 H865 G865 rfl W865 1 rfl (Nat.le_of_ble_eq_true rfl)
    have P867 : Rg p e below (T865.setTop (mkF m 79 #[sR a1, sR fa, sI 0, sR f0, sR g0, sI 1] [])) B0 := fun t k => P862 t (by
      refine XS.aloadN X861.here hx rfl (hb hby dp23_2_74) rfl rfl ?_
      refine XS.iload X861.here hx rfl (hb hby dp23_2_75) rfl ?_
      show Sg p e below (T861.setTop (mkF m 77 #[sR a1, sR fa, sI 0, sR f0, sR g0, sI 1] [(.int (1 : Int32)), (.ref f0), (.int (1 : Int32)), (.ref b778)])) _
      refine X861.iaload hx (j := (1 : Int32)) (v := (.int x1)) (by rw [e861]; exact Ar863.1) (State.isArrayOf_alike hZ.alike Ar863.2.1) Ar863.2.2 hin863 (H863.at hin863 rfl) (g := (mkF m 77 #[sR a1, sR fa, sI 0, sR f0, sR g0, sI 1] [(.int (1 : Int32)), (.ref f0), (.int (1 : Int32)), (.ref b778)])) rfl rfl (hb hby dp23_2_77) _ ?_
      show Sg p e below (T861.setTop (mkF m 78 #[sR a1, sR fa, sI 0, sR f0, sR g0, sI 1] [(.int x1), (.int (1 : Int32)), (.ref b778)])) _
      exact st865 _ k)
    have N868 := Fr.snoc X865 N850 g_b778
    have Z869 : n0 ≤ h865.size := Nat.le_trans Z851 (Keep.of_wr W865).1
    have K870 : Keep h0 h865 [a1] := K852.wr W865 (Or.inr sz_b778)
    have f871 := (((f831.other W838 (Or.inr (slot_ne (Or.inl (own_hw hw 37 rfl)) (Or.inl (own_hw hw 46 rfl)) (by decide) (t := (.array .long)) (t' := .int) (by decide) (by decide)))).other W847 (Or.inl (Nat.ne_of_lt (Nat.lt_of_lt_of_le f787.lt (Nat.le_of_eq g793.symm))))).other W865 (Or.inl (Nat.ne_of_lt (Nat.lt_of_lt_of_le Fc.lt (Nat.le_of_eq g778.symm)))))
    obtain ⟨T872, X872, e872, st872⟩ := getF X865 hx hZ hown (host := "") (Or.inl (own_hw hw 36 rfl)) Via.refl e865 f871 (g := (mkF m 80 #[sR a1, sR fa, sI 0, sR f0, sR g0, sI 1] [(.ref a1)])) rfl rfl (hb hby dp23_2_80)
    have P873 : Rg p e below (T872.setTop (mkF m 83 #[sR a1, sR fa, sI 0, sR f0, sR g0, sI 1] [(.ref b793)])) B0 := fun t k => P867 t (by
      refine XS.aloadN X865.here hx rfl (hb hby dp23_2_79) rfl rfl ?_
      show Sg p e below (T865.setTop (mkF m 80 #[sR a1, sR fa, sI 0, sR f0, sR g0, sI 1] [(.ref a1)])) _
      exact st872 _ k)
    have f874 := (f860.other W865 (Or.inl (Nat.ne_of_lt (Nat.lt_of_lt_of_le Fc.lt (Nat.le_of_eq g778.symm)))))
    obtain ⟨T875, X875, e875, st875⟩ := getF X872 hx hZ hown (host := "") (Or.inl (own_hw hw 45 rfl)) Via.refl e872 f874 (g := (mkF m 85 #[sR a1, sR fa, sI 0, sR f0, sR g0, sI 1] [(.ref a1), (.ref a1), (.ref b793)])) rfl rfl (hb hby dp23_2_85)
    have P876 : Rg p e below (T875.setTop (mkF m 88 #[sR a1, sR fa, sI 0, sR f0, sR g0, sI 1] [(.int (1 : Int32)), (.ref a1), (.ref b793)])) B0 := fun t k => P873 t (by
      refine XS.aloadN X872.here hx rfl (hb hby dp23_2_83) rfl rfl ?_
      refine XS.dup X872.here hx rfl (hb hby dp23_2_84) rfl rfl ?_
      show Sg p e below (T872.setTop (mkF m 85 #[sR a1, sR fa, sI 0, sR f0, sR g0, sI 1] [(.ref a1), (.ref a1), (.ref b793)])) _
      exact st875 _ k)
    have f877 := (((f837.wr W838).wr W847).wr W865)
    obtain ⟨T878, h878, X878, e878, W878, st878⟩ := putF X875 hx hZ hown (host := "") (Or.inl (own_hw hw 45 rfl)) Via.refl e875 f874 f877 (Or.inl (own_hw hw 46 rfl)) (own_hw hw 28 rfl) (ty := .int) (by decide) rfl rfl (g := (mkF m 91 #[sR a1, sR fa, sI 0, sR f0, sR g0, sI 1] [(.int (2 : Int32)), (.ref a1), (.int (1 : Int32)), (.ref b793)])) rfl rfl (hb hby dp23_2_91)
    have P879 : Rg p e below (T878.setTop (mkF m 94 #[sR a1, sR fa, sI 0, sR f0, sR g0, sI 1] [(.int (1 : Int32)), (.ref b793)])) B0 := fun t k => P876 t (by
      refine XT.dupX1 X875.here hx rfl (hb hby dp23_2_88) rfl rfl rfl ?_
      refine XS.iconst X875.here hx rfl (hb hby dp23_2_89) ?_
      refine XS.iadd X875.here hx rfl (hb hby dp23_2_90) rfl ?_
      show Sg p e below (T875.setTop (mkF m 91 #[sR a1, sR fa, sI 0, sR f0, sR g0, sI 1] [(.int (2 : Int32)), (.ref a1), (.int (1 : Int32)), (.ref b793)])) _
      exact st878 _ k)
    have f880 := f874.same W878
    have N881 := Fr.snoc X878 N868 g_a1
    have Z882 : n0 ≤ h878.size := Nat.le_trans Z869 (Keep.of_wr W878).1
    have K883 : Keep h0 h878 [a1] := K870.wr W878 (Or.inl (List.mem_of_getElem? (i := 0) rfl))
    have f884 := ((f855.other W865 (Nat.ne_of_lt (Nat.lt_of_lt_of_le Ag.lt (Nat.le_of_eq g778.symm)))).other W878 (Ne.symm (Exa.neArv E1 Ag (own_hw hw 28 rfl))))
    obtain ⟨cl885, Ar885, -, S885, N885, H885, -⟩ := id f884
    have hin885 : ¬ ((1 : Int32) < 0 ∨ cl885.slots.size ≤ ((1 : Int32)).toNatClampNeg) := inb_of S885 ⟨by decide, by decide⟩
    have f886 := ((v848.other W865 (Ne.symm (Nat.ne_of_lt (Nat.lt_of_lt_of_le (B778.wr W785).lt (Nat.le_of_eq g793.symm))))).other W878 (Ne.symm (Nat.ne_of_lt (Nat.lt_of_lt_of_le f787.lt (Nat.le_of_eq g793.symm)))))
    obtain ⟨cl887, Ar887, q887, S887, N887, H887, G887⟩ := id f886
    obtain ⟨T887, h887, X887, e887, W887, st887⟩ := stJ X878 hx hZ e878 Ar887 (j := (1 : Int32)) (inb_of S887 ⟨by decide, by decide⟩) (g := (mkF m 99 #[sR a1, sR fa, sI 0, sR f0, sR g0, sI 1] [(.long y1), (.int (1 : Int32)), (.ref b793)])) rfl rfl (hb hby dp23_2_99)
    have v888 : Arv Z h887 b793 k793 .long (2 : Int32) [(.long y0), (.long y1)] (.long (0 : Int64)) := Arv.set Ar887 q887 S887 N887 H887 G887 rfl W887 1 rfl (Nat.le_of_ble_eq_true rfl)
    have P889 : Rg p e below (T887.setTop (mkF m 100 #[sR a1, sR fa, sI 0, sR f0, sR g0, sI 1] [])) B0 := fun t k => P879 t (by
      refine XS.aload X878.here hx rfl (hb hby dp23_2_94) rfl rfl ?_
      refine XS.iload X878.here hx rfl (hb hby dp23_2_96) rfl ?_
      show Sg p e below (T878.setTop (mkF m 98 #[sR a1, sR fa, sI 0, sR f0, sR g0, sI 1] [(.int (1 : Int32)), (.ref g0), (.int (1 : Int32)), (.ref b793)])) _
      refine X878.laload hx (j := (1 : Int32)) (v := (.long y1)) (by rw [e878]; exact Ar885.1) (State.isArrayOf_alike hZ.alike Ar885.2.1) Ar885.2.2 hin885 (H885.at hin885 rfl) (g := (mkF m 98 #[sR a1, sR fa, sI 0, sR f0, sR g0, sI 1] [(.int (1 : Int32)), (.ref g0), (.int (1 : Int32)), (.ref b793)])) rfl rfl (hb hby dp23_2_98) _ ?_
      show Sg p e below (T878.setTop (mkF m 99 #[sR a1, sR fa, sI 0, sR f0, sR g0, sI 1] [(.long y1), (.int (1 : Int32)), (.ref b793)])) _
      exact st887 _ k)
    have N890 := Fr.snoc X887 N881 g_b793
    have Z891 : n0 ≤ h887.size := Nat.le_trans Z882 (Keep.of_wr W887).1
    have K892 : Keep h0 h887 [a1] := K883.wr W887 (Or.inr sz_b793)
    have f893 := (((f853.other W865 (Nat.ne_of_lt (Nat.lt_of_lt_of_le Af.lt (Nat.le_of_eq g778.symm)))).other W878 (Ne.symm (Exa.neArv E1 Af (own_hw hw 28 rfl)))).other W887 (Nat.ne_of_lt (Nat.lt_of_lt_of_le f791.lt (Nat.le_of_eq g793.symm))))
    obtain ⟨cl894, Ar894, -, S894, N894, -, -⟩ := id f893
    have f895 := ((f877.wr W878).wr W887)
    have f896 := (f880.other W887 (Or.inl (Nat.ne_of_lt (Nat.lt_of_lt_of_le f787.lt (Nat.le_of_eq g793.symm)))))
    have f897 := (((f857.other W865 (Or.inl (Nat.ne_of_lt (Nat.lt_of_lt_of_le Fc.lt (Nat.le_of_eq g778.symm))))).other W878 (Or.inr (slot_ne (Or.inl (own_hw hw 35 rfl)) (Or.inl (own_hw hw 46 rfl)) (by decide) (t := (.array .int)) (t' := .int) (by decide) (by decide)))).other W887 (Or.inl (Nat.ne_of_lt (Nat.lt_of_lt_of_le f787.lt (Nat.le_of_eq g793.symm)))))
    have f898 := ((f871.other W878 (Or.inr (slot_ne (Or.inl (own_hw hw 37 rfl)) (Or.inl (own_hw hw 46 rfl)) (by decide) (t := (.array .long)) (t' := .int) (by decide) (by decide)))).other W887 (Or.inl (Nat.ne_of_lt (Nat.lt_of_lt_of_le f787.lt (Nat.le_of_eq g793.symm)))))
    have f899 := ((v866.other W878 (Ne.symm (Nat.ne_of_lt (Nat.lt_of_lt_of_le Fc.lt (Nat.le_of_eq g778.symm))))).other W887 (Nat.ne_of_lt (Nat.lt_of_lt_of_le (B778.wr W785).lt (Nat.le_of_eq g793.symm))))
    have f900 := ((((((((((B778.wr W785).ext E793).wr W800).wr W808).wr W825).wr W838).wr W847).wr W865).wr W878).wr W887)
    have f901 := ((((((((B793.wr W800).wr W808).wr W825).wr W838).wr W847).wr W865).wr W878).wr W887)
    obtain ⟨fs902, hr902, hrun902, hended902, hW902, hsame902⟩ := X887.leave (v := none) (fun _ => rfl)
    refine ⟨_, _, pre0 _ (P889 _ ?_), hrun902, hended902, _, _, rfl, ?_, ⟨⟨_, rfl⟩, hW902, hsame902.mono (Nat.le_of_ble_eq_true rfl) (Nat.le_of_ble_eq_true rfl)⟩⟩
    · show Sg p e below (T887.setTop (mkF m 100 #[sR a1, sR fa, sI 0, sR f0, sR g0, sI 1] [])) _
      refine XS.iinc X887.here hx rfl (hb hby dp23_2_100) rfl (l' := #[sR a1, sR fa, sI 0, sR f0, sR g0, sI 2]) rfl ?_
      refine XS.goto X887.here hx rfl (pc0 := 103) (pc' := 49) rfl (hb hby dp23_2_103) (by decide) (by decide) ?_
      refine XS.iload X887.here hx rfl (hb hby dp23_2_49) rfl ?_
      refine XS.aloadN X887.here hx rfl (hb hby dp23_2_51) rfl rfl ?_
      show Sg p e below (T887.setTop (mkF m 52 #[sR a1, sR fa, sI 0, sR f0, sR g0, sI 2] [(.ref f0), (.int (2 : Int32))])) _
      refine X887.arraylength hx (by rw [e887]; exact Ar894.1) (State.isArrayOf_alike hZ.alike Ar894.2.1) (g := (mkF m 52 #[sR a1, sR fa, sI 0, sR f0, sR g0, sI 2] [(.ref f0), (.int (2 : Int32))])) rfl rfl (hb hby dp23_2_52) _ ?_
      rw [len_of S894 N894]
      show Sg p e below (T887.setTop (mkF m 53 #[sR a1, sR fa, sI 0, sR f0, sR g0, sI 2] [(.int (2 : Int32)), (.int (2 : Int32))])) _
      refine XS.icmpYes X887.here hx rfl (pc0 := 53) (pc' := 106) rfl (hb hby dp23_2_53) rfl (flt (show ¬ ((2 : Int32) < (2 : Int32)) from (by decide))).2.1 (by decide) (by decide) ?_
      show Sg p e below (T887.setTop (mkF m 106 #[sR a1, sR fa, sI 0, sR f0, sR g0, sI 2] [])) _
      exact X887.returnOut hx Bd.returns (hb hby dp23_2_106) hr902
    · show Q_stf Z a1 (2 : Int32) [x0, x1] [y0, y1] h0 n0 _ T887.heap _
      rw [e887]
      exact ⟨rfl, N890, K892, f895, f896, b778, b793, _, _, f897, f898, f899, v888, f900, f901, sz_b778, sz_b793⟩
  · skip
    obtain ⟨y0, y1, y2, rfl⟩ := own_len3 hwl
    have hN' : N = (3 : Int32) := hN
    subst hN'
    have z_y0 := hnz y0 (by simp)
    have z_y1 := hnz y1 (by simp)
    have z_y2 := hnz y2 (by simp)
    obtain ⟨T903, X903, e903, st903⟩ := getF X0 hx hZ hown (Or.inr (own_hw hw 43 rfl)) Via.refl e0 Ffp (g := (mkF m 1 #[sR a1, sR fa, sI 0, sU, sU, sU] [(.ref fa)])) rfl rfl (hb hby dp23_2_1)
    have P904 : Rg p e below (T903.setTop (mkF m 4 #[sR a1, sR fa, sI 0, sU, sU, sU] [(.ref PP)])) B0 := fun t k => P0 t (by
      refine XS.aloadN X0.here hx rfl (hb hby dp23_2_0) rfl rfl ?_
      show Sg p e below (s₁.setTop (mkF m 1 #[sR a1, sR fa, sI 0, sU, sU, sU] [(.ref fa)])) _
      exact st903 _ k)
    obtain ⟨cl905, Ar905, -, S905, N905, H905, -⟩ := id APP
    have hin905 : ¬ ((0 : Int32) < 0 ∨ cl905.slots.size ≤ ((0 : Int32)).toNatClampNeg) := inb_of S905 ⟨by decide, by decide⟩
    obtain ⟨T906, X906, e906, st906⟩ := getF X903 hx hZ hown (Or.inr (own_hw hw 44 rfl)) Via.refl e903 Ffw (g := (mkF m 8 #[sR a1, sR fa, sI 0, sR f0, sU, sU] [(.ref fa)])) rfl rfl (hb hby dp23_2_8)
    have P907 : Rg p e below (T906.setTop (mkF m 11 #[sR a1, sR fa, sI 0, sR f0, sU, sU] [(.ref WW)])) B0 := fun t k => P904 t (by
      refine XS.iloadN X903.here hx rfl (hb hby dp23_2_4) rfl ?_
      show Sg p e below (T903.setTop (mkF m 5 #[sR a1, sR fa, sI 0, sU, sU, sU] [(.int (0 : Int32)), (.ref PP)])) _
      refine X903.aaload hx (j := (0 : Int32)) (v := (.ref f0)) (by rw [e903]; exact Ar905.1) (State.isArrayOf_alike hZ.alike Ar905.2.1) rfl Ar905.2.2 hin905 (H905.at hin905 rfl) (g := (mkF m 5 #[sR a1, sR fa, sI 0, sU, sU, sU] [(.int (0 : Int32)), (.ref PP)])) rfl rfl (hb hby dp23_2_5) _ ?_
      show Sg p e below (T903.setTop (mkF m 6 #[sR a1, sR fa, sI 0, sU, sU, sU] [(.ref f0)])) _
      refine XS.astoreN X903.here hx rfl (hb hby dp23_2_6) rfl rfl (l' := #[sR a1, sR fa, sI 0, sR f0, sU, sU]) rfl ?_
      refine XS.aloadN X903.here hx rfl (hb hby dp23_2_7) rfl rfl ?_
      show Sg p e below (T903.setTop (mkF m 8 #[sR a1, sR fa, sI 0, sR f0, sU, sU] [(.ref fa)])) _
      exact st906 _ k)
    obtain ⟨cl908, Ar908, -, S908, N908, H908, -⟩ := id AWW
    have hin908 : ¬ ((0 : Int32) < 0 ∨ cl908.slots.size ≤ ((0 : Int32)).toNatClampNeg) := inb_of S908 ⟨by decide, by decide⟩
    obtain ⟨T909, X909, e909, st909⟩ := getF X906 hx hZ hown (host := "") (Or.inl (own_hw hw 34 rfl)) Via.refl e906 Fp (g := (mkF m 16 #[sR a1, sR fa, sI 0, sR f0, sR g0, sU] [(.ref a1)])) rfl rfl (hb hby dp23_2_16)
    have P910 : Rg p e below (T909.setTop (mkF m 19 #[sR a1, sR fa, sI 0, sR f0, sR g0, sU] [(.ref P)])) B0 := fun t k => P907 t (by
      refine XS.iloadN X906.here hx rfl (hb hby dp23_2_11) rfl ?_
      show Sg p e below (T906.setTop (mkF m 12 #[sR a1, sR fa, sI 0, sR f0, sU, sU] [(.int (0 : Int32)), (.ref WW)])) _
      refine X906.aaload hx (j := (0 : Int32)) (v := (.ref g0)) (by rw [e906]; exact Ar908.1) (State.isArrayOf_alike hZ.alike Ar908.2.1) rfl Ar908.2.2 hin908 (H908.at hin908 rfl) (g := (mkF m 12 #[sR a1, sR fa, sI 0, sR f0, sU, sU] [(.int (0 : Int32)), (.ref WW)])) rfl rfl (hb hby dp23_2_12) _ ?_
      show Sg p e below (T906.setTop (mkF m 13 #[sR a1, sR fa, sI 0, sR f0, sU, sU] [(.ref g0)])) _
      refine XS.astore X906.here hx rfl (hb hby dp23_2_13) rfl rfl (l' := #[sR a1, sR fa, sI 0, sR f0, sR g0, sU]) rfl ?_
      refine XS.aloadN X906.here hx rfl (hb hby dp23_2_15) rfl rfl ?_
      show Sg p e below (T906.setTop (mkF m 16 #[sR a1, sR fa, sI 0, sR f0, sR g0, sU] [(.ref a1)])) _
      exact st909 _ k)
    obtain ⟨cl911, Ar911, -, S911, N911, -, -⟩ := id AP
    obtain ⟨cl912, Ar912, -, S912, N912, -, -⟩ := id Af
    obtain ⟨cl913, Ar913, -, S913, N913, -, -⟩ := id Af
    obtain ⟨T914, h914, k914, X914, e914, E914, A914, B914, st914⟩ := newPE X909 hx hZ (own_hw hw 7 rfl) e909 (g := (mkF m 28 #[sR a1, sR fa, sI 0, sR f0, sR g0, sU] [(.int (3 : Int32)), (.ref a1)])) rfl (hb hby dp23_2_28) rfl (by decide) (cap := 3) (by decide) (by decide) (by decide) (by decide) (ad := "[I") (by decide)
    obtain ⟨b914, g914⟩ : ∃ z, z = h0.size := ⟨_, rfl⟩
    rw [← g914] at A914 B914 st914
    have g_b914 : n0 ≤ b914 := Nat.le_trans Z0 (Nat.le_of_eq g914.symm)
    have sz_b914 : h0.size ≤ b914 := Nat.le_trans (Keep.refl h0 [a1]).1 (Nat.le_of_eq g914.symm)
    have P915 : Rg p e below (T914.setTop (mkF m 30 #[sR a1, sR fa, sI 0, sR f0, sR g0, sU] [(.ref b914), (.ref a1)])) B0 := fun t k => P910 t (by
      refine X909.arraylength hx (by rw [e909]; exact Ar911.1) (State.isArrayOf_alike hZ.alike Ar911.2.1) (g := (mkF m 19 #[sR a1, sR fa, sI 0, sR f0, sR g0, sU] [(.ref P)])) rfl rfl (hb hby dp23_2_19) _ ?_
      rw [len_of S911 N911]
      show Sg p e below (T909.setTop (mkF m 20 #[sR a1, sR fa, sI 0, sR f0, sR g0, sU] [(.int (0 : Int32))])) _
      refine XS.aloadN X909.here hx rfl (hb hby dp23_2_20) rfl rfl ?_
      show Sg p e below (T909.setTop (mkF m 21 #[sR a1, sR fa, sI 0, sR f0, sR g0, sU] [(.ref f0), (.int (0 : Int32))])) _
      refine X909.arraylength hx (by rw [e909]; exact Ar912.1) (State.isArrayOf_alike hZ.alike Ar912.2.1) (g := (mkF m 21 #[sR a1, sR fa, sI 0, sR f0, sR g0, sU] [(.ref f0), (.int (0 : Int32))])) rfl rfl (hb hby dp23_2_21) _ ?_
      rw [len_of S912 N912]
      show Sg p e below (T909.setTop (mkF m 22 #[sR a1, sR fa, sI 0, sR f0, sR g0, sU] [(.int (3 : Int32)), (.int (0 : Int32))])) _
      refine XS.icmpNo X909.here hx rfl (hb hby dp23_2_22) rfl (tlt (show (0 : Int32) < (3 : Int32) from (by decide))).2.1 ?_
      refine XS.aloadN X909.here hx rfl (hb hby dp23_2_25) rfl rfl ?_
      refine XS.aloadN X909.here hx rfl (hb hby dp23_2_26) rfl rfl ?_
      show Sg p e below (T909.setTop (mkF m 27 #[sR a1, sR fa, sI 0, sR f0, sR g0, sU] [(.ref f0), (.ref a1)])) _
      refine X909.arraylength hx (by rw [e909]; exact Ar913.1) (State.isArrayOf_alike hZ.alike Ar913.2.1) (g := (mkF m 27 #[sR a1, sR fa, sI 0, sR f0, sR g0, sU] [(.ref f0), (.ref a1)])) rfl rfl (hb hby dp23_2_27) _ ?_
      rw [len_of S913 N913]
      show Sg p e below (T909.setTop (mkF m 28 #[sR a1, sR fa, sI 0, sR f0, sR g0, sU] [(.int (3 : Int32)), (.ref a1)])) _
      exact st914 _ k)
    have Z916 : n0 ≤ h914.size := Nat.le_trans Z0 E914.1
    have K917 : Keep h0 h914 [a1] := (Keep.refl h0 [a1]).ext E914
    have v918 : Arv Z h914 b914 k914 .int (3 : Int32) [(.int (0 : Int32)), (.int (0 : Int32)), (.int (0 : Int32))] (.int (0 : Int32)) := (Arv.new A914 (by decide)).pad (pad_rep [] (.int (0 : Int32)) 3)
    have f919 := (Fp.ext E914)
    have f920 := (E1.ext E914)
    obtain ⟨T921, h921, X921, e921, W921, st921⟩ := putF X914 hx hZ hown (host := "") (Or.inl (own_hw hw 34 rfl)) Via.refl e914 f919 f920 (Or.inl (own_hw hw 35 rfl)) (own_hw hw 28 rfl) (ty := (.array .int)) (by decide) rfl rfl (g := (mkF m 30 #[sR a1, sR fa, sI 0, sR f0, sR g0, sU] [(.ref b914), (.ref a1)])) rfl rfl (hb hby dp23_2_30)
    have P922 : Rg p e below (T921.setTop (mkF m 33 #[sR a1, sR fa, sI 0, sR f0, sR g0, sU] [])) B0 := fun t k => P915 t (by
      exact st921 _ k)
    have f923 := f919.same W921
    have N924 := Fr.snoc X921 N0 g_a1
    have Z925 : n0 ≤ h921.size := Nat.le_trans Z916 (Keep.of_wr W921).1
    have K926 : Keep h0 h921 [a1] := K917.wr W921 (Or.inl (List.mem_of_getElem? (i := 0) rfl))
    have f927 := ((Af.ext E914).other W921 (Ne.symm (Exa.neArv E1 Af (own_hw hw 28 rfl))))
    obtain ⟨cl928, Ar928, -, S928, N928, -, -⟩ := id f927
    obtain ⟨T929, h929, k929, X929, e929, E929, A929, B929, st929⟩ := newPE X921 hx hZ (own_hw hw 25 rfl) e921 (g := (mkF m 36 #[sR a1, sR fa, sI 0, sR f0, sR g0, sU] [(.int (3 : Int32)), (.ref a1)])) rfl (hb hby dp23_2_36) rfl (by decide) (cap := 3) (by decide) (by decide) (by decide) (by decide) (ad := "[J") (by decide)
    obtain ⟨b929, g929⟩ : ∃ z, z = h921.size := ⟨_, rfl⟩
    rw [← g929] at A929 B929 st929
    have g_b929 : n0 ≤ b929 := Nat.le_trans Z925 (Nat.le_of_eq g929.symm)
    have sz_b929 : h0.size ≤ b929 := Nat.le_trans K926.1 (Nat.le_of_eq g929.symm)
    have P930 : Rg p e below (T929.setTop (mkF m 38 #[sR a1, sR fa, sI 0, sR f0, sR g0, sU] [(.ref b929), (.ref a1)])) B0 := fun t k => P922 t (by
      refine XS.aloadN X921.here hx rfl (hb hby dp23_2_33) rfl rfl ?_
      refine XS.aloadN X921.here hx rfl (hb hby dp23_2_34) rfl rfl ?_
      show Sg p e below (T921.setTop (mkF m 35 #[sR a1, sR fa, sI 0, sR f0, sR g0, sU] [(.ref f0), (.ref a1)])) _
      refine X921.arraylength hx (by rw [e921]; exact Ar928.1) (State.isArrayOf_alike hZ.alike Ar928.2.1) (g := (mkF m 35 #[sR a1, sR fa, sI 0, sR f0, sR g0, sU] [(.ref f0), (.ref a1)])) rfl rfl (hb hby dp23_2_35) _ ?_
      rw [len_of S928 N928]
      show Sg p e below (T921.setTop (mkF m 36 #[sR a1, sR fa, sI 0, sR f0, sR g0, sU] [(.int (3 : Int32)), (.ref a1)])) _
      exact st929 _ k)
    have Z931 : n0 ≤ h929.size := Nat.le_trans Z925 E929.1
    have K932 : Keep h0 h929 [a1] := K926.ext E929
    have v933 : Arv Z h929 b929 k929 .long (3 : Int32) [(.long (0 : Int64)), (.long (0 : Int64)), (.long (0 : Int64))] (.long (0 : Int64)) := (Arv.new A929 (by decide)).pad (pad_rep [] (.long (0 : Int64)) 3)
    have f934 := (((Fw.ext E914).other W921 (Or.inr (slot_ne (Or.inl (own_hw hw 37 rfl)) (Or.inl (own_hw hw 35 rfl)) (by decide) (t := (.array .long)) (t' := (.array .int)) (by decide) (by decide)))).ext E929)
    have f935 := ((f920.wr W921).ext E929)
    obtain ⟨T936, h936, X936, e936, W936, st936⟩ := putF X929 hx hZ hown (host := "") (Or.inl (own_hw hw 36 rfl)) Via.refl e929 f934 f935 (Or.inl (own_hw hw 37 rfl)) (own_hw hw 28 rfl) (ty := (.array .long)) (by decide) rfl rfl (g := (mkF m 38 #[sR a1, sR fa, sI 0, sR f0, sR g0, sU] [(.ref b929), (.ref a1)])) rfl rfl (hb hby dp23_2_38)
    have P937 : Rg p e below (T936.setTop (mkF m 41 #[sR a1, sR fa, sI 0, sR f0, sR g0, sU] [])) B0 := fun t k => P930 t (by
      exact st936 _ k)
    have f938 := f934.same W936
    have N939 := Fr.snoc X936 N924 g_a1
    have Z940 : n0 ≤ h936.size := Nat.le_trans Z931 (Keep.of_wr W936).1
    have K941 : Keep h0 h936 [a1] := K932.wr W936 (Or.inl (List.mem_of_getElem? (i := 0) rfl))
    have f942 := ((((Fc.ext E914).other W921 (Or.inr (slot_ne (Or.inl (own_hw hw 46 rfl)) (Or.inl (own_hw hw 35 rfl)) (by decide) (t := .int) (t' := (.array .int)) (by decide) (by decide)))).ext E929).other W936 (Or.inr (slot_ne (Or.inl (own_hw hw 46 rfl)) (Or.inl (own_hw hw 37 rfl)) (by decide) (t := .int) (t' := (.array .long)) (by decide) (by decide))))
    have f943 := (f935.wr W936)
    obtain ⟨T944, h944, X944, e944, W944, st944⟩ := putF X936 hx hZ hown (host := "") (Or.inl (own_hw hw 45 rfl)) Via.refl e936 f942 f943 (Or.inl (own_hw hw 46 rfl)) (own_hw hw 28 rfl) (ty := .int) (by decide) rfl rfl (g := (mkF m 43 #[sR a1, sR fa, sI 0, sR f0, sR g0, sU] [(.int (0 : Int32)), (.ref a1)])) rfl rfl (hb hby dp23_2_43)
    have P945 : Rg p e below (T944.setTop (mkF m 46 #[sR a1, sR fa, sI 0, sR f0, sR g0, sU] [])) B0 := fun t k => P937 t (by
      refine XS.aloadN X936.here hx rfl (hb hby dp23_2_41) rfl rfl ?_
      refine XS.iconst X936.here hx rfl (hb hby dp23_2_42) ?_
      show Sg p e below (T936.setTop (mkF m 43 #[sR a1, sR fa, sI 0, sR f0, sR g0, sU] [(.int (0 : Int32)), (.ref a1)])) _
      exact st944 _ k)
    have f946 := f942.same W944
    have N947 := Fr.snoc X944 N939 g_a1
    have Z948 : n0 ≤ h944.size := Nat.le_trans Z940 (Keep.of_wr W944).1
    have K949 : Keep h0 h944 [a1] := K941.wr W944 (Or.inl (List.mem_of_getElem? (i := 0) rfl))
    have f950 := (((f927.ext E929).other W936 (Ne.symm (Exa.neArv E1 Af (own_hw hw 28 rfl)))).other W944 (Ne.symm (Exa.neArv E1 Af (own_hw hw 28 rfl))))
    obtain ⟨cl951, Ar951, -, S951, N951, -, -⟩ := id f950
    have f952 := (((((Ag.ext E914).other W921 (Ne.symm (Exa.neArv E1 Ag (own_hw hw 28 rfl)))).ext E929).other W936 (Ne.symm (Exa.neArv E1 Ag (own_hw hw 28 rfl)))).other W944 (Ne.symm (Exa.neArv E1 Ag (own_hw hw 28 rfl))))
    obtain ⟨cl953, Ar953, -, S953, N953, H953, -⟩ := id f952
    have hin953 : ¬ ((0 : Int32) < 0 ∨ cl953.slots.size ≤ ((0 : Int32)).toNatClampNeg) := inb_of S953 ⟨by decide, by decide⟩
    have f954 := (((f923.ext E929).other W936 (Or.inr (slot_ne (Or.inl (own_hw hw 35 rfl)) (Or.inl (own_hw hw 37 rfl)) (by decide) (t := (.array .int)) (t' := (.array .long)) (by decide) (by decide)))).other W944 (Or.inr (slot_ne (Or.inl (own_hw hw 35 rfl)) (Or.inl (own_hw hw 46 rfl)) (by decide) (t := (.array .int)) (t' := .int) (by decide) (by decide))))
    obtain ⟨T955, X955, e955, st955⟩ := getF X944 hx hZ hown (host := "") (Or.inl (own_hw hw 34 rfl)) Via.refl e944 f954 (g := (mkF m 67 #[sR a1, sR fa, sI 0, sR f0, sR g0, sI 0] [(.ref a1)])) rfl rfl (hb hby dp23_2_67)
    have P956 : Rg p e below (T955.setTop (mkF m 70 #[sR a1, sR fa, sI 0, sR f0, sR g0, sI 0] [(.ref b914)])) B0 := fun t k => P945 t (by
      refine XS.iconst X944.here hx rfl (hb hby dp23_2_46) ?_
      refine XS.istore X944.here hx rfl (hb hby dp23_2_47) rfl (l' := #[sR a1, sR fa, sI 0, sR f0, sR g0, sI 0]) rfl ?_
      refine XS.iload X944.here hx rfl (hb hby dp23_2_49) rfl ?_
      refine XS.aloadN X944.here hx rfl (hb hby dp23_2_51) rfl rfl ?_
      show Sg p e below (T944.setTop (mkF m 52 #[sR a1, sR fa, sI 0, sR f0, sR g0, sI 0] [(.ref f0), (.int (0 : Int32))])) _
      refine X944.arraylength hx (by rw [e944]; exact Ar951.1) (State.isArrayOf_alike hZ.alike Ar951.2.1) (g := (mkF m 52 #[sR a1, sR fa, sI 0, sR f0, sR g0, sI 0] [(.ref f0), (.int (0 : Int32))])) rfl rfl (hb hby dp23_2_52) _ ?_
      rw [len_of S951 N951]
      show Sg p e below (T944.setTop (mkF m 53 #[sR a1, sR fa, sI 0, sR f0, sR g0, sI 0] [(.int (3 : Int32)), (.int (0 : Int32))])) _
      refine XS.icmpNo X944.here hx rfl (hb hby dp23_2_53) rfl (tlt (show (0 : Int32) < (3 : Int32) from (by decide))).2.1 ?_
      refine XS.aload X944.here hx rfl (hb hby dp23_2_56) rfl rfl ?_
      refine XS.iload X944.here hx rfl (hb hby dp23_2_58) rfl ?_
      show Sg p e below (T944.setTop (mkF m 60 #[sR a1, sR fa, sI 0, sR f0, sR g0, sI 0] [(.int (0 : Int32)), (.ref g0)])) _
      refine X944.laload hx (j := (0 : Int32)) (v := (.long y0)) (by rw [e944]; exact Ar953.1) (State.isArrayOf_alike hZ.alike Ar953.2.1) Ar953.2.2 hin953 (H953.at hin953 rfl) (g := (mkF m 60 #[sR a1, sR fa, sI 0, sR f0, sR g0, sI 0] [(.int (0 : Int32)), (.ref g0)])) rfl rfl (hb hby dp23_2_60) _ ?_
      show Sg p e below (T944.setTop (mkF m 61 #[sR a1, sR fa, sI 0, sR f0, sR g0, sI 0] [(.long y0)])) _
      refine XS.lconst X944.here hx rfl (hb hby dp23_2_61) ?_
      refine XS.lcmp X944.here hx rfl (hb hby dp23_2_62) rfl ?_
      refine XS.ifNo X944.here hx rfl (hb hby dp23_2_63) rfl (XT.ll_eq_f (show ¬ (y0 = (0 : Int64)) from z_y0)) ?_
      refine XS.aloadN X944.here hx rfl (hb hby dp23_2_66) rfl rfl ?_
      show Sg p e below (T944.setTop (mkF m 67 #[sR a1, sR fa, sI 0, sR f0, sR g0, sI 0] [(.ref a1)])) _
      exact st955 _ k)
    obtain ⟨T957, X957, e957, st957⟩ := getF X955 hx hZ hown (host := "") (Or.inl (own_hw hw 45 rfl)) Via.refl e955 f946 (g := (mkF m 71 #[sR a1, sR fa, sI 0, sR f0, sR g0, sI 0] [(.ref a1), (.ref b914)])) rfl rfl (hb hby dp23_2_71)
    have P958 : Rg p e below (T957.setTop (mkF m 74 #[sR a1, sR fa, sI 0, sR f0, sR g0, sI 0] [(.int (0 : Int32)), (.ref b914)])) B0 := fun t k => P956 t (by
      refine XS.aloadN X955.here hx rfl (hb hby dp23_2_70) rfl rfl ?_
      show Sg p e below (T955.setTop (mkF m 71 #[sR a1, sR fa, sI 0, sR f0, sR g0, sI 0] [(.ref a1), (.ref b914)])) _
      exact st957 _ k)
    obtain ⟨cl959, Ar959, -, S959, N959, H959, -⟩ := id f950
    have hin959 : ¬ ((0 : Int32) < 0 ∨ cl959.slots.size ≤ ((0 : Int32)).toNatClampNeg) := inb_of S959 ⟨by decide, by decide⟩
    have f960 := ((((v918.other W921 (Ne.symm (Nat.ne_of_lt (Nat.lt_of_lt_of_le Fc.lt (Nat.le_of_eq g914.symm))))).ext E929).other W936 (Ne.symm (Nat.ne_of_lt (Nat.lt_of_lt_of_le Fc.lt (Nat.le_of_eq g914.symm))))).other W944 (Ne.symm (Nat.ne_of_lt (Nat.lt_of_lt_of_le Fc.lt (Nat.le_of_eq g914.symm)))))
    obtain ⟨cl961, Ar961, q961, S961, N961, H961, G961⟩ := id f960
    obtain ⟨T961, h961, X961, e961, W961, st961⟩ := stI X957 hx hZ e957 Ar961 (j := (0 : Int32)) (inb_of S961 ⟨by decide, by decide⟩) (g := (mkF m 78 #[sR a1, sR fa, sI 0, sR f0, sR g0, sI 0] [(.int x0), (.int (0 : Int32)), (.ref b914)])) rfl rfl (hb hby dp23_2_78)
    have v962 : Arv Z h961 b914 k914 .int (3 : Int32) [(.int x0), (.int (0 : Int32)), (.int (0 : Int32))] (.int (0 : Int32)) := Arv.set Ar961 q961 S961 N961 H961 G961 rfl W961 0 rfl (Nat.le_of_ble_eq_true rfl)
    have P963 : Rg p e below (T961.setTop (mkF m 79 #[sR a1, sR fa, sI 0, sR f0, sR g0, sI 0] [])) B0 := fun t k => P958 t (by
      refine XS.aloadN X957.here hx rfl (hb hby dp23_2_74) rfl rfl ?_
      refine XS.iload X957.here hx rfl (hb hby dp23_2_75) rfl ?_
      show Sg p e below (T957.setTop (mkF m 77 #[sR a1, sR fa, sI 0, sR f0, sR g0, sI 0] [(.int (0 : Int32)), (.ref f0), (.int (0 : Int32)), (.ref b914)])) _
      refine X957.iaload hx (j := (0 : Int32)) (v := (.int x0)) (by rw [e957]; exact Ar959.1) (State.isArrayOf_alike hZ.alike Ar959.2.1) Ar959.2.2 hin959 (H959.at hin959 rfl) (g := (mkF m 77 #[sR a1, sR fa, sI 0, sR f0, sR g0, sI 0] [(.int (0 : Int32)), (.ref f0), (.int (0 : Int32)), (.ref b914)])) rfl rfl (hb hby dp23_2_77) _ ?_
      show Sg p e below (T957.setTop (mkF m 78 #[sR a1, sR fa, sI 0, sR f0, sR g0, sI 0] [(.int x0), (.int (0 : Int32)), (.ref b914)])) _
      exact st961 _ k)
    have N964 := Fr.snoc X961 N947 g_b914
    have Z965 : n0 ≤ h961.size := Nat.le_trans Z948 (Keep.of_wr W961).1
    have K966 : Keep h0 h961 [a1] := K949.wr W961 (Or.inr sz_b914)
    have f967 := ((f938.other W944 (Or.inr (slot_ne (Or.inl (own_hw hw 37 rfl)) (Or.inl (own_hw hw 46 rfl)) (by decide) (t := (.array .long)) (t' := .int) (by decide) (by decide)))).other W961 (Or.inl (Nat.ne_of_lt (Nat.lt_of_lt_of_le Fc.lt (Nat.le_of_eq g914.symm)))))
    obtain ⟨T968, X968, e968, st968⟩ := getF X961 hx hZ hown (host := "") (Or.inl (own_hw hw 36 rfl)) Via.refl e961 f967 (g := (mkF m 80 #[sR a1, sR fa, sI 0, sR f0, sR g0, sI 0] [(.ref a1)])) rfl rfl (hb hby dp23_2_80)
    have P969 : Rg p e below (T968.setTop (mkF m 83 #[sR a1, sR fa, sI 0, sR f0, sR g0, sI 0] [(.ref b929)])) B0 := fun t k => P963 t (by
      refine XS.aloadN X961.here hx rfl (hb hby dp23_2_79) rfl rfl ?_
      show Sg p e below (T961.setTop (mkF m 80 #[sR a1, sR fa, sI 0, sR f0, sR g0, sI 0] [(.ref a1)])) _
      exact st968 _ k)
    have f970 := (f946.other W961 (Or.inl (Nat.ne_of_lt (Nat.lt_of_lt_of_le Fc.lt (Nat.le_of_eq g914.symm)))))
    obtain ⟨T971, X971, e971, st971⟩ := getF X968 hx hZ hown (host := "") (Or.inl (own_hw hw 45 rfl)) Via.refl e968 f970 (g := (mkF m 85 #[sR a1, sR fa, sI 0, sR f0, sR g0, sI 0] [(.ref a1), (.ref a1), (.ref b929)])) rfl rfl (hb hby dp23_2_85)
    have P972 : Rg p e below (T971.setTop (mkF m 88 #[sR a1, sR fa, sI 0, sR f0, sR g0, sI 0] [(.int (0 : Int32)), (.ref a1), (.ref b929)])) B0 := fun t k => P969 t (by
      refine XS.aloadN X968.here hx rfl (hb hby dp23_2_83) rfl rfl ?_
      refine XS.dup X968.here hx rfl (hb hby dp23_2_84) rfl rfl ?_
      show Sg p e below (T968.setTop (mkF m 85 #[sR a1, sR fa, sI 0, sR f0, sR g0, sI 0] [(.ref a1), (.ref a1), (.ref b929)])) _
      exact st971 _ k)
    have f973 := ((f943.wr W944).wr W961)
    obtain ⟨T974, h974, X974, e974, W974, st974⟩ := putF X971 hx hZ hown (host := "") (Or.inl (own_hw hw 45 rfl)) Via.refl e971 f970 f973 (Or.inl (own_hw hw 46 rfl)) (own_hw hw 28 rfl) (ty := .int) (by decide) rfl rfl (g := (mkF m 91 #[sR a1, sR fa, sI 0, sR f0, sR g0, sI 0] [(.int (1 : Int32)), (.ref a1), (.int (0 : Int32)), (.ref b929)])) rfl rfl (hb hby dp23_2_91)
    have P975 : Rg p e below (T974.setTop (mkF m 94 #[sR a1, sR fa, sI 0, sR f0, sR g0, sI 0] [(.int (0 : Int32)), (.ref b929)])) B0 := fun t k => P972 t (by
      refine XT.dupX1 X971.here hx rfl (hb hby dp23_2_88) rfl rfl rfl ?_
      refine XS.iconst X971.here hx rfl (hb hby dp23_2_89) ?_
      refine XS.iadd X971.here hx rfl (hb hby dp23_2_90) rfl ?_
      show Sg p e below (T971.setTop (mkF m 91 #[sR a1, sR fa, sI 0, sR f0, sR g0, sI 0] [(.int (1 : Int32)), (.ref a1), (.int (0 : Int32)), (.ref b929)])) _
      exact st974 _ k)
    have f976 := f970.same W974
    have N977 := Fr.snoc X974 N964 g_a1
    have Z978 : n0 ≤ h974.size := Nat.le_trans Z965 (Keep.of_wr W974).1
    have K979 : Keep h0 h974 [a1] := K966.wr W974 (Or.inl (List.mem_of_getElem? (i := 0) rfl))
    have f980 := ((f952.other W961 (Nat.ne_of_lt (Nat.lt_of_lt_of_le Ag.lt (Nat.le_of_eq g914.symm)))).other W974 (Ne.symm (Exa.neArv E1 Ag (own_hw hw 28 rfl))))
    obtain ⟨cl981, Ar981, -, S981, N981, H981, -⟩ := id f980
    have hin981 : ¬ ((0 : Int32) < 0 ∨ cl981.slots.size ≤ ((0 : Int32)).toNatClampNeg) := inb_of S981 ⟨by decide, by decide⟩
    have f982 := ((((v933.other W936 (Ne.symm (Nat.ne_of_lt (Nat.lt_of_lt_of_le f923.lt (Nat.le_of_eq g929.symm))))).other W944 (Ne.symm (Nat.ne_of_lt (Nat.lt_of_lt_of_le f923.lt (Nat.le_of_eq g929.symm))))).other W961 (Ne.symm (Nat.ne_of_lt (Nat.lt_of_lt_of_le (B914.wr W921).lt (Nat.le_of_eq g929.symm))))).other W974 (Ne.symm (Nat.ne_of_lt (Nat.lt_of_lt_of_le f923.lt (Nat.le_of_eq g929.symm)))))
    obtain ⟨cl983, Ar983, q983, S983, N983, H983, G983⟩ := id f982
    obtain ⟨T983, h983, X983, e983, W983, st983⟩ := stJ X974 hx hZ e974 Ar983 (j := (0 : Int32)) (inb_of S983 ⟨by decide, by decide⟩) (g := (mkF m 99 #[sR a1, sR fa, sI 0, sR f0, sR g0, sI 0] [(.long y0), (.int (0 : Int32)), (.ref b929)])) rfl rfl (hb hby dp23_2_99)
    have v984 : Arv Z h983 b929 k929 .long (3 : Int32) [(.long y0), (.long (0 : Int64)), (.long (0 : Int64))] (.long (0 : Int64)) := Arv.set Ar983 q983 S983 N983 H983 G983 rfl W983 0 rfl (Nat.le_of_ble_eq_true rfl)
    have P985 : Rg p e below (T983.setTop (mkF m 100 #[sR a1, sR fa, sI 0, sR f0, sR g0, sI 0] [])) B0 := fun t k => P975 t (by
      refine XS.aload X974.here hx rfl (hb hby dp23_2_94) rfl rfl ?_
      refine XS.iload X974.here hx rfl (hb hby dp23_2_96) rfl ?_
      show Sg p e below (T974.setTop (mkF m 98 #[sR a1, sR fa, sI 0, sR f0, sR g0, sI 0] [(.int (0 : Int32)), (.ref g0), (.int (0 : Int32)), (.ref b929)])) _
      refine X974.laload hx (j := (0 : Int32)) (v := (.long y0)) (by rw [e974]; exact Ar981.1) (State.isArrayOf_alike hZ.alike Ar981.2.1) Ar981.2.2 hin981 (H981.at hin981 rfl) (g := (mkF m 98 #[sR a1, sR fa, sI 0, sR f0, sR g0, sI 0] [(.int (0 : Int32)), (.ref g0), (.int (0 : Int32)), (.ref b929)])) rfl rfl (hb hby dp23_2_98) _ ?_
      show Sg p e below (T974.setTop (mkF m 99 #[sR a1, sR fa, sI 0, sR f0, sR g0, sI 0] [(.long y0), (.int (0 : Int32)), (.ref b929)])) _
      exact st983 _ k)
    have N986 := Fr.snoc X983 N977 g_b929
    have Z987 : n0 ≤ h983.size := Nat.le_trans Z978 (Keep.of_wr W983).1
    have K988 : Keep h0 h983 [a1] := K979.wr W983 (Or.inr sz_b929)
    have f989 := (((f950.other W961 (Nat.ne_of_lt (Nat.lt_of_lt_of_le Af.lt (Nat.le_of_eq g914.symm)))).other W974 (Ne.symm (Exa.neArv E1 Af (own_hw hw 28 rfl)))).other W983 (Nat.ne_of_lt (Nat.lt_of_lt_of_le f927.lt (Nat.le_of_eq g929.symm))))
    obtain ⟨cl990, Ar990, -, S990, N990, -, -⟩ := id f989
    have f991 := (f980.other W983 (Nat.ne_of_lt (Nat.lt_of_lt_of_le ((Ag.ext E914).other W921 (Ne.symm (Exa.neArv E1 Ag (own_hw hw 28 rfl)))).lt (Nat.le_of_eq g929.symm))))
    obtain ⟨cl992, Ar992, -, S992, N992, H992, -⟩ := id f991
    have hin992 : ¬ ((1 : Int32) < 0 ∨ cl992.slots.size ≤ ((1 : Int32)).toNatClampNeg) := inb_of S992 ⟨by decide, by decide⟩
    have f993 := (((f954.other W961 (Or.inl (Nat.ne_of_lt (Nat.lt_of_lt_of_le Fc.lt (Nat.le_of_eq g914.symm))))).other W974 (Or.inr (slot_ne (Or.inl (own_hw hw 35 rfl)) (Or.inl (own_hw hw 46 rfl)) (by decide) (t := (.array .int)) (t' := .int) (by decide) (by decide)))).other W983 (Or.inl (Nat.ne_of_lt (Nat.lt_of_lt_of_le f923.lt (Nat.le_of_eq g929.symm)))))
    obtain ⟨T994, X994, e994, st994⟩ := getF X983 hx hZ hown (host := "") (Or.inl (own_hw hw 34 rfl)) Via.refl e983 f993 (g := (mkF m 67 #[sR a1, sR fa, sI 0, sR f0, sR g0, sI 1] [(.ref a1)])) rfl rfl (hb hby dp23_2_67)
    have P995 : Rg p e below (T994.setTop (mkF m 70 #[sR a1, sR fa, sI 0, sR f0, sR g0, sI 1] [(.ref b914)])) B0 := fun t k => P985 t (by
      refine XS.iinc X983.here hx rfl (hb hby dp23_2_100) rfl (l' := #[sR a1, sR fa, sI 0, sR f0, sR g0, sI 1]) rfl ?_
      refine XS.goto X983.here hx rfl (pc0 := 103) (pc' := 49) rfl (hb hby dp23_2_103) (by decide) (by decide) ?_
      refine XS.iload X983.here hx rfl (hb hby dp23_2_49) rfl ?_
      refine XS.aloadN X983.here hx rfl (hb hby dp23_2_51) rfl rfl ?_
      show Sg p e below (T983.setTop (mkF m 52 #[sR a1, sR fa, sI 0, sR f0, sR g0, sI 1] [(.ref f0), (.int (1 : Int32))])) _
      refine X983.arraylength hx (by rw [e983]; exact Ar990.1) (State.isArrayOf_alike hZ.alike Ar990.2.1) (g := (mkF m 52 #[sR a1, sR fa, sI 0, sR f0, sR g0, sI 1] [(.ref f0), (.int (1 : Int32))])) rfl rfl (hb hby dp23_2_52) _ ?_
      rw [len_of S990 N990]
      show Sg p e below (T983.setTop (mkF m 53 #[sR a1, sR fa, sI 0, sR f0, sR g0, sI 1] [(.int (3 : Int32)), (.int (1 : Int32))])) _
      refine XS.icmpNo X983.here hx rfl (hb hby dp23_2_53) rfl (tlt (show (1 : Int32) < (3 : Int32) from (by decide))).2.1 ?_
      refine XS.aload X983.here hx rfl (hb hby dp23_2_56) rfl rfl ?_
      refine XS.iload X983.here hx rfl (hb hby dp23_2_58) rfl ?_
      show Sg p e below (T983.setTop (mkF m 60 #[sR a1, sR fa, sI 0, sR f0, sR g0, sI 1] [(.int (1 : Int32)), (.ref g0)])) _
      refine X983.laload hx (j := (1 : Int32)) (v := (.long y1)) (by rw [e983]; exact Ar992.1) (State.isArrayOf_alike hZ.alike Ar992.2.1) Ar992.2.2 hin992 (H992.at hin992 rfl) (g := (mkF m 60 #[sR a1, sR fa, sI 0, sR f0, sR g0, sI 1] [(.int (1 : Int32)), (.ref g0)])) rfl rfl (hb hby dp23_2_60) _ ?_
      show Sg p e below (T983.setTop (mkF m 61 #[sR a1, sR fa, sI 0, sR f0, sR g0, sI 1] [(.long y1)])) _
      refine XS.lconst X983.here hx rfl (hb hby dp23_2_61) ?_
      refine XS.lcmp X983.here hx rfl (hb hby dp23_2_62) rfl ?_
      refine XS.ifNo X983.here hx rfl (hb hby dp23_2_63) rfl (XT.ll_eq_f (show ¬ (y1 = (0 : Int64)) from z_y1)) ?_
      refine XS.aloadN X983.here hx rfl (hb hby dp23_2_66) rfl rfl ?_
      show Sg p e below (T983.setTop (mkF m 67 #[sR a1, sR fa, sI 0, sR f0, sR g0, sI 1] [(.ref a1)])) _
      exact st994 _ k)
    have f996 := (f976.other W983 (Or.inl (Nat.ne_of_lt (Nat.lt_of_lt_of_le f923.lt (Nat.le_of_eq g929.symm)))))
    obtain ⟨T997, X997, e997, st997⟩ := getF X994 hx hZ hown (host := "") (Or.inl (own_hw hw 45 rfl)) Via.refl e994 f996 (g := (mkF m 71 #[sR a1, sR fa, sI 0, sR f0, sR g0, sI 1] [(.ref a1), (.ref b914)])) rfl rfl (hb hby dp23_2_71)
    have P998 : Rg p e below (T997.setTop (mkF m 74 #[sR a1, sR fa, sI 0, sR f0, sR g0, sI 1] [(.int (1 : Int32)), (.ref b914)])) B0 := fun t k => P995 t (by
      refine XS.aloadN X994.here hx rfl (hb hby dp23_2_70) rfl rfl ?_
      show Sg p e below (T994.setTop (mkF m 71 #[sR a1, sR fa, sI 0, sR f0, sR g0, sI 1] [(.ref a1), (.ref b914)])) _
      exact st997 _ k)
    obtain ⟨cl999, Ar999, -, S999, N999, H999, -⟩ := id f989
    have hin999 : ¬ ((1 : Int32) < 0 ∨ cl999.slots.size ≤ ((1 : Int32)).toNatClampNeg) := inb_of S999 ⟨by decide, by decide⟩
    have f1000 := ((v962.other W974 (Ne.symm (Nat.ne_of_lt (Nat.lt_of_lt_of_le Fc.lt (Nat.le_of_eq g914.symm))))).other W983 (Nat.ne_of_lt (Nat.lt_of_lt_of_le (B914.wr W921).lt (Nat.le_of_eq g929.symm))))
    obtain ⟨cl1001, Ar1001, q1001, S1001, N1001, H1001, G1001⟩ := id f1000
    obtain ⟨T1001, h1001, X1001, e1001, W1001, st1001⟩ := stI X997 hx hZ e997 Ar1001 (j := (1 : Int32)) (inb_of S1001 ⟨by decide, by decide⟩) (g := (mkF m 78 #[sR a1, sR fa, sI 0, sR f0, sR g0, sI 1] [(.int x1), (.int (1 : Int32)), (.ref b914)])) rfl rfl (hb hby dp23_2_78)
    have v1002 : Arv Z h1001 b914 k914 .int (3 : Int32) [(.int x0), (.int x1), (.int (0 : Int32))] (.int (0 : Int32)) := Arv.set Ar1001 q1001 S1001 N1001 H1001 G1001 rfl W1001 1 rfl (Nat.le_of_ble_eq_true rfl)
    have P1003 : Rg p e below (T1001.setTop (mkF m 79 #[sR a1, sR fa, sI 0, sR f0, sR g0, sI 1] [])) B0 := fun t k => P998 t (by
      refine XS.aloadN X997.here hx rfl (hb hby dp23_2_74) rfl rfl ?_
      refine XS.iload X997.here hx rfl (hb hby dp23_2_75) rfl ?_
      show Sg p e below (T997.setTop (mkF m 77 #[sR a1, sR fa, sI 0, sR f0, sR g0, sI 1] [(.int (1 : Int32)), (.ref f0), (.int (1 : Int32)), (.ref b914)])) _
      refine X997.iaload hx (j := (1 : Int32)) (v := (.int x1)) (by rw [e997]; exact Ar999.1) (State.isArrayOf_alike hZ.alike Ar999.2.1) Ar999.2.2 hin999 (H999.at hin999 rfl) (g := (mkF m 77 #[sR a1, sR fa, sI 0, sR f0, sR g0, sI 1] [(.int (1 : Int32)), (.ref f0), (.int (1 : Int32)), (.ref b914)])) rfl rfl (hb hby dp23_2_77) _ ?_
      show Sg p e below (T997.setTop (mkF m 78 #[sR a1, sR fa, sI 0, sR f0, sR g0, sI 1] [(.int x1), (.int (1 : Int32)), (.ref b914)])) _
      exact st1001 _ k)
    have N1004 := Fr.snoc X1001 N986 g_b914
    have Z1005 : n0 ≤ h1001.size := Nat.le_trans Z987 (Keep.of_wr W1001).1
    have K1006 : Keep h0 h1001 [a1] := K988.wr W1001 (Or.inr sz_b914)
    have f1007 := (((f967.other W974 (Or.inr (slot_ne (Or.inl (own_hw hw 37 rfl)) (Or.inl (own_hw hw 46 rfl)) (by decide) (t := (.array .long)) (t' := .int) (by decide) (by decide)))).other W983 (Or.inl (Nat.ne_of_lt (Nat.lt_of_lt_of_le f923.lt (Nat.le_of_eq g929.symm))))).other W1001 (Or.inl (Nat.ne_of_lt (Nat.lt_of_lt_of_le Fc.lt (Nat.le_of_eq g914.symm)))))
    obtain ⟨T1008, X1008, e1008, st1008⟩ := getF X1001 hx hZ hown (host := "") (Or.inl (own_hw hw 36 rfl)) Via.refl e1001 f1007 (g := (mkF m 80 #[sR a1, sR fa, sI 0, sR f0, sR g0, sI 1] [(.ref a1)])) rfl rfl (hb hby dp23_2_80)
    have P1009 : Rg p e below (T1008.setTop (mkF m 83 #[sR a1, sR fa, sI 0, sR f0, sR g0, sI 1] [(.ref b929)])) B0 := fun t k => P1003 t (by
      refine XS.aloadN X1001.here hx rfl (hb hby dp23_2_79) rfl rfl ?_
      show Sg p e below (T1001.setTop (mkF m 80 #[sR a1, sR fa, sI 0, sR f0, sR g0, sI 1] [(.ref a1)])) _
      exact st1008 _ k)
    have f1010 := (f996.other W1001 (Or.inl (Nat.ne_of_lt (Nat.lt_of_lt_of_le Fc.lt (Nat.le_of_eq g914.symm)))))
    obtain ⟨T1011, X1011, e1011, st1011⟩ := getF X1008 hx hZ hown (host := "") (Or.inl (own_hw hw 45 rfl)) Via.refl e1008 f1010 (g := (mkF m 85 #[sR a1, sR fa, sI 0, sR f0, sR g0, sI 1] [(.ref a1), (.ref a1), (.ref b929)])) rfl rfl (hb hby dp23_2_85)
    have P1012 : Rg p e below (T1011.setTop (mkF m 88 #[sR a1, sR fa, sI 0, sR f0, sR g0, sI 1] [(.int (1 : Int32)), (.ref a1), (.ref b929)])) B0 := fun t k => P1009 t (by
      refine XS.aloadN X1008.here hx rfl (hb hby dp23_2_83) rfl rfl ?_
      refine XS.dup X1008.here hx rfl (hb hby dp23_2_84) rfl rfl ?_
      show Sg p e below (T1008.setTop (mkF m 85 #[sR a1, sR fa, sI 0, sR f0, sR g0, sI 1] [(.ref a1), (.ref a1), (.ref b929)])) _
      exact st1011 _ k)
    have f1013 := (((f973.wr W974).wr W983).wr W1001)
    obtain ⟨T1014, h1014, X1014, e1014, W1014, st1014⟩ := putF X1011 hx hZ hown (host := "") (Or.inl (own_hw hw 45 rfl)) Via.refl e1011 f1010 f1013 (Or.inl (own_hw hw 46 rfl)) (own_hw hw 28 rfl) (ty := .int) (by decide) rfl rfl (g := (mkF m 91 #[sR a1, sR fa, sI 0, sR f0, sR g0, sI 1] [(.int (2 : Int32)), (.ref a1), (.int (1 : Int32)), (.ref b929)])) rfl rfl (hb hby dp23_2_91)
    have P1015 : Rg p e below (T1014.setTop (mkF m 94 #[sR a1, sR fa, sI 0, sR f0, sR g0, sI 1] [(.int (1 : Int32)), (.ref b929)])) B0 := fun t k => P1012 t (by
      refine XT.dupX1 X1011.here hx rfl (hb hby dp23_2_88) rfl rfl rfl ?_
      refine XS.iconst X1011.here hx rfl (hb hby dp23_2_89) ?_
      refine XS.iadd X1011.here hx rfl (hb hby dp23_2_90) rfl ?_
      show Sg p e below (T1011.setTop (mkF m 91 #[sR a1, sR fa, sI 0, sR f0, sR g0, sI 1] [(.int (2 : Int32)), (.ref a1), (.int (1 : Int32)), (.ref b929)])) _
      exact st1014 _ k)
    have f1016 := f1010.same W1014
    have N1017 := Fr.snoc X1014 N1004 g_a1
    have Z1018 : n0 ≤ h1014.size := Nat.le_trans Z1005 (Keep.of_wr W1014).1
    have K1019 : Keep h0 h1014 [a1] := K1006.wr W1014 (Or.inl (List.mem_of_getElem? (i := 0) rfl))
    have f1020 := ((f991.other W1001 (Nat.ne_of_lt (Nat.lt_of_lt_of_le Ag.lt (Nat.le_of_eq g914.symm)))).other W1014 (Ne.symm (Exa.neArv E1 Ag (own_hw hw 28 rfl))))
    obtain ⟨cl1021, Ar1021, -, S1021, N1021, H1021, -⟩ := id f1020
    have hin1021 : ¬ ((1 : Int32) < 0 ∨ cl1021.slots.size ≤ ((1 : Int32)).toNatClampNeg) := inb_of S1021 ⟨by decide, by decide⟩
    have f1022 := ((v984.other W1001 (Ne.symm (Nat.ne_of_lt (Nat.lt_of_lt_of_le (B914.wr W921).lt (Nat.le_of_eq g929.symm))))).other W1014 (Ne.symm (Nat.ne_of_lt (Nat.lt_of_lt_of_le f923.lt (Nat.le_of_eq g929.symm)))))
    obtain ⟨cl1023, Ar1023, q1023, S1023, N1023, H1023, G1023⟩ := id f1022
    obtain ⟨T1023, h1023, X1023, e1023, W1023, st1023⟩ := stJ X1014 hx hZ e1014 Ar1023 (j := (1 : Int32)) (inb_of S1023 ⟨by decide, by decide⟩) (g := (mkF m 99 #[sR a1, sR fa, sI 0, sR f0, sR g0, sI 1] [(.long y1), (.int (1 : Int32)), (.ref b929)])) rfl rfl (hb hby dp23_2_99)
    have v1024 : Arv Z h1023 b929 k929 .long (3 : Int32) [(.long y0), (.long y1), (.long (0 : Int64))] (.long (0 : Int64)) := Arv.set Ar1023 q1023 S1023 N1023 H1023 G1023 rfl W1023 1 rfl (Nat.le_of_ble_eq_true rfl)
    have P1025 : Rg p e below (T1023.setTop (mkF m 100 #[sR a1, sR fa, sI 0, sR f0, sR g0, sI 1] [])) B0 := fun t k => P1015 t (by
      refine XS.aload X1014.here hx rfl (hb hby dp23_2_94) rfl rfl ?_
      refine XS.iload X1014.here hx rfl (hb hby dp23_2_96) rfl ?_
      show Sg p e below (T1014.setTop (mkF m 98 #[sR a1, sR fa, sI 0, sR f0, sR g0, sI 1] [(.int (1 : Int32)), (.ref g0), (.int (1 : Int32)), (.ref b929)])) _
      refine X1014.laload hx (j := (1 : Int32)) (v := (.long y1)) (by rw [e1014]; exact Ar1021.1) (State.isArrayOf_alike hZ.alike Ar1021.2.1) Ar1021.2.2 hin1021 (H1021.at hin1021 rfl) (g := (mkF m 98 #[sR a1, sR fa, sI 0, sR f0, sR g0, sI 1] [(.int (1 : Int32)), (.ref g0), (.int (1 : Int32)), (.ref b929)])) rfl rfl (hb hby dp23_2_98) _ ?_
      show Sg p e below (T1014.setTop (mkF m 99 #[sR a1, sR fa, sI 0, sR f0, sR g0, sI 1] [(.long y1), (.int (1 : Int32)), (.ref b929)])) _
      exact st1023 _ k)
    have N1026 := Fr.snoc X1023 N1017 g_b929
    have Z1027 : n0 ≤ h1023.size := Nat.le_trans Z1018 (Keep.of_wr W1023).1
    have K1028 : Keep h0 h1023 [a1] := K1019.wr W1023 (Or.inr sz_b929)
    have f1029 := (((f989.other W1001 (Nat.ne_of_lt (Nat.lt_of_lt_of_le Af.lt (Nat.le_of_eq g914.symm)))).other W1014 (Ne.symm (Exa.neArv E1 Af (own_hw hw 28 rfl)))).other W1023 (Nat.ne_of_lt (Nat.lt_of_lt_of_le f927.lt (Nat.le_of_eq g929.symm))))
    obtain ⟨cl1030, Ar1030, -, S1030, N1030, -, -⟩ := id f1029
    have f1031 := (f1020.other W1023 (Nat.ne_of_lt (Nat.lt_of_lt_of_le ((Ag.ext E914).other W921 (Ne.symm (Exa.neArv E1 Ag (own_hw hw 28 rfl)))).lt (Nat.le_of_eq g929.symm))))
    obtain ⟨cl1032, Ar1032, -, S1032, N1032, H1032, -⟩ := id f1031
    have hin1032 : ¬ ((2 : Int32) < 0 ∨ cl1032.slots.size ≤ ((2 : Int32)).toNatClampNeg) := inb_of S1032 ⟨by decide, by decide⟩
    have f1033 := (((f993.other W1001 (Or.inl (Nat.ne_of_lt (Nat.lt_of_lt_of_le Fc.lt (Nat.le_of_eq g914.symm))))).other W1014 (Or.inr (slot_ne (Or.inl (own_hw hw 35 rfl)) (Or.inl (own_hw hw 46 rfl)) (by decide) (t := (.array .int)) (t' := .int) (by decide) (by decide)))).other W1023 (Or.inl (Nat.ne_of_lt (Nat.lt_of_lt_of_le f923.lt (Nat.le_of_eq g929.symm)))))
    obtain ⟨T1034, X1034, e1034, st1034⟩ := getF X1023 hx hZ hown (host := "") (Or.inl (own_hw hw 34 rfl)) Via.refl e1023 f1033 (g := (mkF m 67 #[sR a1, sR fa, sI 0, sR f0, sR g0, sI 2] [(.ref a1)])) rfl rfl (hb hby dp23_2_67)
    have P1035 : Rg p e below (T1034.setTop (mkF m 70 #[sR a1, sR fa, sI 0, sR f0, sR g0, sI 2] [(.ref b914)])) B0 := fun t k => P1025 t (by
      refine XS.iinc X1023.here hx rfl (hb hby dp23_2_100) rfl (l' := #[sR a1, sR fa, sI 0, sR f0, sR g0, sI 2]) rfl ?_
      refine XS.goto X1023.here hx rfl (pc0 := 103) (pc' := 49) rfl (hb hby dp23_2_103) (by decide) (by decide) ?_
      refine XS.iload X1023.here hx rfl (hb hby dp23_2_49) rfl ?_
      refine XS.aloadN X1023.here hx rfl (hb hby dp23_2_51) rfl rfl ?_
      show Sg p e below (T1023.setTop (mkF m 52 #[sR a1, sR fa, sI 0, sR f0, sR g0, sI 2] [(.ref f0), (.int (2 : Int32))])) _
      refine X1023.arraylength hx (by rw [e1023]; exact Ar1030.1) (State.isArrayOf_alike hZ.alike Ar1030.2.1) (g := (mkF m 52 #[sR a1, sR fa, sI 0, sR f0, sR g0, sI 2] [(.ref f0), (.int (2 : Int32))])) rfl rfl (hb hby dp23_2_52) _ ?_
      rw [len_of S1030 N1030]
      show Sg p e below (T1023.setTop (mkF m 53 #[sR a1, sR fa, sI 0, sR f0, sR g0, sI 2] [(.int (3 : Int32)), (.int (2 : Int32))])) _
      refine XS.icmpNo X1023.here hx rfl (hb hby dp23_2_53) rfl (tlt (show (2 : Int32) < (3 : Int32) from (by decide))).2.1 ?_
      refine XS.aload X1023.here hx rfl (hb hby dp23_2_56) rfl rfl ?_
      refine XS.iload X1023.here hx rfl (hb hby dp23_2_58) rfl ?_
      show Sg p e below (T1023.setTop (mkF m 60 #[sR a1, sR fa, sI 0, sR f0, sR g0, sI 2] [(.int (2 : Int32)), (.ref g0)])) _
      refine X1023.laload hx (j := (2 : Int32)) (v := (.long y2)) (by rw [e1023]; exact Ar1032.1) (State.isArrayOf_alike hZ.alike Ar1032.2.1) Ar1032.2.2 hin1032 (H1032.at hin1032 rfl) (g := (mkF m 60 #[sR a1, sR fa, sI 0, sR f0, sR g0, sI 2] [(.int (2 : Int32)), (.ref g0)])) rfl rfl (hb hby dp23_2_60) _ ?_
      show Sg p e below (T1023.setTop (mkF m 61 #[sR a1, sR fa, sI 0, sR f0, sR g0, sI 2] [(.long y2)])) _
      refine XS.lconst X1023.here hx rfl (hb hby dp23_2_61) ?_
      refine XS.lcmp X1023.here hx rfl (hb hby dp23_2_62) rfl ?_
      refine XS.ifNo X1023.here hx rfl (hb hby dp23_2_63) rfl (XT.ll_eq_f (show ¬ (y2 = (0 : Int64)) from z_y2)) ?_
      refine XS.aloadN X1023.here hx rfl (hb hby dp23_2_66) rfl rfl ?_
      show Sg p e below (T1023.setTop (mkF m 67 #[sR a1, sR fa, sI 0, sR f0, sR g0, sI 2] [(.ref a1)])) _
      exact st1034 _ k)
    have f1036 := (f1016.other W1023 (Or.inl (Nat.ne_of_lt (Nat.lt_of_lt_of_le f923.lt (Nat.le_of_eq g929.symm)))))
    obtain ⟨T1037, X1037, e1037, st1037⟩ := getF X1034 hx hZ hown (host := "") (Or.inl (own_hw hw 45 rfl)) Via.refl e1034 f1036 (g := (mkF m 71 #[sR a1, sR fa, sI 0, sR f0, sR g0, sI 2] [(.ref a1), (.ref b914)])) rfl rfl (hb hby dp23_2_71)
    have P1038 : Rg p e below (T1037.setTop (mkF m 74 #[sR a1, sR fa, sI 0, sR f0, sR g0, sI 2] [(.int (2 : Int32)), (.ref b914)])) B0 := fun t k => P1035 t (by
      refine XS.aloadN X1034.here hx rfl (hb hby dp23_2_70) rfl rfl ?_
      show Sg p e below (T1034.setTop (mkF m 71 #[sR a1, sR fa, sI 0, sR f0, sR g0, sI 2] [(.ref a1), (.ref b914)])) _
      exact st1037 _ k)
    obtain ⟨cl1039, Ar1039, -, S1039, N1039, H1039, -⟩ := id f1029
    have hin1039 : ¬ ((2 : Int32) < 0 ∨ cl1039.slots.size ≤ ((2 : Int32)).toNatClampNeg) := inb_of S1039 ⟨by decide, by decide⟩
    have f1040 := ((v1002.other W1014 (Ne.symm (Nat.ne_of_lt (Nat.lt_of_lt_of_le Fc.lt (Nat.le_of_eq g914.symm))))).other W1023 (Nat.ne_of_lt (Nat.lt_of_lt_of_le (B914.wr W921).lt (Nat.le_of_eq g929.symm))))
    obtain ⟨cl1041, Ar1041, q1041, S1041, N1041, H1041, G1041⟩ := id f1040
    obtain ⟨T1041, h1041, X1041, e1041, W1041, st1041⟩ := stI X1037 hx hZ e1037 Ar1041 (j := (2 : Int32)) (inb_of S1041 ⟨by decide, by decide⟩) (g := (mkF m 78 #[sR a1, sR fa, sI 0, sR f0, sR g0, sI 2] [(.int x2), (.int (2 : Int32)), (.ref b914)])) rfl rfl (hb hby dp23_2_78)
    have v1042 : Arv Z h1041 b914 k914 .int (3 : Int32) [(.int x0), (.int x1), (.int x2)] (.int (0 : Int32)) := Arv.set Ar1041 q1041 S1041 N1041 H1041 G1041 rfl W1041 2 rfl (Nat.le_of_ble_eq_true rfl)
    have P1043 : Rg p e below (T1041.setTop (mkF m 79 #[sR a1, sR fa, sI 0, sR f0, sR g0, sI 2] [])) B0 := fun t k => P1038 t (by
      refine XS.aloadN X1037.here hx rfl (hb hby dp23_2_74) rfl rfl ?_
      refine XS.iload X1037.here hx rfl (hb hby dp23_2_75) rfl ?_
      show Sg p e below (T1037.setTop (mkF m 77 #[sR a1, sR fa, sI 0, sR f0, sR g0, sI 2] [(.int (2 : Int32)), (.ref f0), (.int (2 : Int32)), (.ref b914)])) _
      refine X1037.iaload hx (j := (2 : Int32)) (v := (.int x2)) (by rw [e1037]; exact Ar1039.1) (State.isArrayOf_alike hZ.alike Ar1039.2.1) Ar1039.2.2 hin1039 (H1039.at hin1039 rfl) (g := (mkF m 77 #[sR a1, sR fa, sI 0, sR f0, sR g0, sI 2] [(.int (2 : Int32)), (.ref f0), (.int (2 : Int32)), (.ref b914)])) rfl rfl (hb hby dp23_2_77) _ ?_
      show Sg p e below (T1037.setTop (mkF m 78 #[sR a1, sR fa, sI 0, sR f0, sR g0, sI 2] [(.int x2), (.int (2 : Int32)), (.ref b914)])) _
      exact st1041 _ k)
    have N1044 := Fr.snoc X1041 N1026 g_b914
    have Z1045 : n0 ≤ h1041.size := Nat.le_trans Z1027 (Keep.of_wr W1041).1
    have K1046 : Keep h0 h1041 [a1] := K1028.wr W1041 (Or.inr sz_b914)
    have f1047 := (((f1007.other W1014 (Or.inr (slot_ne (Or.inl (own_hw hw 37 rfl)) (Or.inl (own_hw hw 46 rfl)) (by decide) (t := (.array .long)) (t' := .int) (by decide) (by decide)))).other W1023 (Or.inl (Nat.ne_of_lt (Nat.lt_of_lt_of_le f923.lt (Nat.le_of_eq g929.symm))))).other W1041 (Or.inl (Nat.ne_of_lt (Nat.lt_of_lt_of_le Fc.lt (Nat.le_of_eq g914.symm)))))
    obtain ⟨T1048, X1048, e1048, st1048⟩ := getF X1041 hx hZ hown (host := "") (Or.inl (own_hw hw 36 rfl)) Via.refl e1041 f1047 (g := (mkF m 80 #[sR a1, sR fa, sI 0, sR f0, sR g0, sI 2] [(.ref a1)])) rfl rfl (hb hby dp23_2_80)
    have P1049 : Rg p e below (T1048.setTop (mkF m 83 #[sR a1, sR fa, sI 0, sR f0, sR g0, sI 2] [(.ref b929)])) B0 := fun t k => P1043 t (by
      refine XS.aloadN X1041.here hx rfl (hb hby dp23_2_79) rfl rfl ?_
      show Sg p e below (T1041.setTop (mkF m 80 #[sR a1, sR fa, sI 0, sR f0, sR g0, sI 2] [(.ref a1)])) _
      exact st1048 _ k)
    have f1050 := (f1036.other W1041 (Or.inl (Nat.ne_of_lt (Nat.lt_of_lt_of_le Fc.lt (Nat.le_of_eq g914.symm)))))
    obtain ⟨T1051, X1051, e1051, st1051⟩ := getF X1048 hx hZ hown (host := "") (Or.inl (own_hw hw 45 rfl)) Via.refl e1048 f1050 (g := (mkF m 85 #[sR a1, sR fa, sI 0, sR f0, sR g0, sI 2] [(.ref a1), (.ref a1), (.ref b929)])) rfl rfl (hb hby dp23_2_85)
    have P1052 : Rg p e below (T1051.setTop (mkF m 88 #[sR a1, sR fa, sI 0, sR f0, sR g0, sI 2] [(.int (2 : Int32)), (.ref a1), (.ref b929)])) B0 := fun t k => P1049 t (by
      refine XS.aloadN X1048.here hx rfl (hb hby dp23_2_83) rfl rfl ?_
      refine XS.dup X1048.here hx rfl (hb hby dp23_2_84) rfl rfl ?_
      show Sg p e below (T1048.setTop (mkF m 85 #[sR a1, sR fa, sI 0, sR f0, sR g0, sI 2] [(.ref a1), (.ref a1), (.ref b929)])) _
      exact st1051 _ k)
    have f1053 := (((f1013.wr W1014).wr W1023).wr W1041)
    obtain ⟨T1054, h1054, X1054, e1054, W1054, st1054⟩ := putF X1051 hx hZ hown (host := "") (Or.inl (own_hw hw 45 rfl)) Via.refl e1051 f1050 f1053 (Or.inl (own_hw hw 46 rfl)) (own_hw hw 28 rfl) (ty := .int) (by decide) rfl rfl (g := (mkF m 91 #[sR a1, sR fa, sI 0, sR f0, sR g0, sI 2] [(.int (3 : Int32)), (.ref a1), (.int (2 : Int32)), (.ref b929)])) rfl rfl (hb hby dp23_2_91)
    have P1055 : Rg p e below (T1054.setTop (mkF m 94 #[sR a1, sR fa, sI 0, sR f0, sR g0, sI 2] [(.int (2 : Int32)), (.ref b929)])) B0 := fun t k => P1052 t (by
      refine XT.dupX1 X1051.here hx rfl (hb hby dp23_2_88) rfl rfl rfl ?_
      refine XS.iconst X1051.here hx rfl (hb hby dp23_2_89) ?_
      refine XS.iadd X1051.here hx rfl (hb hby dp23_2_90) rfl ?_
      show Sg p e below (T1051.setTop (mkF m 91 #[sR a1, sR fa, sI 0, sR f0, sR g0, sI 2] [(.int (3 : Int32)), (.ref a1), (.int (2 : Int32)), (.ref b929)])) _
      exact st1054 _ k)
    have f1056 := f1050.same W1054
    have N1057 := Fr.snoc X1054 N1044 g_a1
    have Z1058 : n0 ≤ h1054.size := Nat.le_trans Z1045 (Keep.of_wr W1054).1
    have K1059 : Keep h0 h1054 [a1] := K1046.wr W1054 (Or.inl (List.mem_of_getElem? (i := 0) rfl))
    have f1060 := ((f1031.other W1041 (Nat.ne_of_lt (Nat.lt_of_lt_of_le Ag.lt (Nat.le_of_eq g914.symm)))).other W1054 (Ne.symm (Exa.neArv E1 Ag (own_hw hw 28 rfl))))
    obtain ⟨cl1061, Ar1061, -, S1061, N1061, H1061, -⟩ := id f1060
    have hin1061 : ¬ ((2 : Int32) < 0 ∨ cl1061.slots.size ≤ ((2 : Int32)).toNatClampNeg) := inb_of S1061 ⟨by decide, by decide⟩
    have f1062 := ((v1024.other W1041 (Ne.symm (Nat.ne_of_lt (Nat.lt_of_lt_of_le (B914.wr W921).lt (Nat.le_of_eq g929.symm))))).other W1054 (Ne.symm (Nat.ne_of_lt (Nat.lt_of_lt_of_le f923.lt (Nat.le_of_eq g929.symm)))))
    obtain ⟨cl1063, Ar1063, q1063, S1063, N1063, H1063, G1063⟩ := id f1062
    obtain ⟨T1063, h1063, X1063, e1063, W1063, st1063⟩ := stJ X1054 hx hZ e1054 Ar1063 (j := (2 : Int32)) (inb_of S1063 ⟨by decide, by decide⟩) (g := (mkF m 99 #[sR a1, sR fa, sI 0, sR f0, sR g0, sI 2] [(.long y2), (.int (2 : Int32)), (.ref b929)])) rfl rfl (hb hby dp23_2_99)
    have v1064 : Arv Z h1063 b929 k929 .long (3 : Int32) [(.long y0), (.long y1), (.long y2)] (.long (0 : Int64)) := Arv.set Ar1063 q1063 S1063 N1063 H1063 G1063 rfl W1063 2 rfl (Nat.le_of_ble_eq_true rfl)
    have P1065 : Rg p e below (T1063.setTop (mkF m 100 #[sR a1, sR fa, sI 0, sR f0, sR g0, sI 2] [])) B0 := fun t k => P1055 t (by
      refine XS.aload X1054.here hx rfl (hb hby dp23_2_94) rfl rfl ?_
      refine XS.iload X1054.here hx rfl (hb hby dp23_2_96) rfl ?_
      show Sg p e below (T1054.setTop (mkF m 98 #[sR a1, sR fa, sI 0, sR f0, sR g0, sI 2] [(.int (2 : Int32)), (.ref g0), (.int (2 : Int32)), (.ref b929)])) _
      refine X1054.laload hx (j := (2 : Int32)) (v := (.long y2)) (by rw [e1054]; exact Ar1061.1) (State.isArrayOf_alike hZ.alike Ar1061.2.1) Ar1061.2.2 hin1061 (H1061.at hin1061 rfl) (g := (mkF m 98 #[sR a1, sR fa, sI 0, sR f0, sR g0, sI 2] [(.int (2 : Int32)), (.ref g0), (.int (2 : Int32)), (.ref b929)])) rfl rfl (hb hby dp23_2_98) _ ?_
      show Sg p e below (T1054.setTop (mkF m 99 #[sR a1, sR fa, sI 0, sR f0, sR g0, sI 2] [(.long y2), (.int (2 : Int32)), (.ref b929)])) _
      exact st1063 _ k)
    have N1066 := Fr.snoc X1063 N1057 g_b929
    have Z1067 : n0 ≤ h1063.size := Nat.le_trans Z1058 (Keep.of_wr W1063).1
    have K1068 : Keep h0 h1063 [a1] := K1059.wr W1063 (Or.inr sz_b929)
    have f1069 := (((f1029.other W1041 (Nat.ne_of_lt (Nat.lt_of_lt_of_le Af.lt (Nat.le_of_eq g914.symm)))).other W1054 (Ne.symm (Exa.neArv E1 Af (own_hw hw 28 rfl)))).other W1063 (Nat.ne_of_lt (Nat.lt_of_lt_of_le f927.lt (Nat.le_of_eq g929.symm))))
    obtain ⟨cl1070, Ar1070, -, S1070, N1070, -, -⟩ := id f1069
    have f1071 := ((f1053.wr W1054).wr W1063)
    have f1072 := (f1056.other W1063 (Or.inl (Nat.ne_of_lt (Nat.lt_of_lt_of_le f923.lt (Nat.le_of_eq g929.symm)))))
    have f1073 := (((f1033.other W1041 (Or.inl (Nat.ne_of_lt (Nat.lt_of_lt_of_le Fc.lt (Nat.le_of_eq g914.symm))))).other W1054 (Or.inr (slot_ne (Or.inl (own_hw hw 35 rfl)) (Or.inl (own_hw hw 46 rfl)) (by decide) (t := (.array .int)) (t' := .int) (by decide) (by decide)))).other W1063 (Or.inl (Nat.ne_of_lt (Nat.lt_of_lt_of_le f923.lt (Nat.le_of_eq g929.symm)))))
    have f1074 := ((f1047.other W1054 (Or.inr (slot_ne (Or.inl (own_hw hw 37 rfl)) (Or.inl (own_hw hw 46 rfl)) (by decide) (t := (.array .long)) (t' := .int) (by decide) (by decide)))).other W1063 (Or.inl (Nat.ne_of_lt (Nat.lt_of_lt_of_le f923.lt (Nat.le_of_eq g929.symm)))))
    have f1075 := ((v1042.other W1054 (Ne.symm (Nat.ne_of_lt (Nat.lt_of_lt_of_le Fc.lt (Nat.le_of_eq g914.symm))))).other W1063 (Nat.ne_of_lt (Nat.lt_of_lt_of_le (B914.wr W921).lt (Nat.le_of_eq g929.symm))))
    have f1076 := (((((((((((((B914.wr W921).ext E929).wr W936).wr W944).wr W961).wr W974).wr W983).wr W1001).wr W1014).wr W1023).wr W1041).wr W1054).wr W1063)
    have f1077 := (((((((((((B929.wr W936).wr W944).wr W961).wr W974).wr W983).wr W1001).wr W1014).wr W1023).wr W1041).wr W1054).wr W1063)
    obtain ⟨fs1078, hr1078, hrun1078, hended1078, hW1078, hsame1078⟩ := X1063.leave (v := none) (fun _ => rfl)
    refine ⟨_, _, pre0 _ (P1065 _ ?_), hrun1078, hended1078, _, _, rfl, ?_, ⟨⟨_, rfl⟩, hW1078, hsame1078.mono (Nat.le_of_ble_eq_true rfl) (Nat.le_of_ble_eq_true rfl)⟩⟩
    · show Sg p e below (T1063.setTop (mkF m 100 #[sR a1, sR fa, sI 0, sR f0, sR g0, sI 2] [])) _
      refine XS.iinc X1063.here hx rfl (hb hby dp23_2_100) rfl (l' := #[sR a1, sR fa, sI 0, sR f0, sR g0, sI 3]) rfl ?_
      refine XS.goto X1063.here hx rfl (pc0 := 103) (pc' := 49) rfl (hb hby dp23_2_103) (by decide) (by decide) ?_
      refine XS.iload X1063.here hx rfl (hb hby dp23_2_49) rfl ?_
      refine XS.aloadN X1063.here hx rfl (hb hby dp23_2_51) rfl rfl ?_
      show Sg p e below (T1063.setTop (mkF m 52 #[sR a1, sR fa, sI 0, sR f0, sR g0, sI 3] [(.ref f0), (.int (3 : Int32))])) _
      refine X1063.arraylength hx (by rw [e1063]; exact Ar1070.1) (State.isArrayOf_alike hZ.alike Ar1070.2.1) (g := (mkF m 52 #[sR a1, sR fa, sI 0, sR f0, sR g0, sI 3] [(.ref f0), (.int (3 : Int32))])) rfl rfl (hb hby dp23_2_52) _ ?_
      rw [len_of S1070 N1070]
      show Sg p e below (T1063.setTop (mkF m 53 #[sR a1, sR fa, sI 0, sR f0, sR g0, sI 3] [(.int (3 : Int32)), (.int (3 : Int32))])) _
      refine XS.icmpYes X1063.here hx rfl (pc0 := 53) (pc' := 106) rfl (hb hby dp23_2_53) rfl (flt (show ¬ ((3 : Int32) < (3 : Int32)) from (by decide))).2.1 (by decide) (by decide) ?_
      show Sg p e below (T1063.setTop (mkF m 106 #[sR a1, sR fa, sI 0, sR f0, sR g0, sI 3] [])) _
      exact X1063.returnOut hx Bd.returns (hb hby dp23_2_106) hr1078
    · show Q_stf Z a1 (3 : Int32) [x0, x1, x2] [y0, y1, y2] h0 n0 _ T1063.heap _
      rw [e1063]
      exact ⟨rfl, N1066, K1068, f1071, f1072, b914, b929, _, _, f1073, f1074, f1075, v1064, f1076, f1077, sz_b914, sz_b929⟩
  · exact absurd hpl (by simp)
theorem dj35_50_0 : decode jdk_35_method_50_code 0 = .ok (.lload_n 0, 1) := by decide +kernel
theorem dj35_50_1 : decode jdk_35_method_50_code 1 = .ok (.lload_n 0, 1) := by decide +kernel
theorem dj35_50_2 : decode jdk_35_method_50_code 2 = .ok (.iconst 1, 1) := by decide +kernel
theorem dj35_50_3 : decode jdk_35_method_50_code 3 = .ok (.lushr, 1) := by decide +kernel
theorem dj35_50_4 : decode jdk_35_method_50_code 4 = .ok (.ldc2_w 314, 3) := by decide +kernel
theorem dj35_50_7 : decode jdk_35_method_50_code 7 = .ok (.land, 1) := by decide +kernel
theorem dj35_50_8 : decode jdk_35_method_50_code 8 = .ok (.lsub, 1) := by decide +kernel
theorem dj35_50_9 : decode jdk_35_method_50_code 9 = .ok (.lstore_n 0, 1) := by decide +kernel
theorem dj35_50_10 : decode jdk_35_method_50_code 10 = .ok (.lload_n 0, 1) := by decide +kernel
theorem dj35_50_11 : decode jdk_35_method_50_code 11 = .ok (.ldc2_w 316, 3) := by decide +kernel
theorem dj35_50_14 : decode jdk_35_method_50_code 14 = .ok (.land, 1) := by decide +kernel
theorem dj35_50_15 : decode jdk_35_method_50_code 15 = .ok (.lload_n 0, 1) := by decide +kernel
theorem dj35_50_16 : decode jdk_35_method_50_code 16 = .ok (.iconst 2, 1) := by decide +kernel
theorem dj35_50_17 : decode jdk_35_method_50_code 17 = .ok (.lushr, 1) := by decide +kernel
theorem dj35_50_18 : decode jdk_35_method_50_code 18 = .ok (.ldc2_w 316, 3) := by decide +kernel
theorem dj35_50_21 : decode jdk_35_method_50_code 21 = .ok (.land, 1) := by decide +kernel
theorem dj35_50_22 : decode jdk_35_method_50_code 22 = .ok (.ladd, 1) := by decide +kernel
theorem dj35_50_23 : decode jdk_35_method_50_code 23 = .ok (.lstore_n 0, 1) := by decide +kernel
theorem dj35_50_24 : decode jdk_35_method_50_code 24 = .ok (.lload_n 0, 1) := by decide +kernel
theorem dj35_50_25 : decode jdk_35_method_50_code 25 = .ok (.lload_n 0, 1) := by decide +kernel
theorem dj35_50_26 : decode jdk_35_method_50_code 26 = .ok (.iconst 4, 1) := by decide +kernel
theorem dj35_50_27 : decode jdk_35_method_50_code 27 = .ok (.lushr, 1) := by decide +kernel
theorem dj35_50_28 : decode jdk_35_method_50_code 28 = .ok (.ladd, 1) := by decide +kernel
theorem dj35_50_29 : decode jdk_35_method_50_code 29 = .ok (.ldc2_w 318, 3) := by decide +kernel
theorem dj35_50_32 : decode jdk_35_method_50_code 32 = .ok (.land, 1) := by decide +kernel
theorem dj35_50_33 : decode jdk_35_method_50_code 33 = .ok (.lstore_n 0, 1) := by decide +kernel
theorem dj35_50_34 : decode jdk_35_method_50_code 34 = .ok (.lload_n 0, 1) := by decide +kernel
theorem dj35_50_35 : decode jdk_35_method_50_code 35 = .ok (.lload_n 0, 1) := by decide +kernel
theorem dj35_50_36 : decode jdk_35_method_50_code 36 = .ok (.bipush 8, 2) := by decide +kernel
theorem dj35_50_38 : decode jdk_35_method_50_code 38 = .ok (.lushr, 1) := by decide +kernel
theorem dj35_50_39 : decode jdk_35_method_50_code 39 = .ok (.ladd, 1) := by decide +kernel
theorem dj35_50_40 : decode jdk_35_method_50_code 40 = .ok (.lstore_n 0, 1) := by decide +kernel
theorem dj35_50_41 : decode jdk_35_method_50_code 41 = .ok (.lload_n 0, 1) := by decide +kernel
theorem dj35_50_42 : decode jdk_35_method_50_code 42 = .ok (.lload_n 0, 1) := by decide +kernel
theorem dj35_50_43 : decode jdk_35_method_50_code 43 = .ok (.bipush 16, 2) := by decide +kernel
theorem dj35_50_45 : decode jdk_35_method_50_code 45 = .ok (.lushr, 1) := by decide +kernel
theorem dj35_50_46 : decode jdk_35_method_50_code 46 = .ok (.ladd, 1) := by decide +kernel
theorem dj35_50_47 : decode jdk_35_method_50_code 47 = .ok (.lstore_n 0, 1) := by decide +kernel
theorem dj35_50_48 : decode jdk_35_method_50_code 48 = .ok (.lload_n 0, 1) := by decide +kernel
theorem dj35_50_49 : decode jdk_35_method_50_code 49 = .ok (.lload_n 0, 1) := by decide +kernel
theorem dj35_50_50 : decode jdk_35_method_50_code 50 = .ok (.bipush 32, 2) := by decide +kernel
theorem dj35_50_52 : decode jdk_35_method_50_code 52 = .ok (.lushr, 1) := by decide +kernel
theorem dj35_50_53 : decode jdk_35_method_50_code 53 = .ok (.ladd, 1) := by decide +kernel
theorem dj35_50_54 : decode jdk_35_method_50_code 54 = .ok (.lstore_n 0, 1) := by decide +kernel
theorem dj35_50_55 : decode jdk_35_method_50_code 55 = .ok (.lload_n 0, 1) := by decide +kernel
theorem dj35_50_56 : decode jdk_35_method_50_code 56 = .ok (.l2i, 1) := by decide +kernel
theorem dj35_50_57 : decode jdk_35_method_50_code 57 = .ok (.bipush 127, 2) := by decide +kernel
theorem dj35_50_59 : decode jdk_35_method_50_code 59 = .ok (.iand, 1) := by decide +kernel
theorem dj35_50_60 : decode jdk_35_method_50_code 60 = .ok (.ireturn, 1) := by decide +kernel
theorem pn_java_lang_Long : plainName "java/lang/Long" = true := by first | (simp [plainName, overriddenIn]; done) | decide +kernel
theorem ef_bct (m : MethodId) (x0 : Int64) : entryFrame m #[(.long x0)] 2 = mkF m 0 #[.val (.long x0), .second] [] := by (first | (simp [entryFrame, mkF, argsToLocals, Value.category]; done) | rfl)
def Q_bct (y : Int64) (h0 : Heap) (n0 : Nat) (v : Option Value) (h : Heap) (L : List Loc) : Prop := ∃ r : Int32, v = some (.int r) ∧ Fr n0 L ∧ h = h0 ∧ r = JP.Long_bitCount_J.val y
set_option maxRecDepth 65536 in
set_option maxHeartbeats 40000000 in
theorem rm_bct (l : Launch) (Z : State) (a0 : Array Value) (hw : ∀ d ∈ tables_1, d.before a0 Z = true) (ws : List Jvm.Cond) (y : Int64) (h0 : Heap) (n0 : Nat) (Z0 : n0 ≤ h0.size)  :
    MetFree l (⟨"java/lang/Long", "bitCount", "(J)I"⟩ : MethodName) (head1 (Jvm.Cond.code (⟨"java/lang/Long", "bitCount", "(J)I"⟩ : MethodName) jdk_35_method_50_code 2 (some .int) :: ws) ({ frames := 0, cells := 0, slots := 0, locals := 0 } : Room)) (fun a U => a = #[(.long y)] ∧ Z.Warmed39 U.vm ∧ U.heap = h0) (fun _ _ _ _ _ => True) (fun _ U o U' => ∃ v L, o = .returned v ∧ Q_bct y h0 n0 v U'.heap L ∧ FrameEnd U o U' L ({ frames := 0, cells := 0, slots := 0, locals := 0 } : Room).cells ({ frames := 0, cells := 0, slots := 0, locals := 0 } : Room).slots) := by
  refine MetFree.of_bodySF (plainFor_of_name pn_java_lang_Long) hisR ?_
  intro p e s m args below meth c s₁ Bd hml0 hP hK
  obtain ⟨rfl, hZ, hh⟩ := hP
  have hx := Bd.exec
  have hby := Bd.bytes
  have hml : c.maxLocals = 2 := hml0
  have hown : s.vm.findClass "java/lang/Long" = some m.cls := findClass_of_methodNamed Bd.named
  have hnm := (name_of_methodNamed Bd.named Bd.method).1
  have X0 : Stand p l e ({ frames := 0, cells := 0, slots := 0, locals := 0 } : Room) s m #[(.long y)] below meth c s₁ [] 0 0 := Stand.of_body Bd
  have e0 : s₁.heap = h0 := by rw [← hh, Bd.state]; rfl
  have N0 := Fr.nil n0
  have pre0 : ∀ t, Sg p e below (s₁.setTop (mkF m 0 #[.val (.long y), .second] [])) t → Steps p.tables e below (s₁.setTop (entryFrame m #[(.long y)] 2)) t := fun t k => castTop (ef_bct m y) k
  have P0 : ∀ t, Sg p e below (s₁.setTop (mkF m 0 #[.val (.long y), .second] [])) t → Sg p e below (s₁.setTop (mkF m 0 #[.val (.long y), .second] [])) t := fun t k => k
  obtain ⟨B0, pre0, P0⟩ : ∃ B : State, (∀ t, Steps p.tables e below B t → Steps p.tables e below (s₁.setTop (entryFrame m #[(.long y)] 2)) t) ∧ Rg p e below (s₁.setTop (mkF m 0 #[.val (.long y), .second] [])) B := ⟨_, pre0, P0⟩
  obtain ⟨z1079, hz1079⟩ : ∃ z : Int64, z = (y - (((y.toUInt64 >>> ((1 : Int32) &&& 0x3f).toInt64.toUInt64).toInt64) &&& (6148914691236517205 : Int64))) := ⟨_, rfl⟩
  have P1080 : Rg p e below (s₁.setTop (mkF m 9 #[.val (.long y), .second] [(.long (y - (((y.toUInt64 >>> ((1 : Int32) &&& 0x3f).toInt64.toUInt64).toInt64) &&& (6148914691236517205 : Int64))))])) B0 := fun t k => P0 t (by
    refine XS.lloadN X0.here hx rfl (hb hby dj35_50_0) rfl ?_
    refine XS.lloadN X0.here hx rfl (hb hby dj35_50_1) rfl ?_
    refine XS.iconst X0.here hx rfl (hb hby dj35_50_2) ?_
    refine XS.lushr X0.here hx rfl (hb hby dj35_50_3) rfl ?_
    show Sg p e below (s₁.setTop (mkF m 4 #[.val (.long y), .second] [(.long ((y.toUInt64 >>> ((1 : Int32) &&& 0x3f).toInt64.toUInt64).toInt64)), (.long y)])) _
    refine X0.ldc2Long hx hown (mvT hZ (own_hw hw 75 rfl)) (g := (mkF m 4 #[.val (.long y), .second] [(.long ((y.toUInt64 >>> ((1 : Int32) &&& 0x3f).toInt64.toUInt64).toInt64)), (.long y)])) rfl (hb hby dj35_50_4) _ ?_
    show Sg p e below (s₁.setTop (mkF m 7 #[.val (.long y), .second] [(.long (6148914691236517205 : Int64)), (.long ((y.toUInt64 >>> ((1 : Int32) &&& 0x3f).toInt64.toUInt64).toInt64)), (.long y)])) _
    refine XS.land X0.here hx rfl (hb hby dj35_50_7) rfl ?_
    refine XS.lsub X0.here hx rfl (hb hby dj35_50_8) rfl ?_
    show Sg p e below (s₁.setTop (mkF m 9 #[.val (.long y), .second] [(.long (y - (((y.toUInt64 >>> ((1 : Int32) &&& 0x3f).toInt64.toUInt64).toInt64) &&& (6148914691236517205 : Int64))))])) _
    exact k)
  have P1081 : Rg p e below (s₁.setTop (mkF m 9 #[.val (.long y), .second] [(.long z1079)])) B0 := fun t k => P1080 t (by rw [hz1079] at k; exact k)
  obtain ⟨z1082, hz1082⟩ : ∃ z : Int64, z = ((z1079 &&& (3689348814741910323 : Int64)) + (((z1079.toUInt64 >>> ((2 : Int32) &&& 0x3f).toInt64.toUInt64).toInt64) &&& (3689348814741910323 : Int64))) := ⟨_, rfl⟩
  have P1083 : Rg p e below (s₁.setTop (mkF m 23 #[.val (.long z1079), .second] [(.long ((z1079 &&& (3689348814741910323 : Int64)) + (((z1079.toUInt64 >>> ((2 : Int32) &&& 0x3f).toInt64.toUInt64).toInt64) &&& (3689348814741910323 : Int64))))])) B0 := fun t k => P1081 t (by
    refine XS.lstoreN X0.here hx rfl (hb hby dj35_50_9) rfl (l' := #[.val (.long z1079), .second]) rfl ?_
    refine XS.lloadN X0.here hx rfl (hb hby dj35_50_10) rfl ?_
    show Sg p e below (s₁.setTop (mkF m 11 #[.val (.long z1079), .second] [(.long z1079)])) _
    refine X0.ldc2Long hx hown (mvT hZ (own_hw hw 76 rfl)) (g := (mkF m 11 #[.val (.long z1079), .second] [(.long z1079)])) rfl (hb hby dj35_50_11) _ ?_
    show Sg p e below (s₁.setTop (mkF m 14 #[.val (.long z1079), .second] [(.long (3689348814741910323 : Int64)), (.long z1079)])) _
    refine XS.land X0.here hx rfl (hb hby dj35_50_14) rfl ?_
    refine XS.lloadN X0.here hx rfl (hb hby dj35_50_15) rfl ?_
    refine XS.iconst X0.here hx rfl (hb hby dj35_50_16) ?_
    refine XS.lushr X0.here hx rfl (hb hby dj35_50_17) rfl ?_
    show Sg p e below (s₁.setTop (mkF m 18 #[.val (.long z1079), .second] [(.long ((z1079.toUInt64 >>> ((2 : Int32) &&& 0x3f).toInt64.toUInt64).toInt64)), (.long (z1079 &&& (3689348814741910323 : Int64)))])) _
    refine X0.ldc2Long hx hown (mvT hZ (own_hw hw 76 rfl)) (g := (mkF m 18 #[.val (.long z1079), .second] [(.long ((z1079.toUInt64 >>> ((2 : Int32) &&& 0x3f).toInt64.toUInt64).toInt64)), (.long (z1079 &&& (3689348814741910323 : Int64)))])) rfl (hb hby dj35_50_18) _ ?_
    show Sg p e below (s₁.setTop (mkF m 21 #[.val (.long z1079), .second] [(.long (3689348814741910323 : Int64)), (.long ((z1079.toUInt64 >>> ((2 : Int32) &&& 0x3f).toInt64.toUInt64).toInt64)), (.long (z1079 &&& (3689348814741910323 : Int64)))])) _
    refine XS.land X0.here hx rfl (hb hby dj35_50_21) rfl ?_
    refine XS.ladd X0.here hx rfl (hb hby dj35_50_22) rfl ?_
    show Sg p e below (s₁.setTop (mkF m 23 #[.val (.long z1079), .second] [(.long ((z1079 &&& (3689348814741910323 : Int64)) + (((z1079.toUInt64 >>> ((2 : Int32) &&& 0x3f).toInt64.toUInt64).toInt64) &&& (3689348814741910323 : Int64))))])) _
    exact k)
  have P1084 : Rg p e below (s₁.setTop (mkF m 23 #[.val (.long z1079), .second] [(.long z1082)])) B0 := fun t k => P1083 t (by rw [hz1082] at k; exact k)
  obtain ⟨z1085, hz1085⟩ : ∃ z : Int64, z = ((z1082 + ((z1082.toUInt64 >>> ((4 : Int32) &&& 0x3f).toInt64.toUInt64).toInt64)) &&& (1085102592571150095 : Int64)) := ⟨_, rfl⟩
  have P1086 : Rg p e below (s₁.setTop (mkF m 33 #[.val (.long z1082), .second] [(.long ((z1082 + ((z1082.toUInt64 >>> ((4 : Int32) &&& 0x3f).toInt64.toUInt64).toInt64)) &&& (1085102592571150095 : Int64)))])) B0 := fun t k => P1084 t (by
    refine XS.lstoreN X0.here hx rfl (hb hby dj35_50_23) rfl (l' := #[.val (.long z1082), .second]) rfl ?_
    refine XS.lloadN X0.here hx rfl (hb hby dj35_50_24) rfl ?_
    refine XS.lloadN X0.here hx rfl (hb hby dj35_50_25) rfl ?_
    refine XS.iconst X0.here hx rfl (hb hby dj35_50_26) ?_
    refine XS.lushr X0.here hx rfl (hb hby dj35_50_27) rfl ?_
    refine XS.ladd X0.here hx rfl (hb hby dj35_50_28) rfl ?_
    show Sg p e below (s₁.setTop (mkF m 29 #[.val (.long z1082), .second] [(.long (z1082 + ((z1082.toUInt64 >>> ((4 : Int32) &&& 0x3f).toInt64.toUInt64).toInt64)))])) _
    refine X0.ldc2Long hx hown (mvT hZ (own_hw hw 77 rfl)) (g := (mkF m 29 #[.val (.long z1082), .second] [(.long (z1082 + ((z1082.toUInt64 >>> ((4 : Int32) &&& 0x3f).toInt64.toUInt64).toInt64)))])) rfl (hb hby dj35_50_29) _ ?_
    show Sg p e below (s₁.setTop (mkF m 32 #[.val (.long z1082), .second] [(.long (1085102592571150095 : Int64)), (.long (z1082 + ((z1082.toUInt64 >>> ((4 : Int32) &&& 0x3f).toInt64.toUInt64).toInt64)))])) _
    refine XS.land X0.here hx rfl (hb hby dj35_50_32) rfl ?_
    show Sg p e below (s₁.setTop (mkF m 33 #[.val (.long z1082), .second] [(.long ((z1082 + ((z1082.toUInt64 >>> ((4 : Int32) &&& 0x3f).toInt64.toUInt64).toInt64)) &&& (1085102592571150095 : Int64)))])) _
    exact k)
  have P1087 : Rg p e below (s₁.setTop (mkF m 33 #[.val (.long z1082), .second] [(.long z1085)])) B0 := fun t k => P1086 t (by rw [hz1085] at k; exact k)
  obtain ⟨z1088, hz1088⟩ : ∃ z : Int64, z = (z1085 + ((z1085.toUInt64 >>> ((8 : Int32) &&& 0x3f).toInt64.toUInt64).toInt64)) := ⟨_, rfl⟩
  have P1089 : Rg p e below (s₁.setTop (mkF m 40 #[.val (.long z1085), .second] [(.long (z1085 + ((z1085.toUInt64 >>> ((8 : Int32) &&& 0x3f).toInt64.toUInt64).toInt64)))])) B0 := fun t k => P1087 t (by
    refine XS.lstoreN X0.here hx rfl (hb hby dj35_50_33) rfl (l' := #[.val (.long z1085), .second]) rfl ?_
    refine XS.lloadN X0.here hx rfl (hb hby dj35_50_34) rfl ?_
    refine XS.lloadN X0.here hx rfl (hb hby dj35_50_35) rfl ?_
    refine XS.bipush X0.here hx rfl (hb hby dj35_50_36) ?_
    refine XS.lushr X0.here hx rfl (hb hby dj35_50_38) rfl ?_
    refine XS.ladd X0.here hx rfl (hb hby dj35_50_39) rfl ?_
    show Sg p e below (s₁.setTop (mkF m 40 #[.val (.long z1085), .second] [(.long (z1085 + ((z1085.toUInt64 >>> ((8 : Int32) &&& 0x3f).toInt64.toUInt64).toInt64)))])) _
    exact k)
  have P1090 : Rg p e below (s₁.setTop (mkF m 40 #[.val (.long z1085), .second] [(.long z1088)])) B0 := fun t k => P1089 t (by rw [hz1088] at k; exact k)
  obtain ⟨z1091, hz1091⟩ : ∃ z : Int64, z = (z1088 + ((z1088.toUInt64 >>> ((16 : Int32) &&& 0x3f).toInt64.toUInt64).toInt64)) := ⟨_, rfl⟩
  have P1092 : Rg p e below (s₁.setTop (mkF m 47 #[.val (.long z1088), .second] [(.long (z1088 + ((z1088.toUInt64 >>> ((16 : Int32) &&& 0x3f).toInt64.toUInt64).toInt64)))])) B0 := fun t k => P1090 t (by
    refine XS.lstoreN X0.here hx rfl (hb hby dj35_50_40) rfl (l' := #[.val (.long z1088), .second]) rfl ?_
    refine XS.lloadN X0.here hx rfl (hb hby dj35_50_41) rfl ?_
    refine XS.lloadN X0.here hx rfl (hb hby dj35_50_42) rfl ?_
    refine XS.bipush X0.here hx rfl (hb hby dj35_50_43) ?_
    refine XS.lushr X0.here hx rfl (hb hby dj35_50_45) rfl ?_
    refine XS.ladd X0.here hx rfl (hb hby dj35_50_46) rfl ?_
    show Sg p e below (s₁.setTop (mkF m 47 #[.val (.long z1088), .second] [(.long (z1088 + ((z1088.toUInt64 >>> ((16 : Int32) &&& 0x3f).toInt64.toUInt64).toInt64)))])) _
    exact k)
  have P1093 : Rg p e below (s₁.setTop (mkF m 47 #[.val (.long z1088), .second] [(.long z1091)])) B0 := fun t k => P1092 t (by rw [hz1091] at k; exact k)
  obtain ⟨z1094, hz1094⟩ : ∃ z : Int64, z = (z1091 + ((z1091.toUInt64 >>> ((32 : Int32) &&& 0x3f).toInt64.toUInt64).toInt64)) := ⟨_, rfl⟩
  have P1095 : Rg p e below (s₁.setTop (mkF m 54 #[.val (.long z1091), .second] [(.long (z1091 + ((z1091.toUInt64 >>> ((32 : Int32) &&& 0x3f).toInt64.toUInt64).toInt64)))])) B0 := fun t k => P1093 t (by
    refine XS.lstoreN X0.here hx rfl (hb hby dj35_50_47) rfl (l' := #[.val (.long z1091), .second]) rfl ?_
    refine XS.lloadN X0.here hx rfl (hb hby dj35_50_48) rfl ?_
    refine XS.lloadN X0.here hx rfl (hb hby dj35_50_49) rfl ?_
    refine XS.bipush X0.here hx rfl (hb hby dj35_50_50) ?_
    refine XS.lushr X0.here hx rfl (hb hby dj35_50_52) rfl ?_
    refine XS.ladd X0.here hx rfl (hb hby dj35_50_53) rfl ?_
    show Sg p e below (s₁.setTop (mkF m 54 #[.val (.long z1091), .second] [(.long (z1091 + ((z1091.toUInt64 >>> ((32 : Int32) &&& 0x3f).toInt64.toUInt64).toInt64)))])) _
    exact k)
  have P1096 : Rg p e below (s₁.setTop (mkF m 54 #[.val (.long z1091), .second] [(.long z1094)])) B0 := fun t k => P1095 t (by rw [hz1094] at k; exact k)
  obtain ⟨fs1097, hr1097, hrun1097, hended1097, hW1097, hsame1097⟩ := X0.leave (v := some (.int ((z1094.toInt32) &&& (127 : Int32)))) (fun h => by rw [Bd.returns] at h; cases h)
  refine ⟨_, _, pre0 _ (P1096 _ ?_), hrun1097, hended1097, _, _, rfl, ?_, ⟨⟨_, rfl⟩, hW1097, hsame1097.mono (Nat.le_of_ble_eq_true rfl) (Nat.le_of_ble_eq_true rfl)⟩⟩
  · show Sg p e below (s₁.setTop (mkF m 54 #[.val (.long z1091), .second] [(.long z1094)])) _
    refine XS.lstoreN X0.here hx rfl (hb hby dj35_50_54) rfl (l' := #[.val (.long z1094), .second]) rfl ?_
    refine XS.lloadN X0.here hx rfl (hb hby dj35_50_55) rfl ?_
    refine XS.l2i X0.here hx rfl (hb hby dj35_50_56) rfl ?_
    refine XS.bipush X0.here hx rfl (hb hby dj35_50_57) ?_
    refine XS.iand X0.here hx rfl (hb hby dj35_50_59) rfl ?_
    show Sg p e below (s₁.setTop (mkF m 60 #[.val (.long z1094), .second] [(.int ((z1094.toInt32) &&& (127 : Int32)))])) _
    exact retI X0 hx Bd.returns (hb hby dj35_50_60) hr1097
  · show Q_bct y h0 n0 _ s₁.heap _
    rw [e0]
    exact ⟨_, rfl, N0, rfl, by subst hz1079 hz1082 hz1085 hz1088 hz1091 hz1094; rfl⟩
theorem dj33_48_0 : decode jdk_33_method_48_code 0 = .ok (.iload_n 0, 1) := by decide +kernel
theorem dj33_48_1 : decode jdk_33_method_48_code 1 = .ok (.iconst (-1), 1) := by decide +kernel
theorem dj33_48_2 : decode jdk_33_method_48_code 2 = .ok (.ixor, 1) := by decide +kernel
theorem dj33_48_3 : decode jdk_33_method_48_code 3 = .ok (.iload_n 0, 1) := by decide +kernel
theorem dj33_48_4 : decode jdk_33_method_48_code 4 = .ok (.iconst 1, 1) := by decide +kernel
theorem dj33_48_5 : decode jdk_33_method_48_code 5 = .ok (.isub, 1) := by decide +kernel
theorem dj33_48_6 : decode jdk_33_method_48_code 6 = .ok (.iand, 1) := by decide +kernel
theorem dj33_48_7 : decode jdk_33_method_48_code 7 = .ok (.istore_n 0, 1) := by decide +kernel
theorem dj33_48_8 : decode jdk_33_method_48_code 8 = .ok (.iload_n 0, 1) := by decide +kernel
theorem dj33_48_9 : decode jdk_33_method_48_code 9 = .ok (.ifCond .gt 8, 3) := by decide +kernel
theorem dj33_48_17 : decode jdk_33_method_48_code 17 = .ok (.iconst 1, 1) := by decide +kernel
theorem dj33_48_18 : decode jdk_33_method_48_code 18 = .ok (.istore_n 1, 1) := by decide +kernel
theorem dj33_48_19 : decode jdk_33_method_48_code 19 = .ok (.iload_n 0, 1) := by decide +kernel
theorem dj33_48_20 : decode jdk_33_method_48_code 20 = .ok (.ldc_w 264, 3) := by decide +kernel
theorem dj33_48_23 : decode jdk_33_method_48_code 23 = .ok (.if_icmp .le 11, 3) := by decide +kernel
theorem dj33_48_26 : decode jdk_33_method_48_code 26 = .ok (.iinc 1 16, 3) := by decide +kernel
theorem dj33_48_29 : decode jdk_33_method_48_code 29 = .ok (.iload_n 0, 1) := by decide +kernel
theorem dj33_48_30 : decode jdk_33_method_48_code 30 = .ok (.bipush 16, 2) := by decide +kernel
theorem dj33_48_32 : decode jdk_33_method_48_code 32 = .ok (.iushr, 1) := by decide +kernel
theorem dj33_48_33 : decode jdk_33_method_48_code 33 = .ok (.istore_n 0, 1) := by decide +kernel
theorem dj33_48_34 : decode jdk_33_method_48_code 34 = .ok (.iload_n 0, 1) := by decide +kernel
theorem dj33_48_35 : decode jdk_33_method_48_code 35 = .ok (.sipush 256, 3) := by decide +kernel
theorem dj33_48_38 : decode jdk_33_method_48_code 38 = .ok (.if_icmp .le 11, 3) := by decide +kernel
theorem dj33_48_41 : decode jdk_33_method_48_code 41 = .ok (.iinc 1 8, 3) := by decide +kernel
theorem dj33_48_44 : decode jdk_33_method_48_code 44 = .ok (.iload_n 0, 1) := by decide +kernel
theorem dj33_48_45 : decode jdk_33_method_48_code 45 = .ok (.bipush 8, 2) := by decide +kernel
theorem dj33_48_47 : decode jdk_33_method_48_code 47 = .ok (.iushr, 1) := by decide +kernel
theorem dj33_48_48 : decode jdk_33_method_48_code 48 = .ok (.istore_n 0, 1) := by decide +kernel
theorem dj33_48_49 : decode jdk_33_method_48_code 49 = .ok (.iload_n 0, 1) := by decide +kernel
theorem dj33_48_50 : decode jdk_33_method_48_code 50 = .ok (.bipush 16, 2) := by decide +kernel
theorem dj33_48_52 : decode jdk_33_method_48_code 52 = .ok (.if_icmp .le 10, 3) := by decide +kernel
theorem dj33_48_55 : decode jdk_33_method_48_code 55 = .ok (.iinc 1 4, 3) := by decide +kernel
theorem dj33_48_58 : decode jdk_33_method_48_code 58 = .ok (.iload_n 0, 1) := by decide +kernel
theorem dj33_48_59 : decode jdk_33_method_48_code 59 = .ok (.iconst 4, 1) := by decide +kernel
theorem dj33_48_60 : decode jdk_33_method_48_code 60 = .ok (.iushr, 1) := by decide +kernel
theorem dj33_48_61 : decode jdk_33_method_48_code 61 = .ok (.istore_n 0, 1) := by decide +kernel
theorem dj33_48_62 : decode jdk_33_method_48_code 62 = .ok (.iload_n 0, 1) := by decide +kernel
theorem dj33_48_63 : decode jdk_33_method_48_code 63 = .ok (.iconst 4, 1) := by decide +kernel
theorem dj33_48_64 : decode jdk_33_method_48_code 64 = .ok (.if_icmp .le 10, 3) := by decide +kernel
theorem dj33_48_67 : decode jdk_33_method_48_code 67 = .ok (.iinc 1 2, 3) := by decide +kernel
theorem dj33_48_70 : decode jdk_33_method_48_code 70 = .ok (.iload_n 0, 1) := by decide +kernel
theorem dj33_48_71 : decode jdk_33_method_48_code 71 = .ok (.iconst 2, 1) := by decide +kernel
theorem dj33_48_72 : decode jdk_33_method_48_code 72 = .ok (.iushr, 1) := by decide +kernel
theorem dj33_48_73 : decode jdk_33_method_48_code 73 = .ok (.istore_n 0, 1) := by decide +kernel
theorem dj33_48_74 : decode jdk_33_method_48_code 74 = .ok (.iload_n 1, 1) := by decide +kernel
theorem dj33_48_75 : decode jdk_33_method_48_code 75 = .ok (.iload_n 0, 1) := by decide +kernel
theorem dj33_48_76 : decode jdk_33_method_48_code 76 = .ok (.iconst 1, 1) := by decide +kernel
theorem dj33_48_77 : decode jdk_33_method_48_code 77 = .ok (.iushr, 1) := by decide +kernel
theorem dj33_48_78 : decode jdk_33_method_48_code 78 = .ok (.iadd, 1) := by decide +kernel
theorem dj33_48_79 : decode jdk_33_method_48_code 79 = .ok (.ireturn, 1) := by decide +kernel
theorem dj33_48_12 : decode jdk_33_method_48_code 12 = .ok (.iload_n 0, 1) := by decide +kernel
theorem dj33_48_13 : decode jdk_33_method_48_code 13 = .ok (.bipush 32, 2) := by decide +kernel
theorem dj33_48_15 : decode jdk_33_method_48_code 15 = .ok (.iand, 1) := by decide +kernel
theorem dj33_48_16 : decode jdk_33_method_48_code 16 = .ok (.ireturn, 1) := by decide +kernel
theorem pn_java_lang_Integer : plainName "java/lang/Integer" = true := by first | (simp [plainName, overriddenIn]; done) | decide +kernel
theorem ef_ntzi (m : MethodId) (x0 : Int32) : entryFrame m #[(.int x0)] 2 = mkF m 0 #[sI x0, sU] [] := by (first | (simp [entryFrame, mkF, argsToLocals, Value.category]; done) | rfl)
def Q_ntzi (x : Int32) (h0 : Heap) (n0 : Nat) (v : Option Value) (h : Heap) (L : List Loc) : Prop := ∃ r : Int32, v = some (.int r) ∧ Fr n0 L ∧ h = h0 ∧ r = JP.Integer_numberOfTrailingZeros_I.val x
set_option maxRecDepth 65536 in
set_option maxHeartbeats 40000000 in
theorem rm_ntzi (l : Launch) (Z : State) (a0 : Array Value) (hw : ∀ d ∈ tables_1, d.before a0 Z = true) (ws : List Jvm.Cond) (x : Int32) (h0 : Heap) (n0 : Nat) (Z0 : n0 ≤ h0.size)  :
    MetFree l (⟨"java/lang/Integer", "numberOfTrailingZeros", "(I)I"⟩ : MethodName) (head1 (Jvm.Cond.code (⟨"java/lang/Integer", "numberOfTrailingZeros", "(I)I"⟩ : MethodName) jdk_33_method_48_code 2 (some .int) :: ws) ({ frames := 0, cells := 0, slots := 0, locals := 0 } : Room)) (fun a U => a = #[(.int x)] ∧ Z.Warmed39 U.vm ∧ U.heap = h0) (fun _ _ _ _ _ => True) (fun _ U o U' => ∃ v L, o = .returned v ∧ Q_ntzi x h0 n0 v U'.heap L ∧ FrameEnd U o U' L ({ frames := 0, cells := 0, slots := 0, locals := 0 } : Room).cells ({ frames := 0, cells := 0, slots := 0, locals := 0 } : Room).slots) := by
  refine MetFree.of_bodySF (plainFor_of_name pn_java_lang_Integer) hisR ?_
  intro p e s m args below meth c s₁ Bd hml0 hP hK
  obtain ⟨rfl, hZ, hh⟩ := hP
  have hx := Bd.exec
  have hby := Bd.bytes
  have hml : c.maxLocals = 2 := hml0
  have hown : s.vm.findClass "java/lang/Integer" = some m.cls := findClass_of_methodNamed Bd.named
  have hnm := (name_of_methodNamed Bd.named Bd.method).1
  have X0 : Stand p l e ({ frames := 0, cells := 0, slots := 0, locals := 0 } : Room) s m #[(.int x)] below meth c s₁ [] 0 0 := Stand.of_body Bd
  have e0 : s₁.heap = h0 := by rw [← hh, Bd.state]; rfl
  have N0 := Fr.nil n0
  have pre0 : ∀ t, Sg p e below (s₁.setTop (mkF m 0 #[sI x, sU] [])) t → Steps p.tables e below (s₁.setTop (entryFrame m #[(.int x)] 2)) t := fun t k => castTop (ef_ntzi m x) k
  have P0 : ∀ t, Sg p e below (s₁.setTop (mkF m 0 #[sI x, sU] [])) t → Sg p e below (s₁.setTop (mkF m 0 #[sI x, sU] [])) t := fun t k => k
  obtain ⟨B0, pre0, P0⟩ : ∃ B : State, (∀ t, Steps p.tables e below B t → Steps p.tables e below (s₁.setTop (entryFrame m #[(.int x)] 2)) t) ∧ Rg p e below (s₁.setTop (mkF m 0 #[sI x, sU] [])) B := ⟨_, pre0, P0⟩
  have P1098 : Rg p e below (s₁.setTop (mkF m 9 #[.val (.int ((x ^^^ (-1 : Int32)) &&& (x - (1 : Int32)))), sU] [(.int ((x ^^^ (-1 : Int32)) &&& (x - (1 : Int32))))])) B0 := fun t k => P0 t (by
    refine XS.iloadN X0.here hx rfl (hb hby dj33_48_0) rfl ?_
    refine XS.iconst X0.here hx rfl (hb hby dj33_48_1) ?_
    refine XS.ixor X0.here hx rfl (hb hby dj33_48_2) rfl ?_
    refine XS.iloadN X0.here hx rfl (hb hby dj33_48_3) rfl ?_
    refine XS.iconst X0.here hx rfl (hb hby dj33_48_4) ?_
    refine XS.isub X0.here hx rfl (hb hby dj33_48_5) rfl ?_
    refine XS.iand X0.here hx rfl (hb hby dj33_48_6) rfl ?_
    refine XS.istoreN X0.here hx rfl (hb hby dj33_48_7) rfl (l' := #[.val (.int ((x ^^^ (-1 : Int32)) &&& (x - (1 : Int32)))), sU]) rfl ?_
    refine XS.iloadN X0.here hx rfl (hb hby dj33_48_8) rfl ?_
    show Sg p e below (s₁.setTop (mkF m 9 #[.val (.int ((x ^^^ (-1 : Int32)) &&& (x - (1 : Int32)))), sU] [(.int ((x ^^^ (-1 : Int32)) &&& (x - (1 : Int32))))])) _
    exact k)
  by_cases q1099 : (0 : Int32) < ((x ^^^ (-1 : Int32)) &&& (x - (1 : Int32)))
  · skip
    have P1100 : Rg p e below (s₁.setTop (mkF m 23 #[.val (.int ((x ^^^ (-1 : Int32)) &&& (x - (1 : Int32)))), sI 1] [(.int (65536 : Int32)), (.int ((x ^^^ (-1 : Int32)) &&& (x - (1 : Int32))))])) B0 := fun t k => P1098 t (by
      refine XS.ifYes X0.here hx rfl (pc0 := 9) (pc' := 17) rfl (hb hby dj33_48_9) rfl ((if0 _ _).trans (tlt (show (0 : Int32) < ((x ^^^ (-1 : Int32)) &&& (x - (1 : Int32))) from q1099)).2.2.1) (by decide) (by decide) ?_
      refine XS.iconst X0.here hx rfl (hb hby dj33_48_17) ?_
      refine XS.istoreN X0.here hx rfl (hb hby dj33_48_18) rfl (l' := #[.val (.int ((x ^^^ (-1 : Int32)) &&& (x - (1 : Int32)))), sI 1]) rfl ?_
      refine XS.iloadN X0.here hx rfl (hb hby dj33_48_19) rfl ?_
      show Sg p e below (s₁.setTop (mkF m 20 #[.val (.int ((x ^^^ (-1 : Int32)) &&& (x - (1 : Int32)))), sI 1] [(.int ((x ^^^ (-1 : Int32)) &&& (x - (1 : Int32))))])) _
      refine X0.ldcwInt hx hown (mvT hZ (own_hw hw 85 rfl)) (g := (mkF m 20 #[.val (.int ((x ^^^ (-1 : Int32)) &&& (x - (1 : Int32)))), sI 1] [(.int ((x ^^^ (-1 : Int32)) &&& (x - (1 : Int32))))])) rfl (hb hby dj33_48_20) _ ?_
      show Sg p e below (s₁.setTop (mkF m 23 #[.val (.int ((x ^^^ (-1 : Int32)) &&& (x - (1 : Int32)))), sI 1] [(.int (65536 : Int32)), (.int ((x ^^^ (-1 : Int32)) &&& (x - (1 : Int32))))])) _
      exact k)
    by_cases q1101 : (65536 : Int32) < ((x ^^^ (-1 : Int32)) &&& (x - (1 : Int32)))
    · skip
      have P1102 : Rg p e below (s₁.setTop (mkF m 38 #[.val (.int ((((x ^^^ (-1 : Int32)) &&& (x - (1 : Int32))).toUInt32 >>> ((16 : Int32) &&& 31).toUInt32).toInt32)), sI 17] [(.int (256 : Int32)), (.int ((((x ^^^ (-1 : Int32)) &&& (x - (1 : Int32))).toUInt32 >>> ((16 : Int32) &&& 31).toUInt32).toInt32))])) B0 := fun t k => P1100 t (by
        refine XS.icmpNo X0.here hx rfl (hb hby dj33_48_23) rfl (tlt (show (65536 : Int32) < ((x ^^^ (-1 : Int32)) &&& (x - (1 : Int32))) from q1101)).2.2.2 ?_
        refine XS.iinc X0.here hx rfl (hb hby dj33_48_26) rfl (l' := #[.val (.int ((x ^^^ (-1 : Int32)) &&& (x - (1 : Int32)))), sI 17]) rfl ?_
        refine XS.iloadN X0.here hx rfl (hb hby dj33_48_29) rfl ?_
        refine XS.bipush X0.here hx rfl (hb hby dj33_48_30) ?_
        refine XS.iushr X0.here hx rfl (hb hby dj33_48_32) rfl ?_
        refine XS.istoreN X0.here hx rfl (hb hby dj33_48_33) rfl (l' := #[.val (.int ((((x ^^^ (-1 : Int32)) &&& (x - (1 : Int32))).toUInt32 >>> ((16 : Int32) &&& 31).toUInt32).toInt32)), sI 17]) rfl ?_
        refine XS.iloadN X0.here hx rfl (hb hby dj33_48_34) rfl ?_
        refine XS.sipush X0.here hx rfl (hb hby dj33_48_35) ?_
        show Sg p e below (s₁.setTop (mkF m 38 #[.val (.int ((((x ^^^ (-1 : Int32)) &&& (x - (1 : Int32))).toUInt32 >>> ((16 : Int32) &&& 31).toUInt32).toInt32)), sI 17] [(.int (256 : Int32)), (.int ((((x ^^^ (-1 : Int32)) &&& (x - (1 : Int32))).toUInt32 >>> ((16 : Int32) &&& 31).toUInt32).toInt32))])) _
        exact k)
      by_cases q1103 : (256 : Int32) < ((((x ^^^ (-1 : Int32)) &&& (x - (1 : Int32))).toUInt32 >>> ((16 : Int32) &&& 31).toUInt32).toInt32)
      · skip
        have P1104 : Rg p e below (s₁.setTop (mkF m 52 #[.val (.int ((((((x ^^^ (-1 : Int32)) &&& (x - (1 : Int32))).toUInt32 >>> ((16 : Int32) &&& 31).toUInt32).toInt32).toUInt32 >>> ((8 : Int32) &&& 31).toUInt32).toInt32)), sI 25] [(.int (16 : Int32)), (.int ((((((x ^^^ (-1 : Int32)) &&& (x - (1 : Int32))).toUInt32 >>> ((16 : Int32) &&& 31).toUInt32).toInt32).toUInt32 >>> ((8 : Int32) &&& 31).toUInt32).toInt32))])) B0 := fun t k => P1102 t (by
          refine XS.icmpNo X0.here hx rfl (hb hby dj33_48_38) rfl (tlt (show (256 : Int32) < ((((x ^^^ (-1 : Int32)) &&& (x - (1 : Int32))).toUInt32 >>> ((16 : Int32) &&& 31).toUInt32).toInt32) from q1103)).2.2.2 ?_
          refine XS.iinc X0.here hx rfl (hb hby dj33_48_41) rfl (l' := #[.val (.int ((((x ^^^ (-1 : Int32)) &&& (x - (1 : Int32))).toUInt32 >>> ((16 : Int32) &&& 31).toUInt32).toInt32)), sI 25]) rfl ?_
          refine XS.iloadN X0.here hx rfl (hb hby dj33_48_44) rfl ?_
          refine XS.bipush X0.here hx rfl (hb hby dj33_48_45) ?_
          refine XS.iushr X0.here hx rfl (hb hby dj33_48_47) rfl ?_
          refine XS.istoreN X0.here hx rfl (hb hby dj33_48_48) rfl (l' := #[.val (.int ((((((x ^^^ (-1 : Int32)) &&& (x - (1 : Int32))).toUInt32 >>> ((16 : Int32) &&& 31).toUInt32).toInt32).toUInt32 >>> ((8 : Int32) &&& 31).toUInt32).toInt32)), sI 25]) rfl ?_
          refine XS.iloadN X0.here hx rfl (hb hby dj33_48_49) rfl ?_
          refine XS.bipush X0.here hx rfl (hb hby dj33_48_50) ?_
          show Sg p e below (s₁.setTop (mkF m 52 #[.val (.int ((((((x ^^^ (-1 : Int32)) &&& (x - (1 : Int32))).toUInt32 >>> ((16 : Int32) &&& 31).toUInt32).toInt32).toUInt32 >>> ((8 : Int32) &&& 31).toUInt32).toInt32)), sI 25] [(.int (16 : Int32)), (.int ((((((x ^^^ (-1 : Int32)) &&& (x - (1 : Int32))).toUInt32 >>> ((16 : Int32) &&& 31).toUInt32).toInt32).toUInt32 >>> ((8 : Int32) &&& 31).toUInt32).toInt32))])) _
          exact k)
        by_cases q1105 : (16 : Int32) < ((((((x ^^^ (-1 : Int32)) &&& (x - (1 : Int32))).toUInt32 >>> ((16 : Int32) &&& 31).toUInt32).toInt32).toUInt32 >>> ((8 : Int32) &&& 31).toUInt32).toInt32)
        · skip
          have P1106 : Rg p e below (s₁.setTop (mkF m 64 #[.val (.int ((((((((x ^^^ (-1 : Int32)) &&& (x - (1 : Int32))).toUInt32 >>> ((16 : Int32) &&& 31).toUInt32).toInt32).toUInt32 >>> ((8 : Int32) &&& 31).toUInt32).toInt32).toUInt32 >>> ((4 : Int32) &&& 31).toUInt32).toInt32)), sI 29] [(.int (4 : Int32)), (.int ((((((((x ^^^ (-1 : Int32)) &&& (x - (1 : Int32))).toUInt32 >>> ((16 : Int32) &&& 31).toUInt32).toInt32).toUInt32 >>> ((8 : Int32) &&& 31).toUInt32).toInt32).toUInt32 >>> ((4 : Int32) &&& 31).toUInt32).toInt32))])) B0 := fun t k => P1104 t (by
            refine XS.icmpNo X0.here hx rfl (hb hby dj33_48_52) rfl (tlt (show (16 : Int32) < ((((((x ^^^ (-1 : Int32)) &&& (x - (1 : Int32))).toUInt32 >>> ((16 : Int32) &&& 31).toUInt32).toInt32).toUInt32 >>> ((8 : Int32) &&& 31).toUInt32).toInt32) from q1105)).2.2.2 ?_
            refine XS.iinc X0.here hx rfl (hb hby dj33_48_55) rfl (l' := #[.val (.int ((((((x ^^^ (-1 : Int32)) &&& (x - (1 : Int32))).toUInt32 >>> ((16 : Int32) &&& 31).toUInt32).toInt32).toUInt32 >>> ((8 : Int32) &&& 31).toUInt32).toInt32)), sI 29]) rfl ?_
            refine XS.iloadN X0.here hx rfl (hb hby dj33_48_58) rfl ?_
            refine XS.iconst X0.here hx rfl (hb hby dj33_48_59) ?_
            refine XS.iushr X0.here hx rfl (hb hby dj33_48_60) rfl ?_
            refine XS.istoreN X0.here hx rfl (hb hby dj33_48_61) rfl (l' := #[.val (.int ((((((((x ^^^ (-1 : Int32)) &&& (x - (1 : Int32))).toUInt32 >>> ((16 : Int32) &&& 31).toUInt32).toInt32).toUInt32 >>> ((8 : Int32) &&& 31).toUInt32).toInt32).toUInt32 >>> ((4 : Int32) &&& 31).toUInt32).toInt32)), sI 29]) rfl ?_
            refine XS.iloadN X0.here hx rfl (hb hby dj33_48_62) rfl ?_
            refine XS.iconst X0.here hx rfl (hb hby dj33_48_63) ?_
            show Sg p e below (s₁.setTop (mkF m 64 #[.val (.int ((((((((x ^^^ (-1 : Int32)) &&& (x - (1 : Int32))).toUInt32 >>> ((16 : Int32) &&& 31).toUInt32).toInt32).toUInt32 >>> ((8 : Int32) &&& 31).toUInt32).toInt32).toUInt32 >>> ((4 : Int32) &&& 31).toUInt32).toInt32)), sI 29] [(.int (4 : Int32)), (.int ((((((((x ^^^ (-1 : Int32)) &&& (x - (1 : Int32))).toUInt32 >>> ((16 : Int32) &&& 31).toUInt32).toInt32).toUInt32 >>> ((8 : Int32) &&& 31).toUInt32).toInt32).toUInt32 >>> ((4 : Int32) &&& 31).toUInt32).toInt32))])) _
            exact k)
          by_cases q1107 : (4 : Int32) < ((((((((x ^^^ (-1 : Int32)) &&& (x - (1 : Int32))).toUInt32 >>> ((16 : Int32) &&& 31).toUInt32).toInt32).toUInt32 >>> ((8 : Int32) &&& 31).toUInt32).toInt32).toUInt32 >>> ((4 : Int32) &&& 31).toUInt32).toInt32)
          · skip
            obtain ⟨fs1108, hr1108, hrun1108, hended1108, hW1108, hsame1108⟩ := X0.leave (v := some (.int ((31 : Int32) + ((((((((((((x ^^^ (-1 : Int32)) &&& (x - (1 : Int32))).toUInt32 >>> ((16 : Int32) &&& 31).toUInt32).toInt32).toUInt32 >>> ((8 : Int32) &&& 31).toUInt32).toInt32).toUInt32 >>> ((4 : Int32) &&& 31).toUInt32).toInt32).toUInt32 >>> ((2 : Int32) &&& 31).toUInt32).toInt32).toUInt32 >>> ((1 : Int32) &&& 31).toUInt32).toInt32)))) (fun h => by rw [Bd.returns] at h; cases h)
            refine ⟨_, _, pre0 _ (P1106 _ ?_), hrun1108, hended1108, _, _, rfl, ?_, ⟨⟨_, rfl⟩, hW1108, hsame1108.mono (Nat.le_of_ble_eq_true rfl) (Nat.le_of_ble_eq_true rfl)⟩⟩
            · show Sg p e below (s₁.setTop (mkF m 64 #[.val (.int ((((((((x ^^^ (-1 : Int32)) &&& (x - (1 : Int32))).toUInt32 >>> ((16 : Int32) &&& 31).toUInt32).toInt32).toUInt32 >>> ((8 : Int32) &&& 31).toUInt32).toInt32).toUInt32 >>> ((4 : Int32) &&& 31).toUInt32).toInt32)), sI 29] [(.int (4 : Int32)), (.int ((((((((x ^^^ (-1 : Int32)) &&& (x - (1 : Int32))).toUInt32 >>> ((16 : Int32) &&& 31).toUInt32).toInt32).toUInt32 >>> ((8 : Int32) &&& 31).toUInt32).toInt32).toUInt32 >>> ((4 : Int32) &&& 31).toUInt32).toInt32))])) _
              refine XS.icmpNo X0.here hx rfl (hb hby dj33_48_64) rfl (tlt (show (4 : Int32) < ((((((((x ^^^ (-1 : Int32)) &&& (x - (1 : Int32))).toUInt32 >>> ((16 : Int32) &&& 31).toUInt32).toInt32).toUInt32 >>> ((8 : Int32) &&& 31).toUInt32).toInt32).toUInt32 >>> ((4 : Int32) &&& 31).toUInt32).toInt32) from q1107)).2.2.2 ?_
              refine XS.iinc X0.here hx rfl (hb hby dj33_48_67) rfl (l' := #[.val (.int ((((((((x ^^^ (-1 : Int32)) &&& (x - (1 : Int32))).toUInt32 >>> ((16 : Int32) &&& 31).toUInt32).toInt32).toUInt32 >>> ((8 : Int32) &&& 31).toUInt32).toInt32).toUInt32 >>> ((4 : Int32) &&& 31).toUInt32).toInt32)), sI 31]) rfl ?_
              refine XS.iloadN X0.here hx rfl (hb hby dj33_48_70) rfl ?_
              refine XS.iconst X0.here hx rfl (hb hby dj33_48_71) ?_
              refine XS.iushr X0.here hx rfl (hb hby dj33_48_72) rfl ?_
              refine XS.istoreN X0.here hx rfl (hb hby dj33_48_73) rfl (l' := #[.val (.int ((((((((((x ^^^ (-1 : Int32)) &&& (x - (1 : Int32))).toUInt32 >>> ((16 : Int32) &&& 31).toUInt32).toInt32).toUInt32 >>> ((8 : Int32) &&& 31).toUInt32).toInt32).toUInt32 >>> ((4 : Int32) &&& 31).toUInt32).toInt32).toUInt32 >>> ((2 : Int32) &&& 31).toUInt32).toInt32)), sI 31]) rfl ?_
              refine XS.iloadN X0.here hx rfl (hb hby dj33_48_74) rfl ?_
              refine XS.iloadN X0.here hx rfl (hb hby dj33_48_75) rfl ?_
              refine XS.iconst X0.here hx rfl (hb hby dj33_48_76) ?_
              refine XS.iushr X0.here hx rfl (hb hby dj33_48_77) rfl ?_
              refine XS.iadd X0.here hx rfl (hb hby dj33_48_78) rfl ?_
              show Sg p e below (s₁.setTop (mkF m 79 #[.val (.int ((((((((((x ^^^ (-1 : Int32)) &&& (x - (1 : Int32))).toUInt32 >>> ((16 : Int32) &&& 31).toUInt32).toInt32).toUInt32 >>> ((8 : Int32) &&& 31).toUInt32).toInt32).toUInt32 >>> ((4 : Int32) &&& 31).toUInt32).toInt32).toUInt32 >>> ((2 : Int32) &&& 31).toUInt32).toInt32)), sI 31] [(.int ((31 : Int32) + ((((((((((((x ^^^ (-1 : Int32)) &&& (x - (1 : Int32))).toUInt32 >>> ((16 : Int32) &&& 31).toUInt32).toInt32).toUInt32 >>> ((8 : Int32) &&& 31).toUInt32).toInt32).toUInt32 >>> ((4 : Int32) &&& 31).toUInt32).toInt32).toUInt32 >>> ((2 : Int32) &&& 31).toUInt32).toInt32).toUInt32 >>> ((1 : Int32) &&& 31).toUInt32).toInt32)))])) _
              exact retI X0 hx Bd.returns (hb hby dj33_48_79) hr1108
            · show Q_ntzi x h0 n0 _ s₁.heap _
              rw [e0]
              exact ⟨_, rfl, N0, rfl, ((if_pos q1099).trans ((if_pos q1101).trans ((if_pos q1103).trans ((if_pos q1105).trans ((if_pos q1107).trans (rfl)))))).symm⟩
          · skip
            obtain ⟨fs1109, hr1109, hrun1109, hended1109, hW1109, hsame1109⟩ := X0.leave (v := some (.int ((29 : Int32) + ((((((((((x ^^^ (-1 : Int32)) &&& (x - (1 : Int32))).toUInt32 >>> ((16 : Int32) &&& 31).toUInt32).toInt32).toUInt32 >>> ((8 : Int32) &&& 31).toUInt32).toInt32).toUInt32 >>> ((4 : Int32) &&& 31).toUInt32).toInt32).toUInt32 >>> ((1 : Int32) &&& 31).toUInt32).toInt32)))) (fun h => by rw [Bd.returns] at h; cases h)
            refine ⟨_, _, pre0 _ (P1106 _ ?_), hrun1109, hended1109, _, _, rfl, ?_, ⟨⟨_, rfl⟩, hW1109, hsame1109.mono (Nat.le_of_ble_eq_true rfl) (Nat.le_of_ble_eq_true rfl)⟩⟩
            · show Sg p e below (s₁.setTop (mkF m 64 #[.val (.int ((((((((x ^^^ (-1 : Int32)) &&& (x - (1 : Int32))).toUInt32 >>> ((16 : Int32) &&& 31).toUInt32).toInt32).toUInt32 >>> ((8 : Int32) &&& 31).toUInt32).toInt32).toUInt32 >>> ((4 : Int32) &&& 31).toUInt32).toInt32)), sI 29] [(.int (4 : Int32)), (.int ((((((((x ^^^ (-1 : Int32)) &&& (x - (1 : Int32))).toUInt32 >>> ((16 : Int32) &&& 31).toUInt32).toInt32).toUInt32 >>> ((8 : Int32) &&& 31).toUInt32).toInt32).toUInt32 >>> ((4 : Int32) &&& 31).toUInt32).toInt32))])) _
              refine XS.icmpYes X0.here hx rfl (pc0 := 64) (pc' := 74) rfl (hb hby dj33_48_64) rfl (flt (show ¬ ((4 : Int32) < ((((((((x ^^^ (-1 : Int32)) &&& (x - (1 : Int32))).toUInt32 >>> ((16 : Int32) &&& 31).toUInt32).toInt32).toUInt32 >>> ((8 : Int32) &&& 31).toUInt32).toInt32).toUInt32 >>> ((4 : Int32) &&& 31).toUInt32).toInt32)) from q1107)).2.2.2 (by decide) (by decide) ?_
              refine XS.iloadN X0.here hx rfl (hb hby dj33_48_74) rfl ?_
              refine XS.iloadN X0.here hx rfl (hb hby dj33_48_75) rfl ?_
              refine XS.iconst X0.here hx rfl (hb hby dj33_48_76) ?_
              refine XS.iushr X0.here hx rfl (hb hby dj33_48_77) rfl ?_
              refine XS.iadd X0.here hx rfl (hb hby dj33_48_78) rfl ?_
              show Sg p e below (s₁.setTop (mkF m 79 #[.val (.int ((((((((x ^^^ (-1 : Int32)) &&& (x - (1 : Int32))).toUInt32 >>> ((16 : Int32) &&& 31).toUInt32).toInt32).toUInt32 >>> ((8 : Int32) &&& 31).toUInt32).toInt32).toUInt32 >>> ((4 : Int32) &&& 31).toUInt32).toInt32)), sI 29] [(.int ((29 : Int32) + ((((((((((x ^^^ (-1 : Int32)) &&& (x - (1 : Int32))).toUInt32 >>> ((16 : Int32) &&& 31).toUInt32).toInt32).toUInt32 >>> ((8 : Int32) &&& 31).toUInt32).toInt32).toUInt32 >>> ((4 : Int32) &&& 31).toUInt32).toInt32).toUInt32 >>> ((1 : Int32) &&& 31).toUInt32).toInt32)))])) _
              exact retI X0 hx Bd.returns (hb hby dj33_48_79) hr1109
            · show Q_ntzi x h0 n0 _ s₁.heap _
              rw [e0]
              exact ⟨_, rfl, N0, rfl, ((if_pos q1099).trans ((if_pos q1101).trans ((if_pos q1103).trans ((if_pos q1105).trans ((if_neg q1107).trans (rfl)))))).symm⟩
        · skip
          have P1110 : Rg p e below (s₁.setTop (mkF m 64 #[.val (.int ((((((x ^^^ (-1 : Int32)) &&& (x - (1 : Int32))).toUInt32 >>> ((16 : Int32) &&& 31).toUInt32).toInt32).toUInt32 >>> ((8 : Int32) &&& 31).toUInt32).toInt32)), sI 25] [(.int (4 : Int32)), (.int ((((((x ^^^ (-1 : Int32)) &&& (x - (1 : Int32))).toUInt32 >>> ((16 : Int32) &&& 31).toUInt32).toInt32).toUInt32 >>> ((8 : Int32) &&& 31).toUInt32).toInt32))])) B0 := fun t k => P1104 t (by
            refine XS.icmpYes X0.here hx rfl (pc0 := 52) (pc' := 62) rfl (hb hby dj33_48_52) rfl (flt (show ¬ ((16 : Int32) < ((((((x ^^^ (-1 : Int32)) &&& (x - (1 : Int32))).toUInt32 >>> ((16 : Int32) &&& 31).toUInt32).toInt32).toUInt32 >>> ((8 : Int32) &&& 31).toUInt32).toInt32)) from q1105)).2.2.2 (by decide) (by decide) ?_
            refine XS.iloadN X0.here hx rfl (hb hby dj33_48_62) rfl ?_
            refine XS.iconst X0.here hx rfl (hb hby dj33_48_63) ?_
            show Sg p e below (s₁.setTop (mkF m 64 #[.val (.int ((((((x ^^^ (-1 : Int32)) &&& (x - (1 : Int32))).toUInt32 >>> ((16 : Int32) &&& 31).toUInt32).toInt32).toUInt32 >>> ((8 : Int32) &&& 31).toUInt32).toInt32)), sI 25] [(.int (4 : Int32)), (.int ((((((x ^^^ (-1 : Int32)) &&& (x - (1 : Int32))).toUInt32 >>> ((16 : Int32) &&& 31).toUInt32).toInt32).toUInt32 >>> ((8 : Int32) &&& 31).toUInt32).toInt32))])) _
            exact k)
          by_cases q1111 : (4 : Int32) < ((((((x ^^^ (-1 : Int32)) &&& (x - (1 : Int32))).toUInt32 >>> ((16 : Int32) &&& 31).toUInt32).toInt32).toUInt32 >>> ((8 : Int32) &&& 31).toUInt32).toInt32)
          · skip
            obtain ⟨fs1112, hr1112, hrun1112, hended1112, hW1112, hsame1112⟩ := X0.leave (v := some (.int ((27 : Int32) + ((((((((((x ^^^ (-1 : Int32)) &&& (x - (1 : Int32))).toUInt32 >>> ((16 : Int32) &&& 31).toUInt32).toInt32).toUInt32 >>> ((8 : Int32) &&& 31).toUInt32).toInt32).toUInt32 >>> ((2 : Int32) &&& 31).toUInt32).toInt32).toUInt32 >>> ((1 : Int32) &&& 31).toUInt32).toInt32)))) (fun h => by rw [Bd.returns] at h; cases h)
            refine ⟨_, _, pre0 _ (P1110 _ ?_), hrun1112, hended1112, _, _, rfl, ?_, ⟨⟨_, rfl⟩, hW1112, hsame1112.mono (Nat.le_of_ble_eq_true rfl) (Nat.le_of_ble_eq_true rfl)⟩⟩
            · show Sg p e below (s₁.setTop (mkF m 64 #[.val (.int ((((((x ^^^ (-1 : Int32)) &&& (x - (1 : Int32))).toUInt32 >>> ((16 : Int32) &&& 31).toUInt32).toInt32).toUInt32 >>> ((8 : Int32) &&& 31).toUInt32).toInt32)), sI 25] [(.int (4 : Int32)), (.int ((((((x ^^^ (-1 : Int32)) &&& (x - (1 : Int32))).toUInt32 >>> ((16 : Int32) &&& 31).toUInt32).toInt32).toUInt32 >>> ((8 : Int32) &&& 31).toUInt32).toInt32))])) _
              refine XS.icmpNo X0.here hx rfl (hb hby dj33_48_64) rfl (tlt (show (4 : Int32) < ((((((x ^^^ (-1 : Int32)) &&& (x - (1 : Int32))).toUInt32 >>> ((16 : Int32) &&& 31).toUInt32).toInt32).toUInt32 >>> ((8 : Int32) &&& 31).toUInt32).toInt32) from q1111)).2.2.2 ?_
              refine XS.iinc X0.here hx rfl (hb hby dj33_48_67) rfl (l' := #[.val (.int ((((((x ^^^ (-1 : Int32)) &&& (x - (1 : Int32))).toUInt32 >>> ((16 : Int32) &&& 31).toUInt32).toInt32).toUInt32 >>> ((8 : Int32) &&& 31).toUInt32).toInt32)), sI 27]) rfl ?_
              refine XS.iloadN X0.here hx rfl (hb hby dj33_48_70) rfl ?_
              refine XS.iconst X0.here hx rfl (hb hby dj33_48_71) ?_
              refine XS.iushr X0.here hx rfl (hb hby dj33_48_72) rfl ?_
              refine XS.istoreN X0.here hx rfl (hb hby dj33_48_73) rfl (l' := #[.val (.int ((((((((x ^^^ (-1 : Int32)) &&& (x - (1 : Int32))).toUInt32 >>> ((16 : Int32) &&& 31).toUInt32).toInt32).toUInt32 >>> ((8 : Int32) &&& 31).toUInt32).toInt32).toUInt32 >>> ((2 : Int32) &&& 31).toUInt32).toInt32)), sI 27]) rfl ?_
              refine XS.iloadN X0.here hx rfl (hb hby dj33_48_74) rfl ?_
              refine XS.iloadN X0.here hx rfl (hb hby dj33_48_75) rfl ?_
              refine XS.iconst X0.here hx rfl (hb hby dj33_48_76) ?_
              refine XS.iushr X0.here hx rfl (hb hby dj33_48_77) rfl ?_
              refine XS.iadd X0.here hx rfl (hb hby dj33_48_78) rfl ?_
              show Sg p e below (s₁.setTop (mkF m 79 #[.val (.int ((((((((x ^^^ (-1 : Int32)) &&& (x - (1 : Int32))).toUInt32 >>> ((16 : Int32) &&& 31).toUInt32).toInt32).toUInt32 >>> ((8 : Int32) &&& 31).toUInt32).toInt32).toUInt32 >>> ((2 : Int32) &&& 31).toUInt32).toInt32)), sI 27] [(.int ((27 : Int32) + ((((((((((x ^^^ (-1 : Int32)) &&& (x - (1 : Int32))).toUInt32 >>> ((16 : Int32) &&& 31).toUInt32).toInt32).toUInt32 >>> ((8 : Int32) &&& 31).toUInt32).toInt32).toUInt32 >>> ((2 : Int32) &&& 31).toUInt32).toInt32).toUInt32 >>> ((1 : Int32) &&& 31).toUInt32).toInt32)))])) _
              exact retI X0 hx Bd.returns (hb hby dj33_48_79) hr1112
            · show Q_ntzi x h0 n0 _ s₁.heap _
              rw [e0]
              exact ⟨_, rfl, N0, rfl, ((if_pos q1099).trans ((if_pos q1101).trans ((if_pos q1103).trans ((if_neg q1105).trans ((if_pos q1111).trans (rfl)))))).symm⟩
          · skip
            obtain ⟨fs1113, hr1113, hrun1113, hended1113, hW1113, hsame1113⟩ := X0.leave (v := some (.int ((25 : Int32) + ((((((((x ^^^ (-1 : Int32)) &&& (x - (1 : Int32))).toUInt32 >>> ((16 : Int32) &&& 31).toUInt32).toInt32).toUInt32 >>> ((8 : Int32) &&& 31).toUInt32).toInt32).toUInt32 >>> ((1 : Int32) &&& 31).toUInt32).toInt32)))) (fun h => by rw [Bd.returns] at h; cases h)
            refine ⟨_, _, pre0 _ (P1110 _ ?_), hrun1113, hended1113, _, _, rfl, ?_, ⟨⟨_, rfl⟩, hW1113, hsame1113.mono (Nat.le_of_ble_eq_true rfl) (Nat.le_of_ble_eq_true rfl)⟩⟩
            · show Sg p e below (s₁.setTop (mkF m 64 #[.val (.int ((((((x ^^^ (-1 : Int32)) &&& (x - (1 : Int32))).toUInt32 >>> ((16 : Int32) &&& 31).toUInt32).toInt32).toUInt32 >>> ((8 : Int32) &&& 31).toUInt32).toInt32)), sI 25] [(.int (4 : Int32)), (.int ((((((x ^^^ (-1 : Int32)) &&& (x - (1 : Int32))).toUInt32 >>> ((16 : Int32) &&& 31).toUInt32).toInt32).toUInt32 >>> ((8 : Int32) &&& 31).toUInt32).toInt32))])) _
              refine XS.icmpYes X0.here hx rfl (pc0 := 64) (pc' := 74) rfl (hb hby dj33_48_64) rfl (flt (show ¬ ((4 : Int32) < ((((((x ^^^ (-1 : Int32)) &&& (x - (1 : Int32))).toUInt32 >>> ((16 : Int32) &&& 31).toUInt32).toInt32).toUInt32 >>> ((8 : Int32) &&& 31).toUInt32).toInt32)) from q1111)).2.2.2 (by decide) (by decide) ?_
              refine XS.iloadN X0.here hx rfl (hb hby dj33_48_74) rfl ?_
              refine XS.iloadN X0.here hx rfl (hb hby dj33_48_75) rfl ?_
              refine XS.iconst X0.here hx rfl (hb hby dj33_48_76) ?_
              refine XS.iushr X0.here hx rfl (hb hby dj33_48_77) rfl ?_
              refine XS.iadd X0.here hx rfl (hb hby dj33_48_78) rfl ?_
              show Sg p e below (s₁.setTop (mkF m 79 #[.val (.int ((((((x ^^^ (-1 : Int32)) &&& (x - (1 : Int32))).toUInt32 >>> ((16 : Int32) &&& 31).toUInt32).toInt32).toUInt32 >>> ((8 : Int32) &&& 31).toUInt32).toInt32)), sI 25] [(.int ((25 : Int32) + ((((((((x ^^^ (-1 : Int32)) &&& (x - (1 : Int32))).toUInt32 >>> ((16 : Int32) &&& 31).toUInt32).toInt32).toUInt32 >>> ((8 : Int32) &&& 31).toUInt32).toInt32).toUInt32 >>> ((1 : Int32) &&& 31).toUInt32).toInt32)))])) _
              exact retI X0 hx Bd.returns (hb hby dj33_48_79) hr1113
            · show Q_ntzi x h0 n0 _ s₁.heap _
              rw [e0]
              exact ⟨_, rfl, N0, rfl, ((if_pos q1099).trans ((if_pos q1101).trans ((if_pos q1103).trans ((if_neg q1105).trans ((if_neg q1111).trans (rfl)))))).symm⟩
      · skip
        have P1114 : Rg p e below (s₁.setTop (mkF m 52 #[.val (.int ((((x ^^^ (-1 : Int32)) &&& (x - (1 : Int32))).toUInt32 >>> ((16 : Int32) &&& 31).toUInt32).toInt32)), sI 17] [(.int (16 : Int32)), (.int ((((x ^^^ (-1 : Int32)) &&& (x - (1 : Int32))).toUInt32 >>> ((16 : Int32) &&& 31).toUInt32).toInt32))])) B0 := fun t k => P1102 t (by
          refine XS.icmpYes X0.here hx rfl (pc0 := 38) (pc' := 49) rfl (hb hby dj33_48_38) rfl (flt (show ¬ ((256 : Int32) < ((((x ^^^ (-1 : Int32)) &&& (x - (1 : Int32))).toUInt32 >>> ((16 : Int32) &&& 31).toUInt32).toInt32)) from q1103)).2.2.2 (by decide) (by decide) ?_
          refine XS.iloadN X0.here hx rfl (hb hby dj33_48_49) rfl ?_
          refine XS.bipush X0.here hx rfl (hb hby dj33_48_50) ?_
          show Sg p e below (s₁.setTop (mkF m 52 #[.val (.int ((((x ^^^ (-1 : Int32)) &&& (x - (1 : Int32))).toUInt32 >>> ((16 : Int32) &&& 31).toUInt32).toInt32)), sI 17] [(.int (16 : Int32)), (.int ((((x ^^^ (-1 : Int32)) &&& (x - (1 : Int32))).toUInt32 >>> ((16 : Int32) &&& 31).toUInt32).toInt32))])) _
          exact k)
        by_cases q1115 : (16 : Int32) < ((((x ^^^ (-1 : Int32)) &&& (x - (1 : Int32))).toUInt32 >>> ((16 : Int32) &&& 31).toUInt32).toInt32)
        · skip
          have P1116 : Rg p e below (s₁.setTop (mkF m 64 #[.val (.int ((((((x ^^^ (-1 : Int32)) &&& (x - (1 : Int32))).toUInt32 >>> ((16 : Int32) &&& 31).toUInt32).toInt32).toUInt32 >>> ((4 : Int32) &&& 31).toUInt32).toInt32)), sI 21] [(.int (4 : Int32)), (.int ((((((x ^^^ (-1 : Int32)) &&& (x - (1 : Int32))).toUInt32 >>> ((16 : Int32) &&& 31).toUInt32).toInt32).toUInt32 >>> ((4 : Int32) &&& 31).toUInt32).toInt32))])) B0 := fun t k => P1114 t (by
            refine XS.icmpNo X0.here hx rfl (hb hby dj33_48_52) rfl (tlt (show (16 : Int32) < ((((x ^^^ (-1 : Int32)) &&& (x - (1 : Int32))).toUInt32 >>> ((16 : Int32) &&& 31).toUInt32).toInt32) from q1115)).2.2.2 ?_
            refine XS.iinc X0.here hx rfl (hb hby dj33_48_55) rfl (l' := #[.val (.int ((((x ^^^ (-1 : Int32)) &&& (x - (1 : Int32))).toUInt32 >>> ((16 : Int32) &&& 31).toUInt32).toInt32)), sI 21]) rfl ?_
            refine XS.iloadN X0.here hx rfl (hb hby dj33_48_58) rfl ?_
            refine XS.iconst X0.here hx rfl (hb hby dj33_48_59) ?_
            refine XS.iushr X0.here hx rfl (hb hby dj33_48_60) rfl ?_
            refine XS.istoreN X0.here hx rfl (hb hby dj33_48_61) rfl (l' := #[.val (.int ((((((x ^^^ (-1 : Int32)) &&& (x - (1 : Int32))).toUInt32 >>> ((16 : Int32) &&& 31).toUInt32).toInt32).toUInt32 >>> ((4 : Int32) &&& 31).toUInt32).toInt32)), sI 21]) rfl ?_
            refine XS.iloadN X0.here hx rfl (hb hby dj33_48_62) rfl ?_
            refine XS.iconst X0.here hx rfl (hb hby dj33_48_63) ?_
            show Sg p e below (s₁.setTop (mkF m 64 #[.val (.int ((((((x ^^^ (-1 : Int32)) &&& (x - (1 : Int32))).toUInt32 >>> ((16 : Int32) &&& 31).toUInt32).toInt32).toUInt32 >>> ((4 : Int32) &&& 31).toUInt32).toInt32)), sI 21] [(.int (4 : Int32)), (.int ((((((x ^^^ (-1 : Int32)) &&& (x - (1 : Int32))).toUInt32 >>> ((16 : Int32) &&& 31).toUInt32).toInt32).toUInt32 >>> ((4 : Int32) &&& 31).toUInt32).toInt32))])) _
            exact k)
          by_cases q1117 : (4 : Int32) < ((((((x ^^^ (-1 : Int32)) &&& (x - (1 : Int32))).toUInt32 >>> ((16 : Int32) &&& 31).toUInt32).toInt32).toUInt32 >>> ((4 : Int32) &&& 31).toUInt32).toInt32)
          · skip
            obtain ⟨fs1118, hr1118, hrun1118, hended1118, hW1118, hsame1118⟩ := X0.leave (v := some (.int ((23 : Int32) + ((((((((((x ^^^ (-1 : Int32)) &&& (x - (1 : Int32))).toUInt32 >>> ((16 : Int32) &&& 31).toUInt32).toInt32).toUInt32 >>> ((4 : Int32) &&& 31).toUInt32).toInt32).toUInt32 >>> ((2 : Int32) &&& 31).toUInt32).toInt32).toUInt32 >>> ((1 : Int32) &&& 31).toUInt32).toInt32)))) (fun h => by rw [Bd.returns] at h; cases h)
            refine ⟨_, _, pre0 _ (P1116 _ ?_), hrun1118, hended1118, _, _, rfl, ?_, ⟨⟨_, rfl⟩, hW1118, hsame1118.mono (Nat.le_of_ble_eq_true rfl) (Nat.le_of_ble_eq_true rfl)⟩⟩
            · show Sg p e below (s₁.setTop (mkF m 64 #[.val (.int ((((((x ^^^ (-1 : Int32)) &&& (x - (1 : Int32))).toUInt32 >>> ((16 : Int32) &&& 31).toUInt32).toInt32).toUInt32 >>> ((4 : Int32) &&& 31).toUInt32).toInt32)), sI 21] [(.int (4 : Int32)), (.int ((((((x ^^^ (-1 : Int32)) &&& (x - (1 : Int32))).toUInt32 >>> ((16 : Int32) &&& 31).toUInt32).toInt32).toUInt32 >>> ((4 : Int32) &&& 31).toUInt32).toInt32))])) _
              refine XS.icmpNo X0.here hx rfl (hb hby dj33_48_64) rfl (tlt (show (4 : Int32) < ((((((x ^^^ (-1 : Int32)) &&& (x - (1 : Int32))).toUInt32 >>> ((16 : Int32) &&& 31).toUInt32).toInt32).toUInt32 >>> ((4 : Int32) &&& 31).toUInt32).toInt32) from q1117)).2.2.2 ?_
              refine XS.iinc X0.here hx rfl (hb hby dj33_48_67) rfl (l' := #[.val (.int ((((((x ^^^ (-1 : Int32)) &&& (x - (1 : Int32))).toUInt32 >>> ((16 : Int32) &&& 31).toUInt32).toInt32).toUInt32 >>> ((4 : Int32) &&& 31).toUInt32).toInt32)), sI 23]) rfl ?_
              refine XS.iloadN X0.here hx rfl (hb hby dj33_48_70) rfl ?_
              refine XS.iconst X0.here hx rfl (hb hby dj33_48_71) ?_
              refine XS.iushr X0.here hx rfl (hb hby dj33_48_72) rfl ?_
              refine XS.istoreN X0.here hx rfl (hb hby dj33_48_73) rfl (l' := #[.val (.int ((((((((x ^^^ (-1 : Int32)) &&& (x - (1 : Int32))).toUInt32 >>> ((16 : Int32) &&& 31).toUInt32).toInt32).toUInt32 >>> ((4 : Int32) &&& 31).toUInt32).toInt32).toUInt32 >>> ((2 : Int32) &&& 31).toUInt32).toInt32)), sI 23]) rfl ?_
              refine XS.iloadN X0.here hx rfl (hb hby dj33_48_74) rfl ?_
              refine XS.iloadN X0.here hx rfl (hb hby dj33_48_75) rfl ?_
              refine XS.iconst X0.here hx rfl (hb hby dj33_48_76) ?_
              refine XS.iushr X0.here hx rfl (hb hby dj33_48_77) rfl ?_
              refine XS.iadd X0.here hx rfl (hb hby dj33_48_78) rfl ?_
              show Sg p e below (s₁.setTop (mkF m 79 #[.val (.int ((((((((x ^^^ (-1 : Int32)) &&& (x - (1 : Int32))).toUInt32 >>> ((16 : Int32) &&& 31).toUInt32).toInt32).toUInt32 >>> ((4 : Int32) &&& 31).toUInt32).toInt32).toUInt32 >>> ((2 : Int32) &&& 31).toUInt32).toInt32)), sI 23] [(.int ((23 : Int32) + ((((((((((x ^^^ (-1 : Int32)) &&& (x - (1 : Int32))).toUInt32 >>> ((16 : Int32) &&& 31).toUInt32).toInt32).toUInt32 >>> ((4 : Int32) &&& 31).toUInt32).toInt32).toUInt32 >>> ((2 : Int32) &&& 31).toUInt32).toInt32).toUInt32 >>> ((1 : Int32) &&& 31).toUInt32).toInt32)))])) _
              exact retI X0 hx Bd.returns (hb hby dj33_48_79) hr1118
            · show Q_ntzi x h0 n0 _ s₁.heap _
              rw [e0]
              exact ⟨_, rfl, N0, rfl, ((if_pos q1099).trans ((if_pos q1101).trans ((if_neg q1103).trans ((if_pos q1115).trans ((if_pos q1117).trans (rfl)))))).symm⟩
          · skip
            obtain ⟨fs1119, hr1119, hrun1119, hended1119, hW1119, hsame1119⟩ := X0.leave (v := some (.int ((21 : Int32) + ((((((((x ^^^ (-1 : Int32)) &&& (x - (1 : Int32))).toUInt32 >>> ((16 : Int32) &&& 31).toUInt32).toInt32).toUInt32 >>> ((4 : Int32) &&& 31).toUInt32).toInt32).toUInt32 >>> ((1 : Int32) &&& 31).toUInt32).toInt32)))) (fun h => by rw [Bd.returns] at h; cases h)
            refine ⟨_, _, pre0 _ (P1116 _ ?_), hrun1119, hended1119, _, _, rfl, ?_, ⟨⟨_, rfl⟩, hW1119, hsame1119.mono (Nat.le_of_ble_eq_true rfl) (Nat.le_of_ble_eq_true rfl)⟩⟩
            · show Sg p e below (s₁.setTop (mkF m 64 #[.val (.int ((((((x ^^^ (-1 : Int32)) &&& (x - (1 : Int32))).toUInt32 >>> ((16 : Int32) &&& 31).toUInt32).toInt32).toUInt32 >>> ((4 : Int32) &&& 31).toUInt32).toInt32)), sI 21] [(.int (4 : Int32)), (.int ((((((x ^^^ (-1 : Int32)) &&& (x - (1 : Int32))).toUInt32 >>> ((16 : Int32) &&& 31).toUInt32).toInt32).toUInt32 >>> ((4 : Int32) &&& 31).toUInt32).toInt32))])) _
              refine XS.icmpYes X0.here hx rfl (pc0 := 64) (pc' := 74) rfl (hb hby dj33_48_64) rfl (flt (show ¬ ((4 : Int32) < ((((((x ^^^ (-1 : Int32)) &&& (x - (1 : Int32))).toUInt32 >>> ((16 : Int32) &&& 31).toUInt32).toInt32).toUInt32 >>> ((4 : Int32) &&& 31).toUInt32).toInt32)) from q1117)).2.2.2 (by decide) (by decide) ?_
              refine XS.iloadN X0.here hx rfl (hb hby dj33_48_74) rfl ?_
              refine XS.iloadN X0.here hx rfl (hb hby dj33_48_75) rfl ?_
              refine XS.iconst X0.here hx rfl (hb hby dj33_48_76) ?_
              refine XS.iushr X0.here hx rfl (hb hby dj33_48_77) rfl ?_
              refine XS.iadd X0.here hx rfl (hb hby dj33_48_78) rfl ?_
              show Sg p e below (s₁.setTop (mkF m 79 #[.val (.int ((((((x ^^^ (-1 : Int32)) &&& (x - (1 : Int32))).toUInt32 >>> ((16 : Int32) &&& 31).toUInt32).toInt32).toUInt32 >>> ((4 : Int32) &&& 31).toUInt32).toInt32)), sI 21] [(.int ((21 : Int32) + ((((((((x ^^^ (-1 : Int32)) &&& (x - (1 : Int32))).toUInt32 >>> ((16 : Int32) &&& 31).toUInt32).toInt32).toUInt32 >>> ((4 : Int32) &&& 31).toUInt32).toInt32).toUInt32 >>> ((1 : Int32) &&& 31).toUInt32).toInt32)))])) _
              exact retI X0 hx Bd.returns (hb hby dj33_48_79) hr1119
            · show Q_ntzi x h0 n0 _ s₁.heap _
              rw [e0]
              exact ⟨_, rfl, N0, rfl, ((if_pos q1099).trans ((if_pos q1101).trans ((if_neg q1103).trans ((if_pos q1115).trans ((if_neg q1117).trans (rfl)))))).symm⟩
        · skip
          have P1120 : Rg p e below (s₁.setTop (mkF m 64 #[.val (.int ((((x ^^^ (-1 : Int32)) &&& (x - (1 : Int32))).toUInt32 >>> ((16 : Int32) &&& 31).toUInt32).toInt32)), sI 17] [(.int (4 : Int32)), (.int ((((x ^^^ (-1 : Int32)) &&& (x - (1 : Int32))).toUInt32 >>> ((16 : Int32) &&& 31).toUInt32).toInt32))])) B0 := fun t k => P1114 t (by
            refine XS.icmpYes X0.here hx rfl (pc0 := 52) (pc' := 62) rfl (hb hby dj33_48_52) rfl (flt (show ¬ ((16 : Int32) < ((((x ^^^ (-1 : Int32)) &&& (x - (1 : Int32))).toUInt32 >>> ((16 : Int32) &&& 31).toUInt32).toInt32)) from q1115)).2.2.2 (by decide) (by decide) ?_
            refine XS.iloadN X0.here hx rfl (hb hby dj33_48_62) rfl ?_
            refine XS.iconst X0.here hx rfl (hb hby dj33_48_63) ?_
            show Sg p e below (s₁.setTop (mkF m 64 #[.val (.int ((((x ^^^ (-1 : Int32)) &&& (x - (1 : Int32))).toUInt32 >>> ((16 : Int32) &&& 31).toUInt32).toInt32)), sI 17] [(.int (4 : Int32)), (.int ((((x ^^^ (-1 : Int32)) &&& (x - (1 : Int32))).toUInt32 >>> ((16 : Int32) &&& 31).toUInt32).toInt32))])) _
            exact k)
          by_cases q1121 : (4 : Int32) < ((((x ^^^ (-1 : Int32)) &&& (x - (1 : Int32))).toUInt32 >>> ((16 : Int32) &&& 31).toUInt32).toInt32)
          · skip
            obtain ⟨fs1122, hr1122, hrun1122, hended1122, hW1122, hsame1122⟩ := X0.leave (v := some (.int ((19 : Int32) + ((((((((x ^^^ (-1 : Int32)) &&& (x - (1 : Int32))).toUInt32 >>> ((16 : Int32) &&& 31).toUInt32).toInt32).toUInt32 >>> ((2 : Int32) &&& 31).toUInt32).toInt32).toUInt32 >>> ((1 : Int32) &&& 31).toUInt32).toInt32)))) (fun h => by rw [Bd.returns] at h; cases h)
            refine ⟨_, _, pre0 _ (P1120 _ ?_), hrun1122, hended1122, _, _, rfl, ?_, ⟨⟨_, rfl⟩, hW1122, hsame1122.mono (Nat.le_of_ble_eq_true rfl) (Nat.le_of_ble_eq_true rfl)⟩⟩
            · show Sg p e below (s₁.setTop (mkF m 64 #[.val (.int ((((x ^^^ (-1 : Int32)) &&& (x - (1 : Int32))).toUInt32 >>> ((16 : Int32) &&& 31).toUInt32).toInt32)), sI 17] [(.int (4 : Int32)), (.int ((((x ^^^ (-1 : Int32)) &&& (x - (1 : Int32))).toUInt32 >>> ((16 : Int32) &&& 31).toUInt32).toInt32))])) _
              refine XS.icmpNo X0.here hx rfl (hb hby dj33_48_64) rfl (tlt (show (4 : Int32) < ((((x ^^^ (-1 : Int32)) &&& (x - (1 : Int32))).toUInt32 >>> ((16 : Int32) &&& 31).toUInt32).toInt32) from q1121)).2.2.2 ?_
              refine XS.iinc X0.here hx rfl (hb hby dj33_48_67) rfl (l' := #[.val (.int ((((x ^^^ (-1 : Int32)) &&& (x - (1 : Int32))).toUInt32 >>> ((16 : Int32) &&& 31).toUInt32).toInt32)), sI 19]) rfl ?_
              refine XS.iloadN X0.here hx rfl (hb hby dj33_48_70) rfl ?_
              refine XS.iconst X0.here hx rfl (hb hby dj33_48_71) ?_
              refine XS.iushr X0.here hx rfl (hb hby dj33_48_72) rfl ?_
              refine XS.istoreN X0.here hx rfl (hb hby dj33_48_73) rfl (l' := #[.val (.int ((((((x ^^^ (-1 : Int32)) &&& (x - (1 : Int32))).toUInt32 >>> ((16 : Int32) &&& 31).toUInt32).toInt32).toUInt32 >>> ((2 : Int32) &&& 31).toUInt32).toInt32)), sI 19]) rfl ?_
              refine XS.iloadN X0.here hx rfl (hb hby dj33_48_74) rfl ?_
              refine XS.iloadN X0.here hx rfl (hb hby dj33_48_75) rfl ?_
              refine XS.iconst X0.here hx rfl (hb hby dj33_48_76) ?_
              refine XS.iushr X0.here hx rfl (hb hby dj33_48_77) rfl ?_
              refine XS.iadd X0.here hx rfl (hb hby dj33_48_78) rfl ?_
              show Sg p e below (s₁.setTop (mkF m 79 #[.val (.int ((((((x ^^^ (-1 : Int32)) &&& (x - (1 : Int32))).toUInt32 >>> ((16 : Int32) &&& 31).toUInt32).toInt32).toUInt32 >>> ((2 : Int32) &&& 31).toUInt32).toInt32)), sI 19] [(.int ((19 : Int32) + ((((((((x ^^^ (-1 : Int32)) &&& (x - (1 : Int32))).toUInt32 >>> ((16 : Int32) &&& 31).toUInt32).toInt32).toUInt32 >>> ((2 : Int32) &&& 31).toUInt32).toInt32).toUInt32 >>> ((1 : Int32) &&& 31).toUInt32).toInt32)))])) _
              exact retI X0 hx Bd.returns (hb hby dj33_48_79) hr1122
            · show Q_ntzi x h0 n0 _ s₁.heap _
              rw [e0]
              exact ⟨_, rfl, N0, rfl, ((if_pos q1099).trans ((if_pos q1101).trans ((if_neg q1103).trans ((if_neg q1115).trans ((if_pos q1121).trans (rfl)))))).symm⟩
          · skip
            obtain ⟨fs1123, hr1123, hrun1123, hended1123, hW1123, hsame1123⟩ := X0.leave (v := some (.int ((17 : Int32) + ((((((x ^^^ (-1 : Int32)) &&& (x - (1 : Int32))).toUInt32 >>> ((16 : Int32) &&& 31).toUInt32).toInt32).toUInt32 >>> ((1 : Int32) &&& 31).toUInt32).toInt32)))) (fun h => by rw [Bd.returns] at h; cases h)
            refine ⟨_, _, pre0 _ (P1120 _ ?_), hrun1123, hended1123, _, _, rfl, ?_, ⟨⟨_, rfl⟩, hW1123, hsame1123.mono (Nat.le_of_ble_eq_true rfl) (Nat.le_of_ble_eq_true rfl)⟩⟩
            · show Sg p e below (s₁.setTop (mkF m 64 #[.val (.int ((((x ^^^ (-1 : Int32)) &&& (x - (1 : Int32))).toUInt32 >>> ((16 : Int32) &&& 31).toUInt32).toInt32)), sI 17] [(.int (4 : Int32)), (.int ((((x ^^^ (-1 : Int32)) &&& (x - (1 : Int32))).toUInt32 >>> ((16 : Int32) &&& 31).toUInt32).toInt32))])) _
              refine XS.icmpYes X0.here hx rfl (pc0 := 64) (pc' := 74) rfl (hb hby dj33_48_64) rfl (flt (show ¬ ((4 : Int32) < ((((x ^^^ (-1 : Int32)) &&& (x - (1 : Int32))).toUInt32 >>> ((16 : Int32) &&& 31).toUInt32).toInt32)) from q1121)).2.2.2 (by decide) (by decide) ?_
              refine XS.iloadN X0.here hx rfl (hb hby dj33_48_74) rfl ?_
              refine XS.iloadN X0.here hx rfl (hb hby dj33_48_75) rfl ?_
              refine XS.iconst X0.here hx rfl (hb hby dj33_48_76) ?_
              refine XS.iushr X0.here hx rfl (hb hby dj33_48_77) rfl ?_
              refine XS.iadd X0.here hx rfl (hb hby dj33_48_78) rfl ?_
              show Sg p e below (s₁.setTop (mkF m 79 #[.val (.int ((((x ^^^ (-1 : Int32)) &&& (x - (1 : Int32))).toUInt32 >>> ((16 : Int32) &&& 31).toUInt32).toInt32)), sI 17] [(.int ((17 : Int32) + ((((((x ^^^ (-1 : Int32)) &&& (x - (1 : Int32))).toUInt32 >>> ((16 : Int32) &&& 31).toUInt32).toInt32).toUInt32 >>> ((1 : Int32) &&& 31).toUInt32).toInt32)))])) _
              exact retI X0 hx Bd.returns (hb hby dj33_48_79) hr1123
            · show Q_ntzi x h0 n0 _ s₁.heap _
              rw [e0]
              exact ⟨_, rfl, N0, rfl, ((if_pos q1099).trans ((if_pos q1101).trans ((if_neg q1103).trans ((if_neg q1115).trans ((if_neg q1121).trans (rfl)))))).symm⟩
    · skip
      have P1124 : Rg p e below (s₁.setTop (mkF m 38 #[.val (.int ((x ^^^ (-1 : Int32)) &&& (x - (1 : Int32)))), sI 1] [(.int (256 : Int32)), (.int ((x ^^^ (-1 : Int32)) &&& (x - (1 : Int32))))])) B0 := fun t k => P1100 t (by
        refine XS.icmpYes X0.here hx rfl (pc0 := 23) (pc' := 34) rfl (hb hby dj33_48_23) rfl (flt (show ¬ ((65536 : Int32) < ((x ^^^ (-1 : Int32)) &&& (x - (1 : Int32)))) from q1101)).2.2.2 (by decide) (by decide) ?_
        refine XS.iloadN X0.here hx rfl (hb hby dj33_48_34) rfl ?_
        refine XS.sipush X0.here hx rfl (hb hby dj33_48_35) ?_
        show Sg p e below (s₁.setTop (mkF m 38 #[.val (.int ((x ^^^ (-1 : Int32)) &&& (x - (1 : Int32)))), sI 1] [(.int (256 : Int32)), (.int ((x ^^^ (-1 : Int32)) &&& (x - (1 : Int32))))])) _
        exact k)
      by_cases q1125 : (256 : Int32) < ((x ^^^ (-1 : Int32)) &&& (x - (1 : Int32)))
      · skip
        have P1126 : Rg p e below (s₁.setTop (mkF m 52 #[.val (.int ((((x ^^^ (-1 : Int32)) &&& (x - (1 : Int32))).toUInt32 >>> ((8 : Int32) &&& 31).toUInt32).toInt32)), sI 9] [(.int (16 : Int32)), (.int ((((x ^^^ (-1 : Int32)) &&& (x - (1 : Int32))).toUInt32 >>> ((8 : Int32) &&& 31).toUInt32).toInt32))])) B0 := fun t k => P1124 t (by
          refine XS.icmpNo X0.here hx rfl (hb hby dj33_48_38) rfl (tlt (show (256 : Int32) < ((x ^^^ (-1 : Int32)) &&& (x - (1 : Int32))) from q1125)).2.2.2 ?_
          refine XS.iinc X0.here hx rfl (hb hby dj33_48_41) rfl (l' := #[.val (.int ((x ^^^ (-1 : Int32)) &&& (x - (1 : Int32)))), sI 9]) rfl ?_
          refine XS.iloadN X0.here hx rfl (hb hby dj33_48_44) rfl ?_
          refine XS.bipush X0.here hx rfl (hb hby dj33_48_45) ?_
          refine XS.iushr X0.here hx rfl (hb hby dj33_48_47) rfl ?_
          refine XS.istoreN X0.here hx rfl (hb hby dj33_48_48) rfl (l' := #[.val (.int ((((x ^^^ (-1 : Int32)) &&& (x - (1 : Int32))).toUInt32 >>> ((8 : Int32) &&& 31).toUInt32).toInt32)), sI 9]) rfl ?_
          refine XS.iloadN X0.here hx rfl (hb hby dj33_48_49) rfl ?_
          refine XS.bipush X0.here hx rfl (hb hby dj33_48_50) ?_
          show Sg p e below (s₁.setTop (mkF m 52 #[.val (.int ((((x ^^^ (-1 : Int32)) &&& (x - (1 : Int32))).toUInt32 >>> ((8 : Int32) &&& 31).toUInt32).toInt32)), sI 9] [(.int (16 : Int32)), (.int ((((x ^^^ (-1 : Int32)) &&& (x - (1 : Int32))).toUInt32 >>> ((8 : Int32) &&& 31).toUInt32).toInt32))])) _
          exact k)
        by_cases q1127 : (16 : Int32) < ((((x ^^^ (-1 : Int32)) &&& (x - (1 : Int32))).toUInt32 >>> ((8 : Int32) &&& 31).toUInt32).toInt32)
        · skip
          have P1128 : Rg p e below (s₁.setTop (mkF m 64 #[.val (.int ((((((x ^^^ (-1 : Int32)) &&& (x - (1 : Int32))).toUInt32 >>> ((8 : Int32) &&& 31).toUInt32).toInt32).toUInt32 >>> ((4 : Int32) &&& 31).toUInt32).toInt32)), sI 13] [(.int (4 : Int32)), (.int ((((((x ^^^ (-1 : Int32)) &&& (x - (1 : Int32))).toUInt32 >>> ((8 : Int32) &&& 31).toUInt32).toInt32).toUInt32 >>> ((4 : Int32) &&& 31).toUInt32).toInt32))])) B0 := fun t k => P1126 t (by
            refine XS.icmpNo X0.here hx rfl (hb hby dj33_48_52) rfl (tlt (show (16 : Int32) < ((((x ^^^ (-1 : Int32)) &&& (x - (1 : Int32))).toUInt32 >>> ((8 : Int32) &&& 31).toUInt32).toInt32) from q1127)).2.2.2 ?_
            refine XS.iinc X0.here hx rfl (hb hby dj33_48_55) rfl (l' := #[.val (.int ((((x ^^^ (-1 : Int32)) &&& (x - (1 : Int32))).toUInt32 >>> ((8 : Int32) &&& 31).toUInt32).toInt32)), sI 13]) rfl ?_
            refine XS.iloadN X0.here hx rfl (hb hby dj33_48_58) rfl ?_
            refine XS.iconst X0.here hx rfl (hb hby dj33_48_59) ?_
            refine XS.iushr X0.here hx rfl (hb hby dj33_48_60) rfl ?_
            refine XS.istoreN X0.here hx rfl (hb hby dj33_48_61) rfl (l' := #[.val (.int ((((((x ^^^ (-1 : Int32)) &&& (x - (1 : Int32))).toUInt32 >>> ((8 : Int32) &&& 31).toUInt32).toInt32).toUInt32 >>> ((4 : Int32) &&& 31).toUInt32).toInt32)), sI 13]) rfl ?_
            refine XS.iloadN X0.here hx rfl (hb hby dj33_48_62) rfl ?_
            refine XS.iconst X0.here hx rfl (hb hby dj33_48_63) ?_
            show Sg p e below (s₁.setTop (mkF m 64 #[.val (.int ((((((x ^^^ (-1 : Int32)) &&& (x - (1 : Int32))).toUInt32 >>> ((8 : Int32) &&& 31).toUInt32).toInt32).toUInt32 >>> ((4 : Int32) &&& 31).toUInt32).toInt32)), sI 13] [(.int (4 : Int32)), (.int ((((((x ^^^ (-1 : Int32)) &&& (x - (1 : Int32))).toUInt32 >>> ((8 : Int32) &&& 31).toUInt32).toInt32).toUInt32 >>> ((4 : Int32) &&& 31).toUInt32).toInt32))])) _
            exact k)
          by_cases q1129 : (4 : Int32) < ((((((x ^^^ (-1 : Int32)) &&& (x - (1 : Int32))).toUInt32 >>> ((8 : Int32) &&& 31).toUInt32).toInt32).toUInt32 >>> ((4 : Int32) &&& 31).toUInt32).toInt32)
          · skip
            obtain ⟨fs1130, hr1130, hrun1130, hended1130, hW1130, hsame1130⟩ := X0.leave (v := some (.int ((15 : Int32) + ((((((((((x ^^^ (-1 : Int32)) &&& (x - (1 : Int32))).toUInt32 >>> ((8 : Int32) &&& 31).toUInt32).toInt32).toUInt32 >>> ((4 : Int32) &&& 31).toUInt32).toInt32).toUInt32 >>> ((2 : Int32) &&& 31).toUInt32).toInt32).toUInt32 >>> ((1 : Int32) &&& 31).toUInt32).toInt32)))) (fun h => by rw [Bd.returns] at h; cases h)
            refine ⟨_, _, pre0 _ (P1128 _ ?_), hrun1130, hended1130, _, _, rfl, ?_, ⟨⟨_, rfl⟩, hW1130, hsame1130.mono (Nat.le_of_ble_eq_true rfl) (Nat.le_of_ble_eq_true rfl)⟩⟩
            · show Sg p e below (s₁.setTop (mkF m 64 #[.val (.int ((((((x ^^^ (-1 : Int32)) &&& (x - (1 : Int32))).toUInt32 >>> ((8 : Int32) &&& 31).toUInt32).toInt32).toUInt32 >>> ((4 : Int32) &&& 31).toUInt32).toInt32)), sI 13] [(.int (4 : Int32)), (.int ((((((x ^^^ (-1 : Int32)) &&& (x - (1 : Int32))).toUInt32 >>> ((8 : Int32) &&& 31).toUInt32).toInt32).toUInt32 >>> ((4 : Int32) &&& 31).toUInt32).toInt32))])) _
              refine XS.icmpNo X0.here hx rfl (hb hby dj33_48_64) rfl (tlt (show (4 : Int32) < ((((((x ^^^ (-1 : Int32)) &&& (x - (1 : Int32))).toUInt32 >>> ((8 : Int32) &&& 31).toUInt32).toInt32).toUInt32 >>> ((4 : Int32) &&& 31).toUInt32).toInt32) from q1129)).2.2.2 ?_
              refine XS.iinc X0.here hx rfl (hb hby dj33_48_67) rfl (l' := #[.val (.int ((((((x ^^^ (-1 : Int32)) &&& (x - (1 : Int32))).toUInt32 >>> ((8 : Int32) &&& 31).toUInt32).toInt32).toUInt32 >>> ((4 : Int32) &&& 31).toUInt32).toInt32)), sI 15]) rfl ?_
              refine XS.iloadN X0.here hx rfl (hb hby dj33_48_70) rfl ?_
              refine XS.iconst X0.here hx rfl (hb hby dj33_48_71) ?_
              refine XS.iushr X0.here hx rfl (hb hby dj33_48_72) rfl ?_
              refine XS.istoreN X0.here hx rfl (hb hby dj33_48_73) rfl (l' := #[.val (.int ((((((((x ^^^ (-1 : Int32)) &&& (x - (1 : Int32))).toUInt32 >>> ((8 : Int32) &&& 31).toUInt32).toInt32).toUInt32 >>> ((4 : Int32) &&& 31).toUInt32).toInt32).toUInt32 >>> ((2 : Int32) &&& 31).toUInt32).toInt32)), sI 15]) rfl ?_
              refine XS.iloadN X0.here hx rfl (hb hby dj33_48_74) rfl ?_
              refine XS.iloadN X0.here hx rfl (hb hby dj33_48_75) rfl ?_
              refine XS.iconst X0.here hx rfl (hb hby dj33_48_76) ?_
              refine XS.iushr X0.here hx rfl (hb hby dj33_48_77) rfl ?_
              refine XS.iadd X0.here hx rfl (hb hby dj33_48_78) rfl ?_
              show Sg p e below (s₁.setTop (mkF m 79 #[.val (.int ((((((((x ^^^ (-1 : Int32)) &&& (x - (1 : Int32))).toUInt32 >>> ((8 : Int32) &&& 31).toUInt32).toInt32).toUInt32 >>> ((4 : Int32) &&& 31).toUInt32).toInt32).toUInt32 >>> ((2 : Int32) &&& 31).toUInt32).toInt32)), sI 15] [(.int ((15 : Int32) + ((((((((((x ^^^ (-1 : Int32)) &&& (x - (1 : Int32))).toUInt32 >>> ((8 : Int32) &&& 31).toUInt32).toInt32).toUInt32 >>> ((4 : Int32) &&& 31).toUInt32).toInt32).toUInt32 >>> ((2 : Int32) &&& 31).toUInt32).toInt32).toUInt32 >>> ((1 : Int32) &&& 31).toUInt32).toInt32)))])) _
              exact retI X0 hx Bd.returns (hb hby dj33_48_79) hr1130
            · show Q_ntzi x h0 n0 _ s₁.heap _
              rw [e0]
              exact ⟨_, rfl, N0, rfl, ((if_pos q1099).trans ((if_neg q1101).trans ((if_pos q1125).trans ((if_pos q1127).trans ((if_pos q1129).trans (rfl)))))).symm⟩
          · skip
            obtain ⟨fs1131, hr1131, hrun1131, hended1131, hW1131, hsame1131⟩ := X0.leave (v := some (.int ((13 : Int32) + ((((((((x ^^^ (-1 : Int32)) &&& (x - (1 : Int32))).toUInt32 >>> ((8 : Int32) &&& 31).toUInt32).toInt32).toUInt32 >>> ((4 : Int32) &&& 31).toUInt32).toInt32).toUInt32 >>> ((1 : Int32) &&& 31).toUInt32).toInt32)))) (fun h => by rw [Bd.returns] at h; cases h)
            refine ⟨_, _, pre0 _ (P1128 _ ?_), hrun1131, hended1131, _, _, rfl, ?_, ⟨⟨_, rfl⟩, hW1131, hsame1131.mono (Nat.le_of_ble_eq_true rfl) (Nat.le_of_ble_eq_true rfl)⟩⟩
            · show Sg p e below (s₁.setTop (mkF m 64 #[.val (.int ((((((x ^^^ (-1 : Int32)) &&& (x - (1 : Int32))).toUInt32 >>> ((8 : Int32) &&& 31).toUInt32).toInt32).toUInt32 >>> ((4 : Int32) &&& 31).toUInt32).toInt32)), sI 13] [(.int (4 : Int32)), (.int ((((((x ^^^ (-1 : Int32)) &&& (x - (1 : Int32))).toUInt32 >>> ((8 : Int32) &&& 31).toUInt32).toInt32).toUInt32 >>> ((4 : Int32) &&& 31).toUInt32).toInt32))])) _
              refine XS.icmpYes X0.here hx rfl (pc0 := 64) (pc' := 74) rfl (hb hby dj33_48_64) rfl (flt (show ¬ ((4 : Int32) < ((((((x ^^^ (-1 : Int32)) &&& (x - (1 : Int32))).toUInt32 >>> ((8 : Int32) &&& 31).toUInt32).toInt32).toUInt32 >>> ((4 : Int32) &&& 31).toUInt32).toInt32)) from q1129)).2.2.2 (by decide) (by decide) ?_
              refine XS.iloadN X0.here hx rfl (hb hby dj33_48_74) rfl ?_
              refine XS.iloadN X0.here hx rfl (hb hby dj33_48_75) rfl ?_
              refine XS.iconst X0.here hx rfl (hb hby dj33_48_76) ?_
              refine XS.iushr X0.here hx rfl (hb hby dj33_48_77) rfl ?_
              refine XS.iadd X0.here hx rfl (hb hby dj33_48_78) rfl ?_
              show Sg p e below (s₁.setTop (mkF m 79 #[.val (.int ((((((x ^^^ (-1 : Int32)) &&& (x - (1 : Int32))).toUInt32 >>> ((8 : Int32) &&& 31).toUInt32).toInt32).toUInt32 >>> ((4 : Int32) &&& 31).toUInt32).toInt32)), sI 13] [(.int ((13 : Int32) + ((((((((x ^^^ (-1 : Int32)) &&& (x - (1 : Int32))).toUInt32 >>> ((8 : Int32) &&& 31).toUInt32).toInt32).toUInt32 >>> ((4 : Int32) &&& 31).toUInt32).toInt32).toUInt32 >>> ((1 : Int32) &&& 31).toUInt32).toInt32)))])) _
              exact retI X0 hx Bd.returns (hb hby dj33_48_79) hr1131
            · show Q_ntzi x h0 n0 _ s₁.heap _
              rw [e0]
              exact ⟨_, rfl, N0, rfl, ((if_pos q1099).trans ((if_neg q1101).trans ((if_pos q1125).trans ((if_pos q1127).trans ((if_neg q1129).trans (rfl)))))).symm⟩
        · skip
          have P1132 : Rg p e below (s₁.setTop (mkF m 64 #[.val (.int ((((x ^^^ (-1 : Int32)) &&& (x - (1 : Int32))).toUInt32 >>> ((8 : Int32) &&& 31).toUInt32).toInt32)), sI 9] [(.int (4 : Int32)), (.int ((((x ^^^ (-1 : Int32)) &&& (x - (1 : Int32))).toUInt32 >>> ((8 : Int32) &&& 31).toUInt32).toInt32))])) B0 := fun t k => P1126 t (by
            refine XS.icmpYes X0.here hx rfl (pc0 := 52) (pc' := 62) rfl (hb hby dj33_48_52) rfl (flt (show ¬ ((16 : Int32) < ((((x ^^^ (-1 : Int32)) &&& (x - (1 : Int32))).toUInt32 >>> ((8 : Int32) &&& 31).toUInt32).toInt32)) from q1127)).2.2.2 (by decide) (by decide) ?_
            refine XS.iloadN X0.here hx rfl (hb hby dj33_48_62) rfl ?_
            refine XS.iconst X0.here hx rfl (hb hby dj33_48_63) ?_
            show Sg p e below (s₁.setTop (mkF m 64 #[.val (.int ((((x ^^^ (-1 : Int32)) &&& (x - (1 : Int32))).toUInt32 >>> ((8 : Int32) &&& 31).toUInt32).toInt32)), sI 9] [(.int (4 : Int32)), (.int ((((x ^^^ (-1 : Int32)) &&& (x - (1 : Int32))).toUInt32 >>> ((8 : Int32) &&& 31).toUInt32).toInt32))])) _
            exact k)
          by_cases q1133 : (4 : Int32) < ((((x ^^^ (-1 : Int32)) &&& (x - (1 : Int32))).toUInt32 >>> ((8 : Int32) &&& 31).toUInt32).toInt32)
          · skip
            obtain ⟨fs1134, hr1134, hrun1134, hended1134, hW1134, hsame1134⟩ := X0.leave (v := some (.int ((11 : Int32) + ((((((((x ^^^ (-1 : Int32)) &&& (x - (1 : Int32))).toUInt32 >>> ((8 : Int32) &&& 31).toUInt32).toInt32).toUInt32 >>> ((2 : Int32) &&& 31).toUInt32).toInt32).toUInt32 >>> ((1 : Int32) &&& 31).toUInt32).toInt32)))) (fun h => by rw [Bd.returns] at h; cases h)
            refine ⟨_, _, pre0 _ (P1132 _ ?_), hrun1134, hended1134, _, _, rfl, ?_, ⟨⟨_, rfl⟩, hW1134, hsame1134.mono (Nat.le_of_ble_eq_true rfl) (Nat.le_of_ble_eq_true rfl)⟩⟩
            · show Sg p e below (s₁.setTop (mkF m 64 #[.val (.int ((((x ^^^ (-1 : Int32)) &&& (x - (1 : Int32))).toUInt32 >>> ((8 : Int32) &&& 31).toUInt32).toInt32)), sI 9] [(.int (4 : Int32)), (.int ((((x ^^^ (-1 : Int32)) &&& (x - (1 : Int32))).toUInt32 >>> ((8 : Int32) &&& 31).toUInt32).toInt32))])) _
              refine XS.icmpNo X0.here hx rfl (hb hby dj33_48_64) rfl (tlt (show (4 : Int32) < ((((x ^^^ (-1 : Int32)) &&& (x - (1 : Int32))).toUInt32 >>> ((8 : Int32) &&& 31).toUInt32).toInt32) from q1133)).2.2.2 ?_
              refine XS.iinc X0.here hx rfl (hb hby dj33_48_67) rfl (l' := #[.val (.int ((((x ^^^ (-1 : Int32)) &&& (x - (1 : Int32))).toUInt32 >>> ((8 : Int32) &&& 31).toUInt32).toInt32)), sI 11]) rfl ?_
              refine XS.iloadN X0.here hx rfl (hb hby dj33_48_70) rfl ?_
              refine XS.iconst X0.here hx rfl (hb hby dj33_48_71) ?_
              refine XS.iushr X0.here hx rfl (hb hby dj33_48_72) rfl ?_
              refine XS.istoreN X0.here hx rfl (hb hby dj33_48_73) rfl (l' := #[.val (.int ((((((x ^^^ (-1 : Int32)) &&& (x - (1 : Int32))).toUInt32 >>> ((8 : Int32) &&& 31).toUInt32).toInt32).toUInt32 >>> ((2 : Int32) &&& 31).toUInt32).toInt32)), sI 11]) rfl ?_
              refine XS.iloadN X0.here hx rfl (hb hby dj33_48_74) rfl ?_
              refine XS.iloadN X0.here hx rfl (hb hby dj33_48_75) rfl ?_
              refine XS.iconst X0.here hx rfl (hb hby dj33_48_76) ?_
              refine XS.iushr X0.here hx rfl (hb hby dj33_48_77) rfl ?_
              refine XS.iadd X0.here hx rfl (hb hby dj33_48_78) rfl ?_
              show Sg p e below (s₁.setTop (mkF m 79 #[.val (.int ((((((x ^^^ (-1 : Int32)) &&& (x - (1 : Int32))).toUInt32 >>> ((8 : Int32) &&& 31).toUInt32).toInt32).toUInt32 >>> ((2 : Int32) &&& 31).toUInt32).toInt32)), sI 11] [(.int ((11 : Int32) + ((((((((x ^^^ (-1 : Int32)) &&& (x - (1 : Int32))).toUInt32 >>> ((8 : Int32) &&& 31).toUInt32).toInt32).toUInt32 >>> ((2 : Int32) &&& 31).toUInt32).toInt32).toUInt32 >>> ((1 : Int32) &&& 31).toUInt32).toInt32)))])) _
              exact retI X0 hx Bd.returns (hb hby dj33_48_79) hr1134
            · show Q_ntzi x h0 n0 _ s₁.heap _
              rw [e0]
              exact ⟨_, rfl, N0, rfl, ((if_pos q1099).trans ((if_neg q1101).trans ((if_pos q1125).trans ((if_neg q1127).trans ((if_pos q1133).trans (rfl)))))).symm⟩
          · skip
            obtain ⟨fs1135, hr1135, hrun1135, hended1135, hW1135, hsame1135⟩ := X0.leave (v := some (.int ((9 : Int32) + ((((((x ^^^ (-1 : Int32)) &&& (x - (1 : Int32))).toUInt32 >>> ((8 : Int32) &&& 31).toUInt32).toInt32).toUInt32 >>> ((1 : Int32) &&& 31).toUInt32).toInt32)))) (fun h => by rw [Bd.returns] at h; cases h)
            refine ⟨_, _, pre0 _ (P1132 _ ?_), hrun1135, hended1135, _, _, rfl, ?_, ⟨⟨_, rfl⟩, hW1135, hsame1135.mono (Nat.le_of_ble_eq_true rfl) (Nat.le_of_ble_eq_true rfl)⟩⟩
            · show Sg p e below (s₁.setTop (mkF m 64 #[.val (.int ((((x ^^^ (-1 : Int32)) &&& (x - (1 : Int32))).toUInt32 >>> ((8 : Int32) &&& 31).toUInt32).toInt32)), sI 9] [(.int (4 : Int32)), (.int ((((x ^^^ (-1 : Int32)) &&& (x - (1 : Int32))).toUInt32 >>> ((8 : Int32) &&& 31).toUInt32).toInt32))])) _
              refine XS.icmpYes X0.here hx rfl (pc0 := 64) (pc' := 74) rfl (hb hby dj33_48_64) rfl (flt (show ¬ ((4 : Int32) < ((((x ^^^ (-1 : Int32)) &&& (x - (1 : Int32))).toUInt32 >>> ((8 : Int32) &&& 31).toUInt32).toInt32)) from q1133)).2.2.2 (by decide) (by decide) ?_
              refine XS.iloadN X0.here hx rfl (hb hby dj33_48_74) rfl ?_
              refine XS.iloadN X0.here hx rfl (hb hby dj33_48_75) rfl ?_
              refine XS.iconst X0.here hx rfl (hb hby dj33_48_76) ?_
              refine XS.iushr X0.here hx rfl (hb hby dj33_48_77) rfl ?_
              refine XS.iadd X0.here hx rfl (hb hby dj33_48_78) rfl ?_
              show Sg p e below (s₁.setTop (mkF m 79 #[.val (.int ((((x ^^^ (-1 : Int32)) &&& (x - (1 : Int32))).toUInt32 >>> ((8 : Int32) &&& 31).toUInt32).toInt32)), sI 9] [(.int ((9 : Int32) + ((((((x ^^^ (-1 : Int32)) &&& (x - (1 : Int32))).toUInt32 >>> ((8 : Int32) &&& 31).toUInt32).toInt32).toUInt32 >>> ((1 : Int32) &&& 31).toUInt32).toInt32)))])) _
              exact retI X0 hx Bd.returns (hb hby dj33_48_79) hr1135
            · show Q_ntzi x h0 n0 _ s₁.heap _
              rw [e0]
              exact ⟨_, rfl, N0, rfl, ((if_pos q1099).trans ((if_neg q1101).trans ((if_pos q1125).trans ((if_neg q1127).trans ((if_neg q1133).trans (rfl)))))).symm⟩
      · skip
        have P1136 : Rg p e below (s₁.setTop (mkF m 52 #[.val (.int ((x ^^^ (-1 : Int32)) &&& (x - (1 : Int32)))), sI 1] [(.int (16 : Int32)), (.int ((x ^^^ (-1 : Int32)) &&& (x - (1 : Int32))))])) B0 := fun t k => P1124 t (by
          refine XS.icmpYes X0.here hx rfl (pc0 := 38) (pc' := 49) rfl (hb hby dj33_48_38) rfl (flt (show ¬ ((256 : Int32) < ((x ^^^ (-1 : Int32)) &&& (x - (1 : Int32)))) from q1125)).2.2.2 (by decide) (by decide) ?_
          refine XS.iloadN X0.here hx rfl (hb hby dj33_48_49) rfl ?_
          refine XS.bipush X0.here hx rfl (hb hby dj33_48_50) ?_
          show Sg p e below (s₁.setTop (mkF m 52 #[.val (.int ((x ^^^ (-1 : Int32)) &&& (x - (1 : Int32)))), sI 1] [(.int (16 : Int32)), (.int ((x ^^^ (-1 : Int32)) &&& (x - (1 : Int32))))])) _
          exact k)
        by_cases q1137 : (16 : Int32) < ((x ^^^ (-1 : Int32)) &&& (x - (1 : Int32)))
        · skip
          have P1138 : Rg p e below (s₁.setTop (mkF m 64 #[.val (.int ((((x ^^^ (-1 : Int32)) &&& (x - (1 : Int32))).toUInt32 >>> ((4 : Int32) &&& 31).toUInt32).toInt32)), sI 5] [(.int (4 : Int32)), (.int ((((x ^^^ (-1 : Int32)) &&& (x - (1 : Int32))).toUInt32 >>> ((4 : Int32) &&& 31).toUInt32).toInt32))])) B0 := fun t k => P1136 t (by
            refine XS.icmpNo X0.here hx rfl (hb hby dj33_48_52) rfl (tlt (show (16 : Int32) < ((x ^^^ (-1 : Int32)) &&& (x - (1 : Int32))) from q1137)).2.2.2 ?_
            refine XS.iinc X0.here hx rfl (hb hby dj33_48_55) rfl (l' := #[.val (.int ((x ^^^ (-1 : Int32)) &&& (x - (1 : Int32)))), sI 5]) rfl ?_
            refine XS.iloadN X0.here hx rfl (hb hby dj33_48_58) rfl ?_
            refine XS.iconst X0.here hx rfl (hb hby dj33_48_59) ?_
            refine XS.iushr X0.here hx rfl (hb hby dj33_48_60) rfl ?_
            refine XS.istoreN X0.here hx rfl (hb hby dj33_48_61) rfl (l' := #[.val (.int ((((x ^^^ (-1 : Int32)) &&& (x - (1 : Int32))).toUInt32 >>> ((4 : Int32) &&& 31).toUInt32).toInt32)), sI 5]) rfl ?_
            refine XS.iloadN X0.here hx rfl (hb hby dj33_48_62) rfl ?_
            refine XS.iconst X0.here hx rfl (hb hby dj33_48_63) ?_
            show Sg p e below (s₁.setTop (mkF m 64 #[.val (.int ((((x ^^^ (-1 : Int32)) &&& (x - (1 : Int32))).toUInt32 >>> ((4 : Int32) &&& 31).toUInt32).toInt32)), sI 5] [(.int (4 : Int32)), (.int ((((x ^^^ (-1 : Int32)) &&& (x - (1 : Int32))).toUInt32 >>> ((4 : Int32) &&& 31).toUInt32).toInt32))])) _
            exact k)
          by_cases q1139 : (4 : Int32) < ((((x ^^^ (-1 : Int32)) &&& (x - (1 : Int32))).toUInt32 >>> ((4 : Int32) &&& 31).toUInt32).toInt32)
          · skip
            obtain ⟨fs1140, hr1140, hrun1140, hended1140, hW1140, hsame1140⟩ := X0.leave (v := some (.int ((7 : Int32) + ((((((((x ^^^ (-1 : Int32)) &&& (x - (1 : Int32))).toUInt32 >>> ((4 : Int32) &&& 31).toUInt32).toInt32).toUInt32 >>> ((2 : Int32) &&& 31).toUInt32).toInt32).toUInt32 >>> ((1 : Int32) &&& 31).toUInt32).toInt32)))) (fun h => by rw [Bd.returns] at h; cases h)
            refine ⟨_, _, pre0 _ (P1138 _ ?_), hrun1140, hended1140, _, _, rfl, ?_, ⟨⟨_, rfl⟩, hW1140, hsame1140.mono (Nat.le_of_ble_eq_true rfl) (Nat.le_of_ble_eq_true rfl)⟩⟩
            · show Sg p e below (s₁.setTop (mkF m 64 #[.val (.int ((((x ^^^ (-1 : Int32)) &&& (x - (1 : Int32))).toUInt32 >>> ((4 : Int32) &&& 31).toUInt32).toInt32)), sI 5] [(.int (4 : Int32)), (.int ((((x ^^^ (-1 : Int32)) &&& (x - (1 : Int32))).toUInt32 >>> ((4 : Int32) &&& 31).toUInt32).toInt32))])) _
              refine XS.icmpNo X0.here hx rfl (hb hby dj33_48_64) rfl (tlt (show (4 : Int32) < ((((x ^^^ (-1 : Int32)) &&& (x - (1 : Int32))).toUInt32 >>> ((4 : Int32) &&& 31).toUInt32).toInt32) from q1139)).2.2.2 ?_
              refine XS.iinc X0.here hx rfl (hb hby dj33_48_67) rfl (l' := #[.val (.int ((((x ^^^ (-1 : Int32)) &&& (x - (1 : Int32))).toUInt32 >>> ((4 : Int32) &&& 31).toUInt32).toInt32)), sI 7]) rfl ?_
              refine XS.iloadN X0.here hx rfl (hb hby dj33_48_70) rfl ?_
              refine XS.iconst X0.here hx rfl (hb hby dj33_48_71) ?_
              refine XS.iushr X0.here hx rfl (hb hby dj33_48_72) rfl ?_
              refine XS.istoreN X0.here hx rfl (hb hby dj33_48_73) rfl (l' := #[.val (.int ((((((x ^^^ (-1 : Int32)) &&& (x - (1 : Int32))).toUInt32 >>> ((4 : Int32) &&& 31).toUInt32).toInt32).toUInt32 >>> ((2 : Int32) &&& 31).toUInt32).toInt32)), sI 7]) rfl ?_
              refine XS.iloadN X0.here hx rfl (hb hby dj33_48_74) rfl ?_
              refine XS.iloadN X0.here hx rfl (hb hby dj33_48_75) rfl ?_
              refine XS.iconst X0.here hx rfl (hb hby dj33_48_76) ?_
              refine XS.iushr X0.here hx rfl (hb hby dj33_48_77) rfl ?_
              refine XS.iadd X0.here hx rfl (hb hby dj33_48_78) rfl ?_
              show Sg p e below (s₁.setTop (mkF m 79 #[.val (.int ((((((x ^^^ (-1 : Int32)) &&& (x - (1 : Int32))).toUInt32 >>> ((4 : Int32) &&& 31).toUInt32).toInt32).toUInt32 >>> ((2 : Int32) &&& 31).toUInt32).toInt32)), sI 7] [(.int ((7 : Int32) + ((((((((x ^^^ (-1 : Int32)) &&& (x - (1 : Int32))).toUInt32 >>> ((4 : Int32) &&& 31).toUInt32).toInt32).toUInt32 >>> ((2 : Int32) &&& 31).toUInt32).toInt32).toUInt32 >>> ((1 : Int32) &&& 31).toUInt32).toInt32)))])) _
              exact retI X0 hx Bd.returns (hb hby dj33_48_79) hr1140
            · show Q_ntzi x h0 n0 _ s₁.heap _
              rw [e0]
              exact ⟨_, rfl, N0, rfl, ((if_pos q1099).trans ((if_neg q1101).trans ((if_neg q1125).trans ((if_pos q1137).trans ((if_pos q1139).trans (rfl)))))).symm⟩
          · skip
            obtain ⟨fs1141, hr1141, hrun1141, hended1141, hW1141, hsame1141⟩ := X0.leave (v := some (.int ((5 : Int32) + ((((((x ^^^ (-1 : Int32)) &&& (x - (1 : Int32))).toUInt32 >>> ((4 : Int32) &&& 31).toUInt32).toInt32).toUInt32 >>> ((1 : Int32) &&& 31).toUInt32).toInt32)))) (fun h => by rw [Bd.returns] at h; cases h)
            refine ⟨_, _, pre0 _ (P1138 _ ?_), hrun1141, hended1141, _, _, rfl, ?_, ⟨⟨_, rfl⟩, hW1141, hsame1141.mono (Nat.le_of_ble_eq_true rfl) (Nat.le_of_ble_eq_true rfl)⟩⟩
            · show Sg p e below (s₁.setTop (mkF m 64 #[.val (.int ((((x ^^^ (-1 : Int32)) &&& (x - (1 : Int32))).toUInt32 >>> ((4 : Int32) &&& 31).toUInt32).toInt32)), sI 5] [(.int (4 : Int32)), (.int ((((x ^^^ (-1 : Int32)) &&& (x - (1 : Int32))).toUInt32 >>> ((4 : Int32) &&& 31).toUInt32).toInt32))])) _
              refine XS.icmpYes X0.here hx rfl (pc0 := 64) (pc' := 74) rfl (hb hby dj33_48_64) rfl (flt (show ¬ ((4 : Int32) < ((((x ^^^ (-1 : Int32)) &&& (x - (1 : Int32))).toUInt32 >>> ((4 : Int32) &&& 31).toUInt32).toInt32)) from q1139)).2.2.2 (by decide) (by decide) ?_
              refine XS.iloadN X0.here hx rfl (hb hby dj33_48_74) rfl ?_
              refine XS.iloadN X0.here hx rfl (hb hby dj33_48_75) rfl ?_
              refine XS.iconst X0.here hx rfl (hb hby dj33_48_76) ?_
              refine XS.iushr X0.here hx rfl (hb hby dj33_48_77) rfl ?_
              refine XS.iadd X0.here hx rfl (hb hby dj33_48_78) rfl ?_
              show Sg p e below (s₁.setTop (mkF m 79 #[.val (.int ((((x ^^^ (-1 : Int32)) &&& (x - (1 : Int32))).toUInt32 >>> ((4 : Int32) &&& 31).toUInt32).toInt32)), sI 5] [(.int ((5 : Int32) + ((((((x ^^^ (-1 : Int32)) &&& (x - (1 : Int32))).toUInt32 >>> ((4 : Int32) &&& 31).toUInt32).toInt32).toUInt32 >>> ((1 : Int32) &&& 31).toUInt32).toInt32)))])) _
              exact retI X0 hx Bd.returns (hb hby dj33_48_79) hr1141
            · show Q_ntzi x h0 n0 _ s₁.heap _
              rw [e0]
              exact ⟨_, rfl, N0, rfl, ((if_pos q1099).trans ((if_neg q1101).trans ((if_neg q1125).trans ((if_pos q1137).trans ((if_neg q1139).trans (rfl)))))).symm⟩
        · skip
          have P1142 : Rg p e below (s₁.setTop (mkF m 64 #[.val (.int ((x ^^^ (-1 : Int32)) &&& (x - (1 : Int32)))), sI 1] [(.int (4 : Int32)), (.int ((x ^^^ (-1 : Int32)) &&& (x - (1 : Int32))))])) B0 := fun t k => P1136 t (by
            refine XS.icmpYes X0.here hx rfl (pc0 := 52) (pc' := 62) rfl (hb hby dj33_48_52) rfl (flt (show ¬ ((16 : Int32) < ((x ^^^ (-1 : Int32)) &&& (x - (1 : Int32)))) from q1137)).2.2.2 (by decide) (by decide) ?_
            refine XS.iloadN X0.here hx rfl (hb hby dj33_48_62) rfl ?_
            refine XS.iconst X0.here hx rfl (hb hby dj33_48_63) ?_
            show Sg p e below (s₁.setTop (mkF m 64 #[.val (.int ((x ^^^ (-1 : Int32)) &&& (x - (1 : Int32)))), sI 1] [(.int (4 : Int32)), (.int ((x ^^^ (-1 : Int32)) &&& (x - (1 : Int32))))])) _
            exact k)
          by_cases q1143 : (4 : Int32) < ((x ^^^ (-1 : Int32)) &&& (x - (1 : Int32)))
          · skip
            obtain ⟨fs1144, hr1144, hrun1144, hended1144, hW1144, hsame1144⟩ := X0.leave (v := some (.int ((3 : Int32) + ((((((x ^^^ (-1 : Int32)) &&& (x - (1 : Int32))).toUInt32 >>> ((2 : Int32) &&& 31).toUInt32).toInt32).toUInt32 >>> ((1 : Int32) &&& 31).toUInt32).toInt32)))) (fun h => by rw [Bd.returns] at h; cases h)
            refine ⟨_, _, pre0 _ (P1142 _ ?_), hrun1144, hended1144, _, _, rfl, ?_, ⟨⟨_, rfl⟩, hW1144, hsame1144.mono (Nat.le_of_ble_eq_true rfl) (Nat.le_of_ble_eq_true rfl)⟩⟩
            · show Sg p e below (s₁.setTop (mkF m 64 #[.val (.int ((x ^^^ (-1 : Int32)) &&& (x - (1 : Int32)))), sI 1] [(.int (4 : Int32)), (.int ((x ^^^ (-1 : Int32)) &&& (x - (1 : Int32))))])) _
              refine XS.icmpNo X0.here hx rfl (hb hby dj33_48_64) rfl (tlt (show (4 : Int32) < ((x ^^^ (-1 : Int32)) &&& (x - (1 : Int32))) from q1143)).2.2.2 ?_
              refine XS.iinc X0.here hx rfl (hb hby dj33_48_67) rfl (l' := #[.val (.int ((x ^^^ (-1 : Int32)) &&& (x - (1 : Int32)))), sI 3]) rfl ?_
              refine XS.iloadN X0.here hx rfl (hb hby dj33_48_70) rfl ?_
              refine XS.iconst X0.here hx rfl (hb hby dj33_48_71) ?_
              refine XS.iushr X0.here hx rfl (hb hby dj33_48_72) rfl ?_
              refine XS.istoreN X0.here hx rfl (hb hby dj33_48_73) rfl (l' := #[.val (.int ((((x ^^^ (-1 : Int32)) &&& (x - (1 : Int32))).toUInt32 >>> ((2 : Int32) &&& 31).toUInt32).toInt32)), sI 3]) rfl ?_
              refine XS.iloadN X0.here hx rfl (hb hby dj33_48_74) rfl ?_
              refine XS.iloadN X0.here hx rfl (hb hby dj33_48_75) rfl ?_
              refine XS.iconst X0.here hx rfl (hb hby dj33_48_76) ?_
              refine XS.iushr X0.here hx rfl (hb hby dj33_48_77) rfl ?_
              refine XS.iadd X0.here hx rfl (hb hby dj33_48_78) rfl ?_
              show Sg p e below (s₁.setTop (mkF m 79 #[.val (.int ((((x ^^^ (-1 : Int32)) &&& (x - (1 : Int32))).toUInt32 >>> ((2 : Int32) &&& 31).toUInt32).toInt32)), sI 3] [(.int ((3 : Int32) + ((((((x ^^^ (-1 : Int32)) &&& (x - (1 : Int32))).toUInt32 >>> ((2 : Int32) &&& 31).toUInt32).toInt32).toUInt32 >>> ((1 : Int32) &&& 31).toUInt32).toInt32)))])) _
              exact retI X0 hx Bd.returns (hb hby dj33_48_79) hr1144
            · show Q_ntzi x h0 n0 _ s₁.heap _
              rw [e0]
              exact ⟨_, rfl, N0, rfl, ((if_pos q1099).trans ((if_neg q1101).trans ((if_neg q1125).trans ((if_neg q1137).trans ((if_pos q1143).trans (rfl)))))).symm⟩
          · skip
            obtain ⟨fs1145, hr1145, hrun1145, hended1145, hW1145, hsame1145⟩ := X0.leave (v := some (.int ((1 : Int32) + ((((x ^^^ (-1 : Int32)) &&& (x - (1 : Int32))).toUInt32 >>> ((1 : Int32) &&& 31).toUInt32).toInt32)))) (fun h => by rw [Bd.returns] at h; cases h)
            refine ⟨_, _, pre0 _ (P1142 _ ?_), hrun1145, hended1145, _, _, rfl, ?_, ⟨⟨_, rfl⟩, hW1145, hsame1145.mono (Nat.le_of_ble_eq_true rfl) (Nat.le_of_ble_eq_true rfl)⟩⟩
            · show Sg p e below (s₁.setTop (mkF m 64 #[.val (.int ((x ^^^ (-1 : Int32)) &&& (x - (1 : Int32)))), sI 1] [(.int (4 : Int32)), (.int ((x ^^^ (-1 : Int32)) &&& (x - (1 : Int32))))])) _
              refine XS.icmpYes X0.here hx rfl (pc0 := 64) (pc' := 74) rfl (hb hby dj33_48_64) rfl (flt (show ¬ ((4 : Int32) < ((x ^^^ (-1 : Int32)) &&& (x - (1 : Int32)))) from q1143)).2.2.2 (by decide) (by decide) ?_
              refine XS.iloadN X0.here hx rfl (hb hby dj33_48_74) rfl ?_
              refine XS.iloadN X0.here hx rfl (hb hby dj33_48_75) rfl ?_
              refine XS.iconst X0.here hx rfl (hb hby dj33_48_76) ?_
              refine XS.iushr X0.here hx rfl (hb hby dj33_48_77) rfl ?_
              refine XS.iadd X0.here hx rfl (hb hby dj33_48_78) rfl ?_
              show Sg p e below (s₁.setTop (mkF m 79 #[.val (.int ((x ^^^ (-1 : Int32)) &&& (x - (1 : Int32)))), sI 1] [(.int ((1 : Int32) + ((((x ^^^ (-1 : Int32)) &&& (x - (1 : Int32))).toUInt32 >>> ((1 : Int32) &&& 31).toUInt32).toInt32)))])) _
              exact retI X0 hx Bd.returns (hb hby dj33_48_79) hr1145
            · show Q_ntzi x h0 n0 _ s₁.heap _
              rw [e0]
              exact ⟨_, rfl, N0, rfl, ((if_pos q1099).trans ((if_neg q1101).trans ((if_neg q1125).trans ((if_neg q1137).trans ((if_neg q1143).trans (rfl)))))).symm⟩
  · skip
    obtain ⟨fs1146, hr1146, hrun1146, hended1146, hW1146, hsame1146⟩ := X0.leave (v := some (.int (((x ^^^ (-1 : Int32)) &&& (x - (1 : Int32))) &&& (32 : Int32)))) (fun h => by rw [Bd.returns] at h; cases h)
    refine ⟨_, _, pre0 _ (P1098 _ ?_), hrun1146, hended1146, _, _, rfl, ?_, ⟨⟨_, rfl⟩, hW1146, hsame1146.mono (Nat.le_of_ble_eq_true rfl) (Nat.le_of_ble_eq_true rfl)⟩⟩
    · show Sg p e below (s₁.setTop (mkF m 9 #[.val (.int ((x ^^^ (-1 : Int32)) &&& (x - (1 : Int32)))), sU] [(.int ((x ^^^ (-1 : Int32)) &&& (x - (1 : Int32))))])) _
      refine XS.ifNo X0.here hx rfl (hb hby dj33_48_9) rfl ((if0 _ _).trans (flt (show ¬ ((0 : Int32) < ((x ^^^ (-1 : Int32)) &&& (x - (1 : Int32)))) from q1099)).2.2.1) ?_
      refine XS.iloadN X0.here hx rfl (hb hby dj33_48_12) rfl ?_
      refine XS.bipush X0.here hx rfl (hb hby dj33_48_13) ?_
      refine XS.iand X0.here hx rfl (hb hby dj33_48_15) rfl ?_
      show Sg p e below (s₁.setTop (mkF m 16 #[.val (.int ((x ^^^ (-1 : Int32)) &&& (x - (1 : Int32)))), sU] [(.int (((x ^^^ (-1 : Int32)) &&& (x - (1 : Int32))) &&& (32 : Int32)))])) _
      exact retI X0 hx Bd.returns (hb hby dj33_48_16) hr1146
    · show Q_ntzi x h0 n0 _ s₁.heap _
      rw [e0]
      exact ⟨_, rfl, N0, rfl, ((if_neg q1099).trans (rfl)).symm⟩
theorem dj35_49_0 : decode jdk_35_method_49_code 0 = .ok (.lload_n 0, 1) := by decide +kernel
theorem dj35_49_1 : decode jdk_35_method_49_code 1 = .ok (.l2i, 1) := by decide +kernel
theorem dj35_49_2 : decode jdk_35_method_49_code 2 = .ok (.istore_n 2, 1) := by decide +kernel
theorem dj35_49_3 : decode jdk_35_method_49_code 3 = .ok (.iload_n 2, 1) := by decide +kernel
theorem dj35_49_4 : decode jdk_35_method_49_code 4 = .ok (.ifCond .ne 17, 3) := by decide +kernel
theorem dj35_49_7 : decode jdk_35_method_49_code 7 = .ok (.bipush 32, 2) := by decide +kernel
theorem dj35_49_9 : decode jdk_35_method_49_code 9 = .ok (.lload_n 0, 1) := by decide +kernel
theorem dj35_49_10 : decode jdk_35_method_49_code 10 = .ok (.bipush 32, 2) := by decide +kernel
theorem dj35_49_12 : decode jdk_35_method_49_code 12 = .ok (.lushr, 1) := by decide +kernel
theorem dj35_49_13 : decode jdk_35_method_49_code 13 = .ok (.l2i, 1) := by decide +kernel
theorem dj35_49_14 : decode jdk_35_method_49_code 14 = .ok (.invokestatic 311, 3) := by decide +kernel
theorem pd__28I_29I : parseMethodDescriptor "(I)I" = some ⟨[.int], some .int⟩ := by decide +kernel
theorem dj35_49_17 : decode jdk_35_method_49_code 17 = .ok (.iadd, 1) := by decide +kernel
theorem dj35_49_18 : decode jdk_35_method_49_code 18 = .ok (.goto 7, 3) := by decide +kernel
theorem dj35_49_25 : decode jdk_35_method_49_code 25 = .ok (.ireturn, 1) := by decide +kernel
theorem dj35_49_21 : decode jdk_35_method_49_code 21 = .ok (.iload_n 2, 1) := by decide +kernel
theorem dj35_49_22 : decode jdk_35_method_49_code 22 = .ok (.invokestatic 311, 3) := by decide +kernel
theorem ef_ntzj (m : MethodId) (x0 : Int64) : entryFrame m #[(.long x0)] 3 = mkF m 0 #[.val (.long x0), .second, sU] [] := by (first | (simp [entryFrame, mkF, argsToLocals, Value.category]; done) | rfl)
def Q_ntzj (y : Int64) (h0 : Heap) (n0 : Nat) (v : Option Value) (h : Heap) (L : List Loc) : Prop := ∃ r : Int32, v = some (.int r) ∧ Fr n0 L ∧ h = h0 ∧ r = JP.Long_numberOfTrailingZeros_J.val y
set_option maxRecDepth 65536 in
set_option maxHeartbeats 40000000 in
theorem rm_ntzj (l : Launch) (Z : State) (a0 : Array Value) (hw : ∀ d ∈ tables_1, d.before a0 Z = true) (ws : List Jvm.Cond) (y : Int64) (h0 : Heap) (n0 : Nat) (Z0 : n0 ≤ h0.size)  :
    MetFree l (⟨"java/lang/Long", "numberOfTrailingZeros", "(J)I"⟩ : MethodName) (head1 (Jvm.Cond.code (⟨"java/lang/Long", "numberOfTrailingZeros", "(J)I"⟩ : MethodName) jdk_35_method_49_code 3 (some .int) :: ws) ({ frames := 1, cells := 0, slots := 0, locals := 14 } : Room)) (fun a U => a = #[(.long y)] ∧ Z.Warmed39 U.vm ∧ U.heap = h0) (fun _ _ _ _ _ => True) (fun _ U o U' => ∃ v L, o = .returned v ∧ Q_ntzj y h0 n0 v U'.heap L ∧ FrameEnd U o U' L ({ frames := 1, cells := 0, slots := 0, locals := 14 } : Room).cells ({ frames := 1, cells := 0, slots := 0, locals := 14 } : Room).slots) := by
  refine MetFree.of_bodySF (plainFor_of_name pn_java_lang_Long) hisR ?_
  intro p e s m args below meth c s₁ Bd hml0 hP hK
  obtain ⟨rfl, hZ, hh⟩ := hP
  have hx := Bd.exec
  have hby := Bd.bytes
  have hml : c.maxLocals = 3 := hml0
  have hown : s.vm.findClass "java/lang/Long" = some m.cls := findClass_of_methodNamed Bd.named
  have hnm := (name_of_methodNamed Bd.named Bd.method).1
  have X0 : Stand p l e ({ frames := 1, cells := 0, slots := 0, locals := 14 } : Room) s m #[(.long y)] below meth c s₁ [] 0 0 := Stand.of_body Bd
  have e0 : s₁.heap = h0 := by rw [← hh, Bd.state]; rfl
  have N0 := Fr.nil n0
  have pre0 : ∀ t, Sg p e below (s₁.setTop (mkF m 0 #[.val (.long y), .second, sU] [])) t → Steps p.tables e below (s₁.setTop (entryFrame m #[(.long y)] 3)) t := fun t k => castTop (ef_ntzj m y) k
  have P0 : ∀ t, Sg p e below (s₁.setTop (mkF m 0 #[.val (.long y), .second, sU] [])) t → Sg p e below (s₁.setTop (mkF m 0 #[.val (.long y), .second, sU] [])) t := fun t k => k
  obtain ⟨B0, pre0, P0⟩ : ∃ B : State, (∀ t, Steps p.tables e below B t → Steps p.tables e below (s₁.setTop (entryFrame m #[(.long y)] 3)) t) ∧ Rg p e below (s₁.setTop (mkF m 0 #[.val (.long y), .second, sU] [])) B := ⟨_, pre0, P0⟩
  have P1147 : Rg p e below (s₁.setTop (mkF m 4 #[.val (.long y), .second, .val (.int (y.toInt32))] [(.int (y.toInt32))])) B0 := fun t k => P0 t (by
    refine XS.lloadN X0.here hx rfl (hb hby dj35_49_0) rfl ?_
    refine XS.l2i X0.here hx rfl (hb hby dj35_49_1) rfl ?_
    refine XS.istoreN X0.here hx rfl (hb hby dj35_49_2) rfl (l' := #[.val (.long y), .second, .val (.int (y.toInt32))]) rfl ?_
    refine XS.iloadN X0.here hx rfl (hb hby dj35_49_3) rfl ?_
    show Sg p e below (s₁.setTop (mkF m 4 #[.val (.long y), .second, .val (.int (y.toInt32))] [(.int (y.toInt32))])) _
    exact k)
  by_cases q1148 : (y.toInt32) = (0 : Int32)
  · skip
    obtain ⟨_, _, ⟨T1149, L1149, k1149, n1149⟩, -, X1149, ⟨Lc1149, hQ1149, l1149, y1149, z1149⟩, st1149⟩ := Jvm.LawKit.callS X0 hx (y := (⟨"java/lang/Integer", "numberOfTrailingZeros", "(I)I"⟩ : MethodName)) hown (mvT hZ (own_hw hw 81 rfl)) (mvT hZ (own_hw hw 82 rfl)) (mvT hZ (own_hw hw 83 rfl)) (mvT hZ (own_hw hw 84 rfl)) (by decide) (backOf (W := 1) (rm_ntzi l Z a0 hw [] (((y.toUInt64 >>> ((32 : Int32) &&& 0x3f).toInt64.toUInt64).toInt64).toInt32) h0 n0 Z0 ) hZ (own_hw hw 84 rfl) (own_hw hw 83 rfl) (by decide) (by decide)) (g := (mkF m 14 #[.val (.long y), .second, .val (.int (y.toInt32))] [(.int (((y.toUInt64 >>> ((32 : Int32) &&& 0x3f).toInt64.toUInt64).toInt64).toInt32)), (.int (32 : Int32))])) rfl (by rw [hml]; rfl) (argsL := [(.int (((y.toUInt64 >>> ((32 : Int32) &&& 0x3f).toInt64.toUInt64).toInt64).toInt32))]) (rest := [(.int (32 : Int32))]) (lenOf pd__28I_29I rfl) rfl (by show 2 * 0 + _ ≤ _; exact Nat.le_of_eq rfl) (hb hby dj35_49_14) (fun _ _ => ⟨rfl, e0, (Nat.le_of_ble_eq_true rfl : 0 + 0 ≤ _), (Nat.le_of_ble_eq_true rfl : 0 + 0 ≤ _)⟩)
    dsimp only [Pt.U, Pt.locs, Pt.cells, Pt.slots] at X1149 l1149 y1149 z1149 st1149 hQ1149
    subst l1149 y1149 z1149
    obtain ⟨r1149, rfl, Nq1149, e1149, hr1149⟩ := hQ1149
    have N1150 := Fr.app N0 Nq1149
    have P1151 : Rg p e below (T1149.setTop (mkF m 17 #[.val (.long y), .second, .val (.int (y.toInt32))] [(.int r1149), (.int (32 : Int32))])) B0 := fun t k => P1147 t (by
      refine XS.ifNo X0.here hx rfl (hb hby dj35_49_4) rfl ((if0 _ _).trans (teq (show (y.toInt32) = (0 : Int32) from q1148)).2) ?_
      refine XS.bipush X0.here hx rfl (hb hby dj35_49_7) ?_
      refine XS.lloadN X0.here hx rfl (hb hby dj35_49_9) rfl ?_
      refine XS.bipush X0.here hx rfl (hb hby dj35_49_10) ?_
      refine XS.lushr X0.here hx rfl (hb hby dj35_49_12) rfl ?_
      refine XS.l2i X0.here hx rfl (hb hby dj35_49_13) rfl ?_
      show Sg p e below (s₁.setTop (mkF m 14 #[.val (.long y), .second, .val (.int (y.toInt32))] [(.int (((y.toUInt64 >>> ((32 : Int32) &&& 0x3f).toInt64.toUInt64).toInt64).toInt32)), (.int (32 : Int32))])) _
      exact st1149 _ k)
    subst hr1149
    obtain ⟨fs1152, hr1152, hrun1152, hended1152, hW1152, hsame1152⟩ := X1149.leave (v := some (.int ((32 : Int32) + (JP.Integer_numberOfTrailingZeros_I.val (((y.toUInt64 >>> ((32 : Int32) &&& 0x3f).toInt64.toUInt64).toInt64).toInt32))))) (fun h => by rw [Bd.returns] at h; cases h)
    refine ⟨_, _, pre0 _ (P1151 _ ?_), hrun1152, hended1152, _, _, rfl, ?_, ⟨⟨_, rfl⟩, hW1152, hsame1152.mono (Nat.le_of_ble_eq_true rfl) (Nat.le_of_ble_eq_true rfl)⟩⟩
    · show Sg p e below (T1149.setTop (mkF m 17 #[.val (.long y), .second, .val (.int (y.toInt32))] [(.int (JP.Integer_numberOfTrailingZeros_I.val (((y.toUInt64 >>> ((32 : Int32) &&& 0x3f).toInt64.toUInt64).toInt64).toInt32))), (.int (32 : Int32))])) _
      refine XS.iadd X1149.here hx rfl (hb hby dj35_49_17) rfl ?_
      refine XS.goto X1149.here hx rfl (pc0 := 18) (pc' := 25) rfl (hb hby dj35_49_18) (by decide) (by decide) ?_
      show Sg p e below (T1149.setTop (mkF m 25 #[.val (.long y), .second, .val (.int (y.toInt32))] [(.int ((32 : Int32) + (JP.Integer_numberOfTrailingZeros_I.val (((y.toUInt64 >>> ((32 : Int32) &&& 0x3f).toInt64.toUInt64).toInt64).toInt32))))])) _
      exact retI X1149 hx Bd.returns (hb hby dj35_49_25) hr1152
    · show Q_ntzj y h0 n0 _ T1149.heap _
      rw [e1149]
      exact ⟨_, rfl, N1150, rfl, ((if_pos q1148).trans (rfl)).symm⟩
  · skip
    obtain ⟨_, _, ⟨T1153, L1153, k1153, n1153⟩, -, X1153, ⟨Lc1153, hQ1153, l1153, y1153, z1153⟩, st1153⟩ := Jvm.LawKit.callS X0 hx (y := (⟨"java/lang/Integer", "numberOfTrailingZeros", "(I)I"⟩ : MethodName)) hown (mvT hZ (own_hw hw 81 rfl)) (mvT hZ (own_hw hw 82 rfl)) (mvT hZ (own_hw hw 83 rfl)) (mvT hZ (own_hw hw 84 rfl)) (by decide) (backOf (W := 0) (rm_ntzi l Z a0 hw [] (y.toInt32) h0 n0 Z0 ) hZ (own_hw hw 84 rfl) (own_hw hw 83 rfl) (by decide) (by decide)) (g := (mkF m 22 #[.val (.long y), .second, .val (.int (y.toInt32))] [(.int (y.toInt32))])) rfl (by rw [hml]; rfl) (argsL := [(.int (y.toInt32))]) (rest := []) (lenOf pd__28I_29I rfl) rfl (by show 2 * 0 + _ ≤ _; exact Nat.le_of_eq rfl) (hb hby dj35_49_22) (fun _ _ => ⟨rfl, e0, (Nat.le_of_ble_eq_true rfl : 0 + 0 ≤ _), (Nat.le_of_ble_eq_true rfl : 0 + 0 ≤ _)⟩)
    dsimp only [Pt.U, Pt.locs, Pt.cells, Pt.slots] at X1153 l1153 y1153 z1153 st1153 hQ1153
    subst l1153 y1153 z1153
    obtain ⟨r1153, rfl, Nq1153, e1153, hr1153⟩ := hQ1153
    have N1154 := Fr.app N0 Nq1153
    have P1155 : Rg p e below (T1153.setTop (mkF m 25 #[.val (.long y), .second, .val (.int (y.toInt32))] [(.int r1153)])) B0 := fun t k => P1147 t (by
      refine XS.ifYes X0.here hx rfl (pc0 := 4) (pc' := 21) rfl (hb hby dj35_49_4) rfl ((if0 _ _).trans (feq (show ¬ ((y.toInt32) = (0 : Int32)) from q1148)).2) (by decide) (by decide) ?_
      refine XS.iloadN X0.here hx rfl (hb hby dj35_49_21) rfl ?_
      show Sg p e below (s₁.setTop (mkF m 22 #[.val (.long y), .second, .val (.int (y.toInt32))] [(.int (y.toInt32))])) _
      exact st1153 _ k)
    subst hr1153
    obtain ⟨fs1156, hr1156, hrun1156, hended1156, hW1156, hsame1156⟩ := X1153.leave (v := some (.int (JP.Integer_numberOfTrailingZeros_I.val (y.toInt32)))) (fun h => by rw [Bd.returns] at h; cases h)
    refine ⟨_, _, pre0 _ (P1155 _ ?_), hrun1156, hended1156, _, _, rfl, ?_, ⟨⟨_, rfl⟩, hW1156, hsame1156.mono (Nat.le_of_ble_eq_true rfl) (Nat.le_of_ble_eq_true rfl)⟩⟩
    · show Sg p e below (T1153.setTop (mkF m 25 #[.val (.long y), .second, .val (.int (y.toInt32))] [(.int (JP.Integer_numberOfTrailingZeros_I.val (y.toInt32)))])) _
      exact retI X1153 hx Bd.returns (hb hby dj35_49_25) hr1156
    · show Q_ntzj y h0 n0 _ T1153.heap _
      rw [e1153]
      exact ⟨_, rfl, N1154, rfl, ((if_neg q1148).trans (rfl)).symm⟩
theorem dp22_4_50 : decode prog_22_method_4_code 50 = .ok (.lload 7, 2) := by decide +kernel
theorem dp22_4_52 : decode prog_22_method_4_code 52 = .ok (.lconst 0, 1) := by decide +kernel
theorem dp22_4_53 : decode prog_22_method_4_code 53 = .ok (.lcmp, 1) := by decide +kernel
theorem dp22_4_54 : decode prog_22_method_4_code 54 = .ok (.ifCond .eq 36, 3) := by decide +kernel
theorem dp22_4_57 : decode prog_22_method_4_code 57 = .ok (.aload 4, 2) := by decide +kernel
theorem dp22_4_59 : decode prog_22_method_4_code 59 = .ok (.iload 5, 2) := by decide +kernel
theorem dp22_4_61 : decode prog_22_method_4_code 61 = .ok (.iinc 5 1, 3) := by decide +kernel
theorem dp22_4_64 : decode prog_22_method_4_code 64 = .ok (.aload_n 0, 1) := by decide +kernel
theorem dp22_4_65 : decode prog_22_method_4_code 65 = .ok (.iload 6, 2) := by decide +kernel
theorem dp22_4_67 : decode prog_22_method_4_code 67 = .ok (.iaload, 1) := by decide +kernel
theorem dp22_4_68 : decode prog_22_method_4_code 68 = .ok (.bipush 6, 2) := by decide +kernel
theorem dp22_4_70 : decode prog_22_method_4_code 70 = .ok (.ishl, 1) := by decide +kernel
theorem dp22_4_71 : decode prog_22_method_4_code 71 = .ok (.lload 7, 2) := by decide +kernel
theorem dp22_4_73 : decode prog_22_method_4_code 73 = .ok (.invokestatic 39, 3) := by decide +kernel
theorem pd__28J_29I : parseMethodDescriptor "(J)I" = some ⟨[.long], some .int⟩ := by decide +kernel
theorem dp22_4_76 : decode prog_22_method_4_code 76 = .ok (.ior, 1) := by decide +kernel
theorem dp22_4_77 : decode prog_22_method_4_code 77 = .ok (.iastore, 1) := by decide +kernel
theorem dp22_4_78 : decode prog_22_method_4_code 78 = .ok (.lload 7, 2) := by decide +kernel
theorem dp22_4_80 : decode prog_22_method_4_code 80 = .ok (.lload 7, 2) := by decide +kernel
theorem dp22_4_82 : decode prog_22_method_4_code 82 = .ok (.lconst 1, 1) := by decide +kernel
theorem dp22_4_83 : decode prog_22_method_4_code 83 = .ok (.lsub, 1) := by decide +kernel
theorem dp22_4_84 : decode prog_22_method_4_code 84 = .ok (.land, 1) := by decide +kernel
theorem dp22_4_85 : decode prog_22_method_4_code 85 = .ok (.lstore 7, 2) := by decide +kernel
theorem dp22_4_87 : decode prog_22_method_4_code 87 = .ok (.goto (-37), 3) := by decide +kernel
set_option maxRecDepth 65536 in
set_option maxHeartbeats 40000000 in
theorem pc_turn {p : Program} {l : Launch} {e : Env} {R : Room} {s : State} {m : MethodId} {args : Array Value} {below : List Frame} {meth : Method} {c : Code} {T0 : State} {locs : List Loc} {cells slots : Nat} {Z : State} {a0 : Array Value} {h0 : Heap} {n0 : Nat} (P W ar : Addr) (kP kA : ClassId) (M cn sz N nx iv px : Int32) (vsP : List Value) (out : List Int32) (tot : Nat) (y y2 : Int64) (a : Int32) (X0 : Stand p l e R s m args below meth c T0 locs cells slots) (hx : p.tables.exec = Jvm.exec) (hZ : Z.Warmed39 s.vm) (hw : ∀ d ∈ tables_1, d.before a0 Z = true) (hby : c.code = prog_22_method_4_code) (hml : c.maxLocals = 9) (hown : s.vm.findClass "com/example/whittle/whittle/engine/WordSets" = some m.cls) (e0 : T0.heap = h0) (N0 : Fr n0 locs) (Z0 : n0 ≤ h0.size) (hcc : cells + 0 ≤ R.cells) (hcs : slots + 0 ≤ R.slots) (hfr : 2 ≤ R.frames) (hlo : 31 ≤ R.locals) (g_ar : n0 ≤ ar) (AP : Arv Z h0 P kP .int M vsP (.int (0 : Int32))) (hiv : ¬ iv < 0 ∧ iv < M) (hpx : vsP.getD iv.toNatClampNeg (.int (0 : Int32)) = .int px) (AR : Arv Z h0 ar kA .int N (out.map Value.int) (.int (0 : Int32))) (hN : N = Int32.ofNat tot) (ht : tot ≤ 3) (hnx : nx = Int32.ofNat out.length) (nPa : P ≠ ar) (hlt : out.length < tot) (nz : ¬ y = (0 : Int64)) (tz : JP.Long_numberOfTrailingZeros_J.val y = own_lo a) (rc : (px <<< ((6 : Int32) &&& 31)) ||| own_lo a = a) (hy : y2 = y &&& (y - (1 : Int64))) :
    ∃ (T' : State) (h' : Heap) (locs' : List Loc), Stand p l e R s m args below meth c T' locs' (cells + 0) (slots + 0) ∧ T'.heap = h' ∧ Fr n0 locs' ∧ Keep h0 h' [ar] ∧ Arv Z h' ar kA .int N ((out ++ [a]).map Value.int) (.int (0 : Int32)) ∧ ∀ t, Sg p e below (T'.setTop (mkF m 50 #[sR P, sR W, sI cn, sI sz, sR ar, .val (.int (nx + (1 : Int32))), sI iv, .val (.long y2), .second] [])) t → Sg p e below (T0.setTop (mkF m 50 #[sR P, sR W, sI cn, sI sz, sR ar, sI nx, sI iv, .val (.long y), .second] [])) t := by
  have P0 : ∀ t, Sg p e below (T0.setTop (mkF m 50 #[sR P, sR W, sI cn, sI sz, sR ar, sI nx, sI iv, .val (.long y), .second] [])) t → Sg p e below (T0.setTop (mkF m 50 #[sR P, sR W, sI cn, sI sz, sR ar, sI nx, sI iv, .val (.long y), .second] [])) t := fun t k => k
  obtain ⟨cl1157, Ar1157, -, S1157, N1157, H1157, -⟩ := id AP
  have hin1157 : ¬ (iv < 0 ∨ cl1157.slots.size ≤ (iv).toNatClampNeg) := inb_of S1157 hiv
  obtain ⟨_, _, ⟨T1158, L1158, k1158, n1158⟩, -, X1158, ⟨Lc1158, hQ1158, l1158, y1158, z1158⟩, st1158⟩ := Jvm.LawKit.callS X0 hx (y := (⟨"java/lang/Long", "numberOfTrailingZeros", "(J)I"⟩ : MethodName)) hown (mvT hZ (own_hw hw 78 rfl)) (mvT hZ (own_hw hw 79 rfl)) (mvT hZ (own_hw hw 73 rfl)) (mvT hZ (own_hw hw 80 rfl)) (by decide) (backOf (W := 3) (rm_ntzj l Z a0 hw [] y h0 n0 Z0 ) hZ (own_hw hw 80 rfl) (own_hw hw 73 rfl) (Nat.le_trans (Nat.le_of_ble_eq_true rfl) hfr) (Nat.le_trans (Nat.le_of_ble_eq_true rfl) hlo)) (g := (mkF m 73 #[sR P, sR W, sI cn, sI sz, sR ar, .val (.int (nx + (1 : Int32))), sI iv, .val (.long y), .second] [(.long y), (.int (px <<< ((6 : Int32) &&& 31))), (.int nx), (.ref ar)])) rfl (by rw [hml]; rfl) (argsL := [(.long y)]) (rest := [(.int (px <<< ((6 : Int32) &&& 31))), (.int nx), (.ref ar)]) (lenOf pd__28J_29I rfl) rfl (by show 2 * 0 + _ ≤ _; exact Nat.le_of_eq rfl) (hb hby dp22_4_73) (fun _ _ => ⟨rfl, e0, (by omega : cells + 0 + 0 ≤ R.cells), (by omega : slots + 0 + 0 ≤ R.slots)⟩)
  dsimp only [Pt.U, Pt.locs, Pt.cells, Pt.slots] at X1158 l1158 y1158 z1158 st1158 hQ1158
  subst l1158 y1158 z1158
  obtain ⟨r1158, rfl, Nq1158, e1158, hr1158⟩ := hQ1158
  have N1159 := Fr.app N0 Nq1158
  have P1160 : ∀ t, Sg p e below (T1158.setTop (mkF m 76 #[sR P, sR W, sI cn, sI sz, sR ar, .val (.int (nx + (1 : Int32))), sI iv, .val (.long y), .second] [(.int r1158), (.int (px <<< ((6 : Int32) &&& 31))), (.int nx), (.ref ar)])) t → Sg p e below (T0.setTop (mkF m 50 #[sR P, sR W, sI cn, sI sz, sR ar, sI nx, sI iv, .val (.long y), .second] [])) t := fun t k => P0 t (by
    refine XS.lload X0.here hx rfl (hb hby dp22_4_50) rfl ?_
    refine XS.lconst X0.here hx rfl (hb hby dp22_4_52) ?_
    refine XS.lcmp X0.here hx rfl (hb hby dp22_4_53) rfl ?_
    refine XS.ifNo X0.here hx rfl (hb hby dp22_4_54) rfl (XT.ll_eq_f (show ¬ (y = (0 : Int64)) from nz)) ?_
    refine XS.aload X0.here hx rfl (hb hby dp22_4_57) rfl rfl ?_
    refine XS.iload X0.here hx rfl (hb hby dp22_4_59) rfl ?_
    refine XS.iinc X0.here hx rfl (hb hby dp22_4_61) rfl (l' := #[sR P, sR W, sI cn, sI sz, sR ar, .val (.int (nx + (1 : Int32))), sI iv, .val (.long y), .second]) rfl ?_
    refine XS.aloadN X0.here hx rfl (hb hby dp22_4_64) rfl rfl ?_
    refine XS.iload X0.here hx rfl (hb hby dp22_4_65) rfl ?_
    show Sg p e below (T0.setTop (mkF m 67 #[sR P, sR W, sI cn, sI sz, sR ar, .val (.int (nx + (1 : Int32))), sI iv, .val (.long y), .second] [(.int iv), (.ref P), (.int nx), (.ref ar)])) _
    refine X0.iaload hx (j := iv) (v := (.int px)) (by rw [e0]; exact Ar1157.1) (State.isArrayOf_alike hZ.alike Ar1157.2.1) Ar1157.2.2 hin1157 (H1157.at hin1157 hpx) (g := (mkF m 67 #[sR P, sR W, sI cn, sI sz, sR ar, .val (.int (nx + (1 : Int32))), sI iv, .val (.long y), .second] [(.int iv), (.ref P), (.int nx), (.ref ar)])) rfl rfl (hb hby dp22_4_67) _ ?_
    show Sg p e below (T0.setTop (mkF m 68 #[sR P, sR W, sI cn, sI sz, sR ar, .val (.int (nx + (1 : Int32))), sI iv, .val (.long y), .second] [(.int px), (.int nx), (.ref ar)])) _
    refine XS.bipush X0.here hx rfl (hb hby dp22_4_68) ?_
    refine XS.ishl X0.here hx rfl (hb hby dp22_4_70) rfl ?_
    refine XS.lload X0.here hx rfl (hb hby dp22_4_71) rfl ?_
    show Sg p e below (T0.setTop (mkF m 73 #[sR P, sR W, sI cn, sI sz, sR ar, .val (.int (nx + (1 : Int32))), sI iv, .val (.long y), .second] [(.long y), (.int (px <<< ((6 : Int32) &&& 31))), (.int nx), (.ref ar)])) _
    exact st1158 _ k)
  have hq1158 : r1158 = own_lo a := hr1158.trans tz
  subst hq1158
  obtain ⟨cl1161, Ar1161, q1161, S1161, N1161, H1161, G1161⟩ := Arv.pad AR (own_padl out)
  obtain ⟨T1161, h1161, X1161, e1161, W1161, st1161⟩ := stI X1158 hx hZ e1158 Ar1161 (j := nx) (inb_of S1161 (own_inb2 hN ht hnx hlt)) (g := (mkF m 77 #[sR P, sR W, sI cn, sI sz, sR ar, .val (.int (nx + (1 : Int32))), sI iv, .val (.long y), .second] [(.int ((px <<< ((6 : Int32) &&& 31)) ||| (own_lo a))), (.int nx), (.ref ar)])) rfl rfl (hb hby dp22_4_77)
  have v1162 : Arv Z h1161 ar kA .int N ((out ++ [((px <<< ((6 : Int32) &&& 31)) ||| (own_lo a))]).map Value.int) (.int (0 : Int32)) := own_setl out ((px <<< ((6 : Int32) &&& 31)) ||| (own_lo a)) ▸ Arv.set Ar1161 q1161 S1161 N1161 H1161 G1161 rfl W1161 out.length (own_nxn hnx ht hlt) (own_ltl out)
  have P1163 : ∀ t, Sg p e below (T1161.setTop (mkF m 78 #[sR P, sR W, sI cn, sI sz, sR ar, .val (.int (nx + (1 : Int32))), sI iv, .val (.long y), .second] [])) t → Sg p e below (T0.setTop (mkF m 50 #[sR P, sR W, sI cn, sI sz, sR ar, sI nx, sI iv, .val (.long y), .second] [])) t := fun t k => P1160 t (by
    refine XS.ior X1158.here hx rfl (hb hby dp22_4_76) rfl ?_
    show Sg p e below (T1158.setTop (mkF m 77 #[sR P, sR W, sI cn, sI sz, sR ar, .val (.int (nx + (1 : Int32))), sI iv, .val (.long y), .second] [(.int ((px <<< ((6 : Int32) &&& 31)) ||| (own_lo a))), (.int nx), (.ref ar)])) _
    exact st1161 _ k)
  have N1164 := Fr.snoc X1161 N1159 g_ar
  have Z1165 : n0 ≤ h1161.size := Nat.le_trans Z0 (Keep.of_wr W1161).1
  have K1166 : Keep h0 h1161 [ar] := (Keep.refl h0 [ar]).wr W1161 (Or.inl (List.mem_of_getElem? (i := 0) rfl))
  have P1167 : ∀ t, Sg p e below (T1161.setTop (mkF m 85 #[sR P, sR W, sI cn, sI sz, sR ar, .val (.int (nx + (1 : Int32))), sI iv, .val (.long y), .second] [(.long (y &&& (y - (1 : Int64))))])) t → Sg p e below (T0.setTop (mkF m 50 #[sR P, sR W, sI cn, sI sz, sR ar, sI nx, sI iv, .val (.long y), .second] [])) t := fun t k => P1163 t (by
    refine XS.lload X1161.here hx rfl (hb hby dp22_4_78) rfl ?_
    refine XS.lload X1161.here hx rfl (hb hby dp22_4_80) rfl ?_
    refine XS.lconst X1161.here hx rfl (hb hby dp22_4_82) ?_
    refine XS.lsub X1161.here hx rfl (hb hby dp22_4_83) rfl ?_
    refine XS.land X1161.here hx rfl (hb hby dp22_4_84) rfl ?_
    show Sg p e below (T1161.setTop (mkF m 85 #[sR P, sR W, sI cn, sI sz, sR ar, .val (.int (nx + (1 : Int32))), sI iv, .val (.long y), .second] [(.long (y &&& (y - (1 : Int64))))])) _
    exact k)
  have P1168 : ∀ t, Sg p e below (T1161.setTop (mkF m 85 #[sR P, sR W, sI cn, sI sz, sR ar, .val (.int (nx + (1 : Int32))), sI iv, .val (.long y), .second] [(.long y2)])) t → Sg p e below (T0.setTop (mkF m 50 #[sR P, sR W, sI cn, sI sz, sR ar, sI nx, sI iv, .val (.long y), .second] [])) t := fun t k => P1167 t (by rw [hy] at k; exact k)
  have P1169 : ∀ t, Sg p e below (T1161.setTop (mkF m 50 #[sR P, sR W, sI cn, sI sz, sR ar, .val (.int (nx + (1 : Int32))), sI iv, .val (.long y2), .second] [])) t → Sg p e below (T0.setTop (mkF m 50 #[sR P, sR W, sI cn, sI sz, sR ar, sI nx, sI iv, .val (.long y), .second] [])) t := fun t k => P1168 t (by
    refine XS.lstore X1161.here hx rfl (hb hby dp22_4_85) rfl (l' := #[sR P, sR W, sI cn, sI sz, sR ar, .val (.int (nx + (1 : Int32))), sI iv, .val (.long y2), .second]) rfl ?_
    refine XS.goto X1161.here hx rfl (pc0 := 87) (pc' := 50) rfl (hb hby dp22_4_87) (by decide) (by decide) ?_
    show Sg p e below (T1161.setTop (mkF m 50 #[sR P, sR W, sI cn, sI sz, sR ar, .val (.int (nx + (1 : Int32))), sI iv, .val (.long y2), .second] [])) _
    exact k)
  exact ⟨T1161, h1161, _, X1161.more (by omega) (by omega), e1161, N1164, K1166, (rc ▸ v1162), P1169⟩
set_option maxRecDepth 65536 in
set_option maxHeartbeats 40000000 in
theorem pc_grp {p : Program} {l : Launch} {e : Env} {R : Room} {s : State} {m : MethodId} {args : Array Value} {below : List Frame} {meth : Method} {c : Code} {T0 : State} {locs : List Loc} {cells slots : Nat} {Z : State} {a0 : Array Value} {h0 : Heap} {n0 : Nat} (P W ar : Addr) (kP kA : ClassId) (M cn sz N nx iv px : Int32) (vsP : List Value) (out : List Int32) (tot : Nat) (y : Int64) (g : List Int32) (X0 : Stand p l e R s m args below meth c T0 locs cells slots) (hx : p.tables.exec = Jvm.exec) (hZ : Z.Warmed39 s.vm) (hw : ∀ d ∈ tables_1, d.before a0 Z = true) (hby : c.code = prog_22_method_4_code) (hml : c.maxLocals = 9) (hown : s.vm.findClass "com/example/whittle/whittle/engine/WordSets" = some m.cls) (e0 : T0.heap = h0) (N0 : Fr n0 locs) (Z0 : n0 ≤ h0.size) (hcc : cells + 0 ≤ R.cells) (hcs : slots + 0 ≤ R.slots) (hfr : 2 ≤ R.frames) (hlo : 31 ≤ R.locals) (g_ar : n0 ≤ ar) (AP : Arv Z h0 P kP .int M vsP (.int (0 : Int32))) (hiv : ¬ iv < 0 ∧ iv < M) (hpx : vsP.getD iv.toNatClampNeg (.int (0 : Int32)) = .int px) (AR : Arv Z h0 ar kA .int N (out.map Value.int) (.int (0 : Int32))) (hN : N = Int32.ofNat tot) (ht : tot ≤ 3) (hnx : nx = Int32.ofNat out.length) (nPa : P ≠ ar) (hlt : out.length + g.length ≤ tot) (hwy : y = own_w g) (hok : own_Ok px g) :
    ∃ (T' : State) (h' : Heap) (locs' : List Loc) (nx2 : Int32), Stand p l e R s m args below meth c T' locs' (cells + 0) (slots + 0) ∧ T'.heap = h' ∧ Fr n0 locs' ∧ Keep h0 h' [ar] ∧ nx2 = Int32.ofNat (out ++ g).length ∧ Arv Z h' ar kA .int N ((out ++ g).map Value.int) (.int (0 : Int32)) ∧ ∀ t, Sg p e below (T'.setTop (mkF m 50 #[sR P, sR W, sI cn, sI sz, sR ar, sI nx2, sI iv, .val (.long (0 : Int64)), .second] [])) t → Sg p e below (T0.setTop (mkF m 50 #[sR P, sR W, sI cn, sI sz, sR ar, sI nx, sI iv, .val (.long y), .second] [])) t := by
  have P0 : ∀ t, Sg p e below (T0.setTop (mkF m 50 #[sR P, sR W, sI cn, sI sz, sR ar, sI nx, sI iv, .val (.long y), .second] [])) t → Sg p e below (T0.setTop (mkF m 50 #[sR P, sR W, sI cn, sI sz, sR ar, sI nx, sI iv, .val (.long y), .second] [])) t := fun t k => k
  have hg3 : g.length ≤ 3 := by omega
  rcases g with _ | ⟨x0, _ | ⟨x1, _ | ⟨x2, _ | ⟨x3, g⟩⟩⟩⟩
  · skip
    have zz : y = (0 : Int64) := hwy
    subst zz
    have AR9 : Arv Z h0 ar kA .int N ((out ++ []).map Value.int) (.int (0 : Int32)) := by simpa using AR
    have hn9 : nx = Int32.ofNat (out ++ []).length := by simpa using hnx
    exact ⟨T0, h0, _, nx, X0.more (by omega) (by omega), e0, N0, (Keep.refl h0 [ar]), hn9, AR9, P0⟩
  · skip
    obtain ⟨-, nz0, tz0, rc0, y_0, hy0, hw0, ho0⟩ := own_f1 hwy hok
    obtain ⟨T1170, h1170, L1170, X1170, e1170, Nq1170, K1170, u1170_0, st1170⟩ := pc_turn P W ar kP kA M cn sz N nx iv px vsP out tot y y_0 x0 X0 hx hZ hw hby hml hown e0 N0 Z0 (by omega) (by omega) (Nat.le_trans (Nat.le_of_ble_eq_true rfl) hfr) (Nat.le_trans (Nat.le_of_ble_eq_true rfl) hlo) g_ar AP hiv hpx AR hN ht hnx nPa (by simp only [List.length_append, List.length_cons, List.length_nil] at *; omega) nz0 tz0 rc0 hy0
    have P1171 : ∀ t, Sg p e below (T1170.setTop (mkF m 50 #[sR P, sR W, sI cn, sI sz, sR ar, .val (.int (nx + (1 : Int32))), sI iv, .val (.long y_0), .second] [])) t → Sg p e below (T0.setTop (mkF m 50 #[sR P, sR W, sI cn, sI sz, sR ar, sI nx, sI iv, .val (.long y), .second] [])) t := fun t k => P0 t (by
      exact st1170 _ k)
    have Z1172 : n0 ≤ h1170.size := Nat.le_trans Z0 K1170.1
    have K1173 : Keep h0 h1170 [ar] := (Keep.refl h0 [ar]).trans K1170 ((allS (Or.inl (List.mem_of_getElem? (i := 0) rfl)) all0))
    have hnx1170 : (nx + (1 : Int32)) = Int32.ofNat (out ++ [x0]).length := own_nxs hnx
    have zz : y_0 = (0 : Int64) := hw0
    subst zz
    have AR9 : Arv Z h1170 ar kA .int N ((out ++ [x0]).map Value.int) (.int (0 : Int32)) := by simpa using u1170_0
    have hn9 : (nx + (1 : Int32)) = Int32.ofNat (out ++ [x0]).length := by simpa using hnx1170
    exact ⟨T1170, h1170, _, (nx + (1 : Int32)), X1170.more (by omega) (by omega), e1170, Nq1170, K1173, hn9, AR9, P1171⟩
  · skip
    obtain ⟨-, nz0, tz0, rc0, y_0, hy0, hw0, ho0⟩ := own_f2 hwy hok
    obtain ⟨T1174, h1174, L1174, X1174, e1174, Nq1174, K1174, u1174_0, st1174⟩ := pc_turn P W ar kP kA M cn sz N nx iv px vsP out tot y y_0 x0 X0 hx hZ hw hby hml hown e0 N0 Z0 (by omega) (by omega) (Nat.le_trans (Nat.le_of_ble_eq_true rfl) hfr) (Nat.le_trans (Nat.le_of_ble_eq_true rfl) hlo) g_ar AP hiv hpx AR hN ht hnx nPa (by simp only [List.length_append, List.length_cons, List.length_nil] at *; omega) nz0 tz0 rc0 hy0
    have P1175 : ∀ t, Sg p e below (T1174.setTop (mkF m 50 #[sR P, sR W, sI cn, sI sz, sR ar, .val (.int (nx + (1 : Int32))), sI iv, .val (.long y_0), .second] [])) t → Sg p e below (T0.setTop (mkF m 50 #[sR P, sR W, sI cn, sI sz, sR ar, sI nx, sI iv, .val (.long y), .second] [])) t := fun t k => P0 t (by
      exact st1174 _ k)
    have Z1176 : n0 ≤ h1174.size := Nat.le_trans Z0 K1174.1
    have K1177 : Keep h0 h1174 [ar] := (Keep.refl h0 [ar]).trans K1174 ((allS (Or.inl (List.mem_of_getElem? (i := 0) rfl)) all0))
    have hnx1174 : (nx + (1 : Int32)) = Int32.ofNat (out ++ [x0]).length := own_nxs hnx
    obtain ⟨-, nz1, tz1, rc1, y_1, hy1, hw1, ho1⟩ := own_f1 hw0 ho0
    have f1178 := (AP.keep K1174 (ninS nPa nin0))
    obtain ⟨T1179, h1179, L1179, X1179, e1179, Nq1179, K1179, u1179_0, st1179⟩ := pc_turn P W ar kP kA M cn sz N (nx + (1 : Int32)) iv px vsP (out ++ [x0]) tot y_0 y_1 x1 X1174 hx hZ hw hby hml hown e1174 Nq1174 Z1176 (by omega) (by omega) (Nat.le_trans (Nat.le_of_ble_eq_true rfl) hfr) (Nat.le_trans (Nat.le_of_ble_eq_true rfl) hlo) g_ar f1178 hiv hpx u1174_0 hN ht hnx1174 nPa (by simp only [List.length_append, List.length_cons, List.length_nil] at *; omega) nz1 tz1 rc1 hy1
    have P1180 : ∀ t, Sg p e below (T1179.setTop (mkF m 50 #[sR P, sR W, sI cn, sI sz, sR ar, .val (.int ((nx + (1 : Int32)) + (1 : Int32))), sI iv, .val (.long y_1), .second] [])) t → Sg p e below (T0.setTop (mkF m 50 #[sR P, sR W, sI cn, sI sz, sR ar, sI nx, sI iv, .val (.long y), .second] [])) t := fun t k => P1175 t (by
      exact st1179 _ k)
    have Z1181 : n0 ≤ h1179.size := Nat.le_trans Z1176 K1179.1
    have K1182 : Keep h0 h1179 [ar] := K1177.trans K1179 ((allS (Or.inl (List.mem_of_getElem? (i := 0) rfl)) all0))
    have hnx1179 : ((nx + (1 : Int32)) + (1 : Int32)) = Int32.ofNat ((out ++ [x0]) ++ [x1]).length := own_nxs hnx1174
    have zz : y_1 = (0 : Int64) := hw1
    subst zz
    have AR9 : Arv Z h1179 ar kA .int N ((out ++ [x0, x1]).map Value.int) (.int (0 : Int32)) := by simpa using u1179_0
    have hn9 : ((nx + (1 : Int32)) + (1 : Int32)) = Int32.ofNat (out ++ [x0, x1]).length := by simpa using hnx1179
    exact ⟨T1179, h1179, _, ((nx + (1 : Int32)) + (1 : Int32)), X1179.more (by omega) (by omega), e1179, Nq1179, K1182, hn9, AR9, P1180⟩
  · skip
    obtain ⟨-, nz0, tz0, rc0, y_0, hy0, hw0, ho0⟩ := own_f3 hwy hok
    obtain ⟨T1183, h1183, L1183, X1183, e1183, Nq1183, K1183, u1183_0, st1183⟩ := pc_turn P W ar kP kA M cn sz N nx iv px vsP out tot y y_0 x0 X0 hx hZ hw hby hml hown e0 N0 Z0 (by omega) (by omega) (Nat.le_trans (Nat.le_of_ble_eq_true rfl) hfr) (Nat.le_trans (Nat.le_of_ble_eq_true rfl) hlo) g_ar AP hiv hpx AR hN ht hnx nPa (by simp only [List.length_append, List.length_cons, List.length_nil] at *; omega) nz0 tz0 rc0 hy0
    have P1184 : ∀ t, Sg p e below (T1183.setTop (mkF m 50 #[sR P, sR W, sI cn, sI sz, sR ar, .val (.int (nx + (1 : Int32))), sI iv, .val (.long y_0), .second] [])) t → Sg p e below (T0.setTop (mkF m 50 #[sR P, sR W, sI cn, sI sz, sR ar, sI nx, sI iv, .val (.long y), .second] [])) t := fun t k => P0 t (by
      exact st1183 _ k)
    have Z1185 : n0 ≤ h1183.size := Nat.le_trans Z0 K1183.1
    have K1186 : Keep h0 h1183 [ar] := (Keep.refl h0 [ar]).trans K1183 ((allS (Or.inl (List.mem_of_getElem? (i := 0) rfl)) all0))
    have hnx1183 : (nx + (1 : Int32)) = Int32.ofNat (out ++ [x0]).length := own_nxs hnx
    obtain ⟨-, nz1, tz1, rc1, y_1, hy1, hw1, ho1⟩ := own_f2 hw0 ho0
    have f1187 := (AP.keep K1183 (ninS nPa nin0))
    obtain ⟨T1188, h1188, L1188, X1188, e1188, Nq1188, K1188, u1188_0, st1188⟩ := pc_turn P W ar kP kA M cn sz N (nx + (1 : Int32)) iv px vsP (out ++ [x0]) tot y_0 y_1 x1 X1183 hx hZ hw hby hml hown e1183 Nq1183 Z1185 (by omega) (by omega) (Nat.le_trans (Nat.le_of_ble_eq_true rfl) hfr) (Nat.le_trans (Nat.le_of_ble_eq_true rfl) hlo) g_ar f1187 hiv hpx u1183_0 hN ht hnx1183 nPa (by simp only [List.length_append, List.length_cons, List.length_nil] at *; omega) nz1 tz1 rc1 hy1
    have P1189 : ∀ t, Sg p e below (T1188.setTop (mkF m 50 #[sR P, sR W, sI cn, sI sz, sR ar, .val (.int ((nx + (1 : Int32)) + (1 : Int32))), sI iv, .val (.long y_1), .second] [])) t → Sg p e below (T0.setTop (mkF m 50 #[sR P, sR W, sI cn, sI sz, sR ar, sI nx, sI iv, .val (.long y), .second] [])) t := fun t k => P1184 t (by
      exact st1188 _ k)
    have Z1190 : n0 ≤ h1188.size := Nat.le_trans Z1185 K1188.1
    have K1191 : Keep h0 h1188 [ar] := K1186.trans K1188 ((allS (Or.inl (List.mem_of_getElem? (i := 0) rfl)) all0))
    have hnx1188 : ((nx + (1 : Int32)) + (1 : Int32)) = Int32.ofNat ((out ++ [x0]) ++ [x1]).length := own_nxs hnx1183
    obtain ⟨-, nz2, tz2, rc2, y_2, hy2, hw2, ho2⟩ := own_f1 hw1 ho1
    have f1192 := (f1187.keep K1188 (ninS nPa nin0))
    obtain ⟨T1193, h1193, L1193, X1193, e1193, Nq1193, K1193, u1193_0, st1193⟩ := pc_turn P W ar kP kA M cn sz N ((nx + (1 : Int32)) + (1 : Int32)) iv px vsP ((out ++ [x0]) ++ [x1]) tot y_1 y_2 x2 X1188 hx hZ hw hby hml hown e1188 Nq1188 Z1190 (by omega) (by omega) (Nat.le_trans (Nat.le_of_ble_eq_true rfl) hfr) (Nat.le_trans (Nat.le_of_ble_eq_true rfl) hlo) g_ar f1192 hiv hpx u1188_0 hN ht hnx1188 nPa (by simp only [List.length_append, List.length_cons, List.length_nil] at *; omega) nz2 tz2 rc2 hy2
    have P1194 : ∀ t, Sg p e below (T1193.setTop (mkF m 50 #[sR P, sR W, sI cn, sI sz, sR ar, .val (.int (((nx + (1 : Int32)) + (1 : Int32)) + (1 : Int32))), sI iv, .val (.long y_2), .second] [])) t → Sg p e below (T0.setTop (mkF m 50 #[sR P, sR W, sI cn, sI sz, sR ar, sI nx, sI iv, .val (.long y), .second] [])) t := fun t k => P1189 t (by
      exact st1193 _ k)
    have Z1195 : n0 ≤ h1193.size := Nat.le_trans Z1190 K1193.1
    have K1196 : Keep h0 h1193 [ar] := K1191.trans K1193 ((allS (Or.inl (List.mem_of_getElem? (i := 0) rfl)) all0))
    have hnx1193 : (((nx + (1 : Int32)) + (1 : Int32)) + (1 : Int32)) = Int32.ofNat (((out ++ [x0]) ++ [x1]) ++ [x2]).length := own_nxs hnx1188
    have zz : y_2 = (0 : Int64) := hw2
    subst zz
    have AR9 : Arv Z h1193 ar kA .int N ((out ++ [x0, x1, x2]).map Value.int) (.int (0 : Int32)) := by simpa using u1193_0
    have hn9 : (((nx + (1 : Int32)) + (1 : Int32)) + (1 : Int32)) = Int32.ofNat (out ++ [x0, x1, x2]).length := by simpa using hnx1193
    exact ⟨T1193, h1193, _, (((nx + (1 : Int32)) + (1 : Int32)) + (1 : Int32)), X1193.more (by omega) (by omega), e1193, Nq1193, K1196, hn9, AR9, P1194⟩
  · exact absurd hg3 (by simp)
theorem dp22_4_0 : decode prog_22_method_4_code 0 = .ok (.iconst 0, 1) := by decide +kernel
theorem dp22_4_1 : decode prog_22_method_4_code 1 = .ok (.istore_n 3, 1) := by decide +kernel
theorem dp22_4_2 : decode prog_22_method_4_code 2 = .ok (.iconst 0, 1) := by decide +kernel
theorem dp22_4_3 : decode prog_22_method_4_code 3 = .ok (.istore 4, 2) := by decide +kernel
theorem dp22_4_5 : decode prog_22_method_4_code 5 = .ok (.iload 4, 2) := by decide +kernel
theorem dp22_4_7 : decode prog_22_method_4_code 7 = .ok (.iload_n 2, 1) := by decide +kernel
theorem dp22_4_8 : decode prog_22_method_4_code 8 = .ok (.if_icmp .ge 19, 3) := by decide +kernel
theorem dp22_4_27 : decode prog_22_method_4_code 27 = .ok (.iload_n 3, 1) := by decide +kernel
theorem dp22_4_28 : decode prog_22_method_4_code 28 = .ok (.newarray .int, 2) := by decide +kernel
theorem dp22_4_30 : decode prog_22_method_4_code 30 = .ok (.astore 4, 2) := by decide +kernel
theorem dp22_4_32 : decode prog_22_method_4_code 32 = .ok (.iconst 0, 1) := by decide +kernel
theorem dp22_4_33 : decode prog_22_method_4_code 33 = .ok (.istore 5, 2) := by decide +kernel
theorem dp22_4_35 : decode prog_22_method_4_code 35 = .ok (.iconst 0, 1) := by decide +kernel
theorem dp22_4_36 : decode prog_22_method_4_code 36 = .ok (.istore 6, 2) := by decide +kernel
theorem dp22_4_38 : decode prog_22_method_4_code 38 = .ok (.iload 6, 2) := by decide +kernel
theorem dp22_4_40 : decode prog_22_method_4_code 40 = .ok (.iload_n 2, 1) := by decide +kernel
theorem dp22_4_41 : decode prog_22_method_4_code 41 = .ok (.if_icmp .ge 55, 3) := by decide +kernel
theorem dp22_4_96 : decode prog_22_method_4_code 96 = .ok (.aload 4, 2) := by decide +kernel
theorem dp22_4_98 : decode prog_22_method_4_code 98 = .ok (.areturn, 1) := by decide +kernel
theorem dp22_4_11 : decode prog_22_method_4_code 11 = .ok (.iload_n 3, 1) := by decide +kernel
theorem dp22_4_12 : decode prog_22_method_4_code 12 = .ok (.aload_n 1, 1) := by decide +kernel
theorem dp22_4_13 : decode prog_22_method_4_code 13 = .ok (.iload 4, 2) := by decide +kernel
theorem dp22_4_15 : decode prog_22_method_4_code 15 = .ok (.laload, 1) := by decide +kernel
theorem dp22_4_16 : decode prog_22_method_4_code 16 = .ok (.invokestatic 33, 3) := by decide +kernel
theorem dp22_4_19 : decode prog_22_method_4_code 19 = .ok (.iadd, 1) := by decide +kernel
theorem dp22_4_20 : decode prog_22_method_4_code 20 = .ok (.istore_n 3, 1) := by decide +kernel
theorem dp22_4_21 : decode prog_22_method_4_code 21 = .ok (.iinc 4 1, 3) := by decide +kernel
theorem dp22_4_24 : decode prog_22_method_4_code 24 = .ok (.goto (-19), 3) := by decide +kernel
theorem dp22_4_44 : decode prog_22_method_4_code 44 = .ok (.aload_n 1, 1) := by decide +kernel
theorem dp22_4_45 : decode prog_22_method_4_code 45 = .ok (.iload 6, 2) := by decide +kernel
theorem dp22_4_47 : decode prog_22_method_4_code 47 = .ok (.laload, 1) := by decide +kernel
theorem dp22_4_48 : decode prog_22_method_4_code 48 = .ok (.lstore 7, 2) := by decide +kernel
theorem dp22_4_90 : decode prog_22_method_4_code 90 = .ok (.iinc 6 1, 3) := by decide +kernel
theorem dp22_4_93 : decode prog_22_method_4_code 93 = .ok (.goto (-55), 3) := by decide +kernel
theorem ef_mem (m : MethodId) (x0 : Addr) (x1 : Addr) (x2 : Int32) : entryFrame m #[(.ref x0), (.ref x1), (.int x2)] 9 = mkF m 0 #[sR x0, sR x1, sI x2, sU, sU, sU, sU, sU, sU] [] := by (first | (simp [entryFrame, mkF, argsToLocals, Value.category]; done) | rfl)
def Q_mem (Z : State) (gs : List (List Int32)) (h0 : Heap) (n0 : Nat) (v : Option Value) (h : Heap) (L : List Loc) : Prop := ∃ (R : Addr) (k : ClassId) (N : Int32), v = some (.ref R) ∧ Fr n0 L ∧ Keep h0 h [] ∧ N = Int32.ofNat gs.flatten.length ∧ Arv Z h R k .int N (gs.flatten.map Value.int) (.int (0 : Int32)) ∧ h0.size ≤ R
set_option maxRecDepth 65536 in
set_option maxHeartbeats 40000000 in
theorem rm_mem (l : Launch) (Z : State) (a0 : Array Value) (hw : ∀ d ∈ tables_1, d.before a0 Z = true) (ws : List Jvm.Cond) (P W : Addr) (kP kW : ClassId) (M : Int32) (pl ur : List Int32) (wv vr : List Int64) (cn : Int32) (gs : List (List Int32)) (h0 : Heap) (n0 : Nat) (Z0 : n0 ≤ h0.size) (AP : Arv Z h0 P kP .int M ((pl ++ ur).map Value.int) (.int (0 : Int32))) (AW : Arv Z h0 W kW .long M ((wv ++ vr).map Value.long) (.long (0 : Int64))) (hM : M = Int32.ofNat (pl ++ ur).length) (hm : (pl ++ ur).length ≤ 3) (hc : cn = Int32.ofNat pl.length) (hl : wv.length = pl.length) (hv : vr.length = ur.length) (hR : own_Rep pl wv gs) (hcap : ∀ g ∈ gs, g.length + gs.length ≤ 4) (htot : gs.flatten.length ≤ 3) :
    MetFree l (⟨"com/example/whittle/whittle/engine/WordSets", "members", "([I[JI)[I"⟩ : MethodName) (head1 (Jvm.Cond.code (⟨"com/example/whittle/whittle/engine/WordSets", "members", "([I[JI)[I"⟩ : MethodName) prog_22_method_4_code 9 (some (.array .int)) :: ws) ({ frames := 2, cells := 1, slots := 3, locals := 31 } : Room)) (fun a U => a = #[(.ref P), (.ref W), (.int cn)] ∧ Z.Warmed39 U.vm ∧ U.heap = h0) (fun _ _ _ _ _ => True) (fun _ U o U' => ∃ v L, o = .returned v ∧ Q_mem Z gs h0 n0 v U'.heap L ∧ FrameEnd U o U' L ({ frames := 2, cells := 1, slots := 3, locals := 31 } : Room).cells ({ frames := 2, cells := 1, slots := 3, locals := 31 } : Room).slots) := by
  refine MetFree.of_bodySF (plainFor_of_name pn_com_example_whittle_whittle_engine_WordSets) hisR ?_
  intro p e s m args below meth c s₁ Bd hml0 hP hK
  obtain ⟨rfl, hZ, hh⟩ := hP
  have hx := Bd.exec
  have hby := Bd.bytes
  have hml : c.maxLocals = 9 := hml0
  have hown : s.vm.findClass "com/example/whittle/whittle/engine/WordSets" = some m.cls := findClass_of_methodNamed Bd.named
  have hnm := (name_of_methodNamed Bd.named Bd.method).1
  have X0 : Stand p l e ({ frames := 2, cells := 1, slots := 3, locals := 31 } : Room) s m #[(.ref P), (.ref W), (.int cn)] below meth c s₁ [] 0 0 := Stand.of_body Bd
  have e0 : s₁.heap = h0 := by rw [← hh, Bd.state]; rfl
  have N0 := Fr.nil n0
  have pre0 : ∀ t, Sg p e below (s₁.setTop (mkF m 0 #[sR P, sR W, sI cn, sU, sU, sU, sU, sU, sU] [])) t → Steps p.tables e below (s₁.setTop (entryFrame m #[(.ref P), (.ref W), (.int cn)] 9)) t := fun t k => castTop (ef_mem m P W cn) k
  have P0 : ∀ t, Sg p e below (s₁.setTop (mkF m 0 #[sR P, sR W, sI cn, sU, sU, sU, sU, sU, sU] [])) t → Sg p e below (s₁.setTop (mkF m 0 #[sR P, sR W, sI cn, sU, sU, sU, sU, sU, sU] [])) t := fun t k => k
  obtain ⟨B0, pre0, P0⟩ : ∃ B : State, (∀ t, Steps p.tables e below B t → Steps p.tables e below (s₁.setTop (entryFrame m #[(.ref P), (.ref W), (.int cn)] 9)) t) ∧ Rg p e below (s₁.setTop (mkF m 0 #[sR P, sR W, sI cn, sU, sU, sU, sU, sU, sU] [])) B := ⟨_, pre0, P0⟩
  have hlen : pl.length ≤ 3 := own_lle hm
  rcases pl with _ | ⟨x0, _ | ⟨x1, _ | ⟨x2, _ | ⟨x3, pl⟩⟩⟩⟩
  · skip
    have hc' : cn = (0 : Int32) := hc
    subst hc'
    obtain rfl := own_len0 hl
    obtain rfl := own_rep0 hR
    obtain ⟨T1197, h1197, k1197, X1197, e1197, E1197, A1197, st1197⟩ := newP X0 hx hZ (own_hw hw 7 rfl) e0 (g := (mkF m 28 #[sR P, sR W, sI 0, sI 0, sI 0, sU, sU, sU, sU] [(.int (0 : Int32))])) rfl (hb hby dp22_4_28) rfl (by decide) (cap := 0) (by decide) (by decide) (by decide) (by decide)
    obtain ⟨b1197, g1197⟩ : ∃ z, z = h0.size := ⟨_, rfl⟩
    rw [← g1197] at A1197 st1197
    have g_b1197 : n0 ≤ b1197 := Nat.le_trans Z0 (Nat.le_of_eq g1197.symm)
    have sz_b1197 : h0.size ≤ b1197 := Nat.le_trans (Keep.refl h0 []).1 (Nat.le_of_eq g1197.symm)
    have P1198 : Rg p e below (T1197.setTop (mkF m 30 #[sR P, sR W, sI 0, sI 0, sI 0, sU, sU, sU, sU] [(.ref b1197)])) B0 := fun t k => P0 t (by
      refine XS.iconst X0.here hx rfl (hb hby dp22_4_0) ?_
      refine XS.istoreN X0.here hx rfl (hb hby dp22_4_1) rfl (l' := #[sR P, sR W, sI 0, sI 0, sU, sU, sU, sU, sU]) rfl ?_
      refine XS.iconst X0.here hx rfl (hb hby dp22_4_2) ?_
      refine XS.istore X0.here hx rfl (hb hby dp22_4_3) rfl (l' := #[sR P, sR W, sI 0, sI 0, sI 0, sU, sU, sU, sU]) rfl ?_
      refine XS.iload X0.here hx rfl (hb hby dp22_4_5) rfl ?_
      refine XS.iloadN X0.here hx rfl (hb hby dp22_4_7) rfl ?_
      refine XS.icmpYes X0.here hx rfl (pc0 := 8) (pc' := 27) rfl (hb hby dp22_4_8) rfl (flt (show ¬ ((0 : Int32) < (0 : Int32)) from (by decide))).2.1 (by decide) (by decide) ?_
      refine XS.iloadN X0.here hx rfl (hb hby dp22_4_27) rfl ?_
      show Sg p e below (s₁.setTop (mkF m 28 #[sR P, sR W, sI 0, sI 0, sI 0, sU, sU, sU, sU] [(.int (0 : Int32))])) _
      exact st1197 _ k)
    have Z1199 : n0 ≤ h1197.size := Nat.le_trans Z0 E1197.1
    have K1200 : Keep h0 h1197 [] := (Keep.refl h0 []).ext E1197
    have v1201 : Arv Z h1197 b1197 k1197 .int (0 : Int32) ([] : List Value) (.int (0 : Int32)) := Arv.new A1197 (by decide)
    obtain ⟨fs1202, hr1202, hrun1202, hended1202, hW1202, hsame1202⟩ := X1197.leave (v := some (.ref b1197)) (fun h => by rw [Bd.returns] at h; cases h)
    refine ⟨_, _, pre0 _ (P1198 _ ?_), hrun1202, hended1202, _, _, rfl, ?_, ⟨⟨_, rfl⟩, hW1202, hsame1202.mono (Nat.le_of_ble_eq_true rfl) (Nat.le_of_ble_eq_true rfl)⟩⟩
    · show Sg p e below (T1197.setTop (mkF m 30 #[sR P, sR W, sI 0, sI 0, sI 0, sU, sU, sU, sU] [(.ref b1197)])) _
      refine XS.astore X1197.here hx rfl (hb hby dp22_4_30) rfl rfl (l' := #[sR P, sR W, sI 0, sI 0, sR b1197, sU, sU, sU, sU]) rfl ?_
      refine XS.iconst X1197.here hx rfl (hb hby dp22_4_32) ?_
      refine XS.istore X1197.here hx rfl (hb hby dp22_4_33) rfl (l' := #[sR P, sR W, sI 0, sI 0, sR b1197, sI 0, sU, sU, sU]) rfl ?_
      refine XS.iconst X1197.here hx rfl (hb hby dp22_4_35) ?_
      refine XS.istore X1197.here hx rfl (hb hby dp22_4_36) rfl (l' := #[sR P, sR W, sI 0, sI 0, sR b1197, sI 0, sI 0, sU, sU]) rfl ?_
      refine XS.iload X1197.here hx rfl (hb hby dp22_4_38) rfl ?_
      refine XS.iloadN X1197.here hx rfl (hb hby dp22_4_40) rfl ?_
      refine XS.icmpYes X1197.here hx rfl (pc0 := 41) (pc' := 96) rfl (hb hby dp22_4_41) rfl (flt (show ¬ ((0 : Int32) < (0 : Int32)) from (by decide))).2.1 (by decide) (by decide) ?_
      refine XS.aload X1197.here hx rfl (hb hby dp22_4_96) rfl rfl ?_
      show Sg p e below (T1197.setTop (mkF m 98 #[sR P, sR W, sI 0, sI 0, sR b1197, sI 0, sI 0, sU, sU] [(.ref b1197)])) _
      exact retOut X1197 hx Bd.returns rfl (Or.inr (Or.inr (Or.inr (Or.inr ⟨rfl, rfl, rfl⟩)))) (hb hby dp22_4_98) hr1202
    · show Q_mem Z ([] : List (List Int32)) h0 n0 _ T1197.heap _
      rw [e1197]
      exact ⟨b1197, _, _, rfl, N0, K1200, rfl, v1201, sz_b1197⟩
  · skip
    have hc' : cn = (1 : Int32) := hc
    subst hc'
    obtain ⟨y0, rfl⟩ := own_len1 hl
    obtain ⟨g0, rfl, hw0, ho0⟩ := own_rep1 hR
    have htt : g0.length ≤ 3 := by simpa [Nat.add_assoc] using htot
    obtain ⟨cl1203, Ar1203, -, S1203, N1203, H1203, -⟩ := id AW
    have hin1203 : ¬ ((0 : Int32) < 0 ∨ cl1203.slots.size ≤ ((0 : Int32)).toNatClampNeg) := inb_of S1203 (own_inb (own_hM2 hM hl hv) (k := 0) (by simp) (own_hm2 hm hl hv))
    obtain ⟨_, _, ⟨T1204, L1204, k1204, n1204⟩, -, X1204, ⟨Lc1204, hQ1204, l1204, y1204, z1204⟩, st1204⟩ := Jvm.LawKit.callS X0 hx (y := (⟨"java/lang/Long", "bitCount", "(J)I"⟩ : MethodName)) hown (mvT hZ (own_hw hw 71 rfl)) (mvT hZ (own_hw hw 72 rfl)) (mvT hZ (own_hw hw 73 rfl)) (mvT hZ (own_hw hw 74 rfl)) (by decide) (backOf (W := 1) (rm_bct l Z a0 hw [] y0 h0 n0 Z0 ) hZ (own_hw hw 74 rfl) (own_hw hw 73 rfl) (by decide) (by decide)) (g := (mkF m 16 #[sR P, sR W, sI 1, sI 0, sI 0, sU, sU, sU, sU] [(.long y0), (.int (0 : Int32))])) rfl (by rw [hml]; rfl) (argsL := [(.long y0)]) (rest := [(.int (0 : Int32))]) (lenOf pd__28J_29I rfl) rfl (by show 2 * 0 + _ ≤ _; exact Nat.le_of_eq rfl) (hb hby dp22_4_16) (fun _ _ => ⟨rfl, e0, (Nat.le_of_ble_eq_true rfl : 0 + 0 ≤ _), (Nat.le_of_ble_eq_true rfl : 0 + 0 ≤ _)⟩)
    dsimp only [Pt.U, Pt.locs, Pt.cells, Pt.slots] at X1204 l1204 y1204 z1204 st1204 hQ1204
    subst l1204 y1204 z1204
    obtain ⟨r1204, rfl, Nq1204, e1204, hr1204⟩ := hQ1204
    have N1205 := Fr.app N0 Nq1204
    have P1206 : Rg p e below (T1204.setTop (mkF m 19 #[sR P, sR W, sI 1, sI 0, sI 0, sU, sU, sU, sU] [(.int r1204), (.int (0 : Int32))])) B0 := fun t k => P0 t (by
      refine XS.iconst X0.here hx rfl (hb hby dp22_4_0) ?_
      refine XS.istoreN X0.here hx rfl (hb hby dp22_4_1) rfl (l' := #[sR P, sR W, sI 1, sI 0, sU, sU, sU, sU, sU]) rfl ?_
      refine XS.iconst X0.here hx rfl (hb hby dp22_4_2) ?_
      refine XS.istore X0.here hx rfl (hb hby dp22_4_3) rfl (l' := #[sR P, sR W, sI 1, sI 0, sI 0, sU, sU, sU, sU]) rfl ?_
      refine XS.iload X0.here hx rfl (hb hby dp22_4_5) rfl ?_
      refine XS.iloadN X0.here hx rfl (hb hby dp22_4_7) rfl ?_
      refine XS.icmpNo X0.here hx rfl (hb hby dp22_4_8) rfl (tlt (show (0 : Int32) < (1 : Int32) from (by decide))).2.1 ?_
      refine XS.iloadN X0.here hx rfl (hb hby dp22_4_11) rfl ?_
      refine XS.aloadN X0.here hx rfl (hb hby dp22_4_12) rfl rfl ?_
      refine XS.iload X0.here hx rfl (hb hby dp22_4_13) rfl ?_
      show Sg p e below (s₁.setTop (mkF m 15 #[sR P, sR W, sI 1, sI 0, sI 0, sU, sU, sU, sU] [(.int (0 : Int32)), (.ref W), (.int (0 : Int32))])) _
      refine X0.laload hx (j := (0 : Int32)) (v := (.long y0)) (by rw [e0]; exact Ar1203.1) (State.isArrayOf_alike hZ.alike Ar1203.2.1) Ar1203.2.2 hin1203 (H1203.at hin1203 rfl) (g := (mkF m 15 #[sR P, sR W, sI 1, sI 0, sI 0, sU, sU, sU, sU] [(.int (0 : Int32)), (.ref W), (.int (0 : Int32))])) rfl rfl (hb hby dp22_4_15) _ ?_
      show Sg p e below (s₁.setTop (mkF m 16 #[sR P, sR W, sI 1, sI 0, sI 0, sU, sU, sU, sU] [(.long y0), (.int (0 : Int32))])) _
      exact st1204 _ k)
    have hb1204 : r1204 = Int32.ofNat g0.length := hr1204.trans (own_fb hw0 ho0 (by omega))
    obtain ⟨N, hN⟩ : ∃ z : Int32, z = ((0 : Int32) + r1204) := ⟨_, rfl⟩
    have P1207 : Rg p e below (T1204.setTop (mkF m 27 #[sR P, sR W, sI 1, .val (.int ((0 : Int32) + r1204)), sI 1, sU, sU, sU, sU] [])) B0 := fun t k => P1206 t (by
      refine XS.iadd X1204.here hx rfl (hb hby dp22_4_19) rfl ?_
      refine XS.istoreN X1204.here hx rfl (hb hby dp22_4_20) rfl (l' := #[sR P, sR W, sI 1, .val (.int ((0 : Int32) + r1204)), sI 0, sU, sU, sU, sU]) rfl ?_
      refine XS.iinc X1204.here hx rfl (hb hby dp22_4_21) rfl (l' := #[sR P, sR W, sI 1, .val (.int ((0 : Int32) + r1204)), sI 1, sU, sU, sU, sU]) rfl ?_
      refine XS.goto X1204.here hx rfl (pc0 := 24) (pc' := 5) rfl (hb hby dp22_4_24) (by decide) (by decide) ?_
      refine XS.iload X1204.here hx rfl (hb hby dp22_4_5) rfl ?_
      refine XS.iloadN X1204.here hx rfl (hb hby dp22_4_7) rfl ?_
      refine XS.icmpYes X1204.here hx rfl (pc0 := 8) (pc' := 27) rfl (hb hby dp22_4_8) rfl (flt (show ¬ ((1 : Int32) < (1 : Int32)) from (by decide))).2.1 (by decide) (by decide) ?_
      show Sg p e below (T1204.setTop (mkF m 27 #[sR P, sR W, sI 1, .val (.int ((0 : Int32) + r1204)), sI 1, sU, sU, sU, sU] [])) _
      exact k)
    have P1208 : Rg p e below (T1204.setTop (mkF m 27 #[sR P, sR W, sI 1, sI N, sI 1, sU, sU, sU, sU] [])) B0 := fun t k => P1207 t (by rw [hN] at k; exact k)
    have hNt : N = Int32.ofNat (g0.length) := by rw [hN, hb1204]; exact own_sum1 _
    obtain ⟨T1209, h1209, k1209, X1209, e1209, E1209, A1209, st1209⟩ := newP X1204 hx hZ (own_hw hw 7 rfl) e1204 (g := (mkF m 28 #[sR P, sR W, sI 1, sI N, sI 1, sU, sU, sU, sU] [(.int N)])) rfl (hb hby dp22_4_28) rfl (own_nneg hNt htt) (cap := 3) (own_capN hNt htt) (by decide) (by decide) (by decide)
    obtain ⟨b1209, g1209⟩ : ∃ z, z = h0.size := ⟨_, rfl⟩
    rw [← g1209] at A1209 st1209
    have g_b1209 : n0 ≤ b1209 := Nat.le_trans Z0 (Nat.le_of_eq g1209.symm)
    have sz_b1209 : h0.size ≤ b1209 := Nat.le_trans (Keep.refl h0 []).1 (Nat.le_of_eq g1209.symm)
    have P1210 : Rg p e below (T1209.setTop (mkF m 30 #[sR P, sR W, sI 1, sI N, sI 1, sU, sU, sU, sU] [(.ref b1209)])) B0 := fun t k => P1208 t (by
      refine XS.iloadN X1204.here hx rfl (hb hby dp22_4_27) rfl ?_
      show Sg p e below (T1204.setTop (mkF m 28 #[sR P, sR W, sI 1, sI N, sI 1, sU, sU, sU, sU] [(.int N)])) _
      exact st1209 _ k)
    have Z1211 : n0 ≤ h1209.size := Nat.le_trans Z0 E1209.1
    have K1212 : Keep h0 h1209 [] := (Keep.refl h0 []).ext E1209
    have v1213 : Arv Z h1209 b1209 k1209 .int N ([] : List Value) (.int (0 : Int32)) := Arv.new A1209 (own_nneg hNt htt)
    have f1214 := (AW.ext E1209)
    obtain ⟨cl1215, Ar1215, -, S1215, N1215, H1215, -⟩ := id f1214
    have hin1215 : ¬ ((0 : Int32) < 0 ∨ cl1215.slots.size ≤ ((0 : Int32)).toNatClampNeg) := inb_of S1215 (own_inb (own_hM2 hM hl hv) (k := 0) (by simp) (own_hm2 hm hl hv))
    have f1216 := (AP.ext E1209)
    have P1217 : Rg p e below (T1209.setTop (mkF m 50 #[sR P, sR W, sI 1, sI N, sR b1209, sI 0, sI 0, .val (.long y0), .second] [])) B0 := fun t k => P1210 t (by
      refine XS.astore X1209.here hx rfl (hb hby dp22_4_30) rfl rfl (l' := #[sR P, sR W, sI 1, sI N, sR b1209, sU, sU, sU, sU]) rfl ?_
      refine XS.iconst X1209.here hx rfl (hb hby dp22_4_32) ?_
      refine XS.istore X1209.here hx rfl (hb hby dp22_4_33) rfl (l' := #[sR P, sR W, sI 1, sI N, sR b1209, sI 0, sU, sU, sU]) rfl ?_
      refine XS.iconst X1209.here hx rfl (hb hby dp22_4_35) ?_
      refine XS.istore X1209.here hx rfl (hb hby dp22_4_36) rfl (l' := #[sR P, sR W, sI 1, sI N, sR b1209, sI 0, sI 0, sU, sU]) rfl ?_
      refine XS.iload X1209.here hx rfl (hb hby dp22_4_38) rfl ?_
      refine XS.iloadN X1209.here hx rfl (hb hby dp22_4_40) rfl ?_
      refine XS.icmpNo X1209.here hx rfl (hb hby dp22_4_41) rfl (tlt (show (0 : Int32) < (1 : Int32) from (by decide))).2.1 ?_
      refine XS.aloadN X1209.here hx rfl (hb hby dp22_4_44) rfl rfl ?_
      refine XS.iload X1209.here hx rfl (hb hby dp22_4_45) rfl ?_
      show Sg p e below (T1209.setTop (mkF m 47 #[sR P, sR W, sI 1, sI N, sR b1209, sI 0, sI 0, sU, sU] [(.int (0 : Int32)), (.ref W)])) _
      refine X1209.laload hx (j := (0 : Int32)) (v := (.long y0)) (by rw [e1209]; exact Ar1215.1) (State.isArrayOf_alike hZ.alike Ar1215.2.1) Ar1215.2.2 hin1215 (H1215.at hin1215 rfl) (g := (mkF m 47 #[sR P, sR W, sI 1, sI N, sR b1209, sI 0, sI 0, sU, sU] [(.int (0 : Int32)), (.ref W)])) rfl rfl (hb hby dp22_4_47) _ ?_
      show Sg p e below (T1209.setTop (mkF m 48 #[sR P, sR W, sI 1, sI N, sR b1209, sI 0, sI 0, sU, sU] [(.long y0)])) _
      refine XS.lstore X1209.here hx rfl (hb hby dp22_4_48) rfl (l' := #[sR P, sR W, sI 1, sI N, sR b1209, sI 0, sI 0, .val (.long y0), .second]) rfl ?_
      show Sg p e below (T1209.setTop (mkF m 50 #[sR P, sR W, sI 1, sI N, sR b1209, sI 0, sI 0, .val (.long y0), .second] [])) _
      exact k)
    obtain ⟨T1218, h1218, L1218, nx21218, X1218, e1218, Nq1218, K1218, u1218_0, u1218_1, st1218⟩ := pc_grp P W b1209 kP k1209 M (1 : Int32) N N (0 : Int32) (0 : Int32) x0 (([x0] ++ ur).map Value.int) ([] : List Int32) (g0.length) y0 g0 X1209 hx hZ hw hby hml hown e1209 N1205 Z1211 (Nat.le_of_ble_eq_true rfl) (Nat.le_of_ble_eq_true rfl) (by decide) (by decide) g_b1209 f1216 (own_inb hM (k := 0) (by simp) hm) rfl v1213 hNt htt rfl (Nat.ne_of_lt (Nat.lt_of_lt_of_le AP.lt (Nat.le_of_eq g1209.symm))) (by simp only [List.length_append, List.length_nil]; omega) hw0 ho0
    have P1219 : Rg p e below (T1218.setTop (mkF m 50 #[sR P, sR W, sI 1, sI N, sR b1209, sI nx21218, sI 0, .val (.long (0 : Int64)), .second] [])) B0 := fun t k => P1217 t (by
      exact st1218 _ k)
    have Z1220 : n0 ≤ h1218.size := Nat.le_trans Z1211 K1218.1
    have K1221 : Keep h0 h1218 [] := K1212.trans K1218 ((allS (Or.inr sz_b1209) all0))
    have AR9 : Arv Z h1218 b1209 k1209 .int N (([g0] : List (List Int32)).flatten.map Value.int) (.int (0 : Int32)) := by simpa using u1218_1
    obtain ⟨fs1222, hr1222, hrun1222, hended1222, hW1222, hsame1222⟩ := X1218.leave (v := some (.ref b1209)) (fun h => by rw [Bd.returns] at h; cases h)
    refine ⟨_, _, pre0 _ (P1219 _ ?_), hrun1222, hended1222, _, _, rfl, ?_, ⟨⟨_, rfl⟩, hW1222, hsame1222.mono (Nat.le_of_ble_eq_true rfl) (Nat.le_of_ble_eq_true rfl)⟩⟩
    · show Sg p e below (T1218.setTop (mkF m 50 #[sR P, sR W, sI 1, sI N, sR b1209, sI nx21218, sI 0, .val (.long (0 : Int64)), .second] [])) _
      refine XS.lload X1218.here hx rfl (hb hby dp22_4_50) rfl ?_
      refine XS.lconst X1218.here hx rfl (hb hby dp22_4_52) ?_
      refine XS.lcmp X1218.here hx rfl (hb hby dp22_4_53) rfl ?_
      refine XS.ifYes X1218.here hx rfl (pc0 := 54) (pc' := 90) rfl (hb hby dp22_4_54) rfl (XT.ll_eq_t (show (0 : Int64) = (0 : Int64) from (by decide))) (by decide) (by decide) ?_
      refine XS.iinc X1218.here hx rfl (hb hby dp22_4_90) rfl (l' := #[sR P, sR W, sI 1, sI N, sR b1209, sI nx21218, sI 1, .val (.long (0 : Int64)), .second]) rfl ?_
      refine XS.goto X1218.here hx rfl (pc0 := 93) (pc' := 38) rfl (hb hby dp22_4_93) (by decide) (by decide) ?_
      refine XS.iload X1218.here hx rfl (hb hby dp22_4_38) rfl ?_
      refine XS.iloadN X1218.here hx rfl (hb hby dp22_4_40) rfl ?_
      refine XS.icmpYes X1218.here hx rfl (pc0 := 41) (pc' := 96) rfl (hb hby dp22_4_41) rfl (flt (show ¬ ((1 : Int32) < (1 : Int32)) from (by decide))).2.1 (by decide) (by decide) ?_
      refine XS.aload X1218.here hx rfl (hb hby dp22_4_96) rfl rfl ?_
      show Sg p e below (T1218.setTop (mkF m 98 #[sR P, sR W, sI 1, sI N, sR b1209, sI nx21218, sI 1, .val (.long (0 : Int64)), .second] [(.ref b1209)])) _
      exact retOut X1218 hx Bd.returns rfl (Or.inr (Or.inr (Or.inr (Or.inr ⟨rfl, rfl, rfl⟩)))) (hb hby dp22_4_98) hr1222
    · show Q_mem Z ([g0] : List (List Int32)) h0 n0 _ T1218.heap _
      rw [e1218]
      exact ⟨b1209, _, N, rfl, Nq1218, K1221, by rw [hNt]; simp [Nat.add_assoc], AR9, sz_b1209⟩
  · skip
    have hc' : cn = (2 : Int32) := hc
    subst hc'
    obtain ⟨y0, y1, rfl⟩ := own_len2 hl
    obtain ⟨g0, g1, rfl, hw0, ho0, hw1, ho1⟩ := own_rep2 hR
    have htt : g0.length + g1.length ≤ 3 := by simpa [Nat.add_assoc] using htot
    obtain ⟨cl1223, Ar1223, -, S1223, N1223, H1223, -⟩ := id AW
    have hin1223 : ¬ ((0 : Int32) < 0 ∨ cl1223.slots.size ≤ ((0 : Int32)).toNatClampNeg) := inb_of S1223 (own_inb (own_hM2 hM hl hv) (k := 0) (by simp) (own_hm2 hm hl hv))
    obtain ⟨_, _, ⟨T1224, L1224, k1224, n1224⟩, -, X1224, ⟨Lc1224, hQ1224, l1224, y1224, z1224⟩, st1224⟩ := Jvm.LawKit.callS X0 hx (y := (⟨"java/lang/Long", "bitCount", "(J)I"⟩ : MethodName)) hown (mvT hZ (own_hw hw 71 rfl)) (mvT hZ (own_hw hw 72 rfl)) (mvT hZ (own_hw hw 73 rfl)) (mvT hZ (own_hw hw 74 rfl)) (by decide) (backOf (W := 1) (rm_bct l Z a0 hw [] y0 h0 n0 Z0 ) hZ (own_hw hw 74 rfl) (own_hw hw 73 rfl) (by decide) (by decide)) (g := (mkF m 16 #[sR P, sR W, sI 2, sI 0, sI 0, sU, sU, sU, sU] [(.long y0), (.int (0 : Int32))])) rfl (by rw [hml]; rfl) (argsL := [(.long y0)]) (rest := [(.int (0 : Int32))]) (lenOf pd__28J_29I rfl) rfl (by show 2 * 0 + _ ≤ _; exact Nat.le_of_eq rfl) (hb hby dp22_4_16) (fun _ _ => ⟨rfl, e0, (Nat.le_of_ble_eq_true rfl : 0 + 0 ≤ _), (Nat.le_of_ble_eq_true rfl : 0 + 0 ≤ _)⟩)
    dsimp only [Pt.U, Pt.locs, Pt.cells, Pt.slots] at X1224 l1224 y1224 z1224 st1224 hQ1224
    subst l1224 y1224 z1224
    obtain ⟨r1224, rfl, Nq1224, e1224, hr1224⟩ := hQ1224
    have N1225 := Fr.app N0 Nq1224
    have P1226 : Rg p e below (T1224.setTop (mkF m 19 #[sR P, sR W, sI 2, sI 0, sI 0, sU, sU, sU, sU] [(.int r1224), (.int (0 : Int32))])) B0 := fun t k => P0 t (by
      refine XS.iconst X0.here hx rfl (hb hby dp22_4_0) ?_
      refine XS.istoreN X0.here hx rfl (hb hby dp22_4_1) rfl (l' := #[sR P, sR W, sI 2, sI 0, sU, sU, sU, sU, sU]) rfl ?_
      refine XS.iconst X0.here hx rfl (hb hby dp22_4_2) ?_
      refine XS.istore X0.here hx rfl (hb hby dp22_4_3) rfl (l' := #[sR P, sR W, sI 2, sI 0, sI 0, sU, sU, sU, sU]) rfl ?_
      refine XS.iload X0.here hx rfl (hb hby dp22_4_5) rfl ?_
      refine XS.iloadN X0.here hx rfl (hb hby dp22_4_7) rfl ?_
      refine XS.icmpNo X0.here hx rfl (hb hby dp22_4_8) rfl (tlt (show (0 : Int32) < (2 : Int32) from (by decide))).2.1 ?_
      refine XS.iloadN X0.here hx rfl (hb hby dp22_4_11) rfl ?_
      refine XS.aloadN X0.here hx rfl (hb hby dp22_4_12) rfl rfl ?_
      refine XS.iload X0.here hx rfl (hb hby dp22_4_13) rfl ?_
      show Sg p e below (s₁.setTop (mkF m 15 #[sR P, sR W, sI 2, sI 0, sI 0, sU, sU, sU, sU] [(.int (0 : Int32)), (.ref W), (.int (0 : Int32))])) _
      refine X0.laload hx (j := (0 : Int32)) (v := (.long y0)) (by rw [e0]; exact Ar1223.1) (State.isArrayOf_alike hZ.alike Ar1223.2.1) Ar1223.2.2 hin1223 (H1223.at hin1223 rfl) (g := (mkF m 15 #[sR P, sR W, sI 2, sI 0, sI 0, sU, sU, sU, sU] [(.int (0 : Int32)), (.ref W), (.int (0 : Int32))])) rfl rfl (hb hby dp22_4_15) _ ?_
      show Sg p e below (s₁.setTop (mkF m 16 #[sR P, sR W, sI 2, sI 0, sI 0, sU, sU, sU, sU] [(.long y0), (.int (0 : Int32))])) _
      exact st1224 _ k)
    have hb1224 : r1224 = Int32.ofNat g0.length := hr1224.trans (own_fb hw0 ho0 (by omega))
    obtain ⟨cl1227, Ar1227, -, S1227, N1227, H1227, -⟩ := id AW
    have hin1227 : ¬ ((1 : Int32) < 0 ∨ cl1227.slots.size ≤ ((1 : Int32)).toNatClampNeg) := inb_of S1227 (own_inb (own_hM2 hM hl hv) (k := 1) (by simp) (own_hm2 hm hl hv))
    obtain ⟨_, _, ⟨T1228, L1228, k1228, n1228⟩, -, X1228, ⟨Lc1228, hQ1228, l1228, y1228, z1228⟩, st1228⟩ := Jvm.LawKit.callS X1224 hx (y := (⟨"java/lang/Long", "bitCount", "(J)I"⟩ : MethodName)) hown (mvT hZ (own_hw hw 71 rfl)) (mvT hZ (own_hw hw 72 rfl)) (mvT hZ (own_hw hw 73 rfl)) (mvT hZ (own_hw hw 74 rfl)) (by decide) (backOf (W := 1) (rm_bct l Z a0 hw [] y1 h0 n0 Z0 ) hZ (own_hw hw 74 rfl) (own_hw hw 73 rfl) (by decide) (by decide)) (g := (mkF m 16 #[sR P, sR W, sI 2, .val (.int ((0 : Int32) + r1224)), sI 1, sU, sU, sU, sU] [(.long y1), (.int ((0 : Int32) + r1224))])) rfl (by rw [hml]; rfl) (argsL := [(.long y1)]) (rest := [(.int ((0 : Int32) + r1224))]) (lenOf pd__28J_29I rfl) rfl (by show 2 * 0 + _ ≤ _; exact Nat.le_of_eq rfl) (hb hby dp22_4_16) (fun _ _ => ⟨rfl, e1224, (Nat.le_of_ble_eq_true rfl : 0 + 0 ≤ _), (Nat.le_of_ble_eq_true rfl : 0 + 0 ≤ _)⟩)
    dsimp only [Pt.U, Pt.locs, Pt.cells, Pt.slots] at X1228 l1228 y1228 z1228 st1228 hQ1228
    subst l1228 y1228 z1228
    obtain ⟨r1228, rfl, Nq1228, e1228, hr1228⟩ := hQ1228
    have N1229 := Fr.app N1225 Nq1228
    have P1230 : Rg p e below (T1228.setTop (mkF m 19 #[sR P, sR W, sI 2, .val (.int ((0 : Int32) + r1224)), sI 1, sU, sU, sU, sU] [(.int r1228), (.int ((0 : Int32) + r1224))])) B0 := fun t k => P1226 t (by
      refine XS.iadd X1224.here hx rfl (hb hby dp22_4_19) rfl ?_
      refine XS.istoreN X1224.here hx rfl (hb hby dp22_4_20) rfl (l' := #[sR P, sR W, sI 2, .val (.int ((0 : Int32) + r1224)), sI 0, sU, sU, sU, sU]) rfl ?_
      refine XS.iinc X1224.here hx rfl (hb hby dp22_4_21) rfl (l' := #[sR P, sR W, sI 2, .val (.int ((0 : Int32) + r1224)), sI 1, sU, sU, sU, sU]) rfl ?_
      refine XS.goto X1224.here hx rfl (pc0 := 24) (pc' := 5) rfl (hb hby dp22_4_24) (by decide) (by decide) ?_
      refine XS.iload X1224.here hx rfl (hb hby dp22_4_5) rfl ?_
      refine XS.iloadN X1224.here hx rfl (hb hby dp22_4_7) rfl ?_
      refine XS.icmpNo X1224.here hx rfl (hb hby dp22_4_8) rfl (tlt (show (1 : Int32) < (2 : Int32) from (by decide))).2.1 ?_
      refine XS.iloadN X1224.here hx rfl (hb hby dp22_4_11) rfl ?_
      refine XS.aloadN X1224.here hx rfl (hb hby dp22_4_12) rfl rfl ?_
      refine XS.iload X1224.here hx rfl (hb hby dp22_4_13) rfl ?_
      show Sg p e below (T1224.setTop (mkF m 15 #[sR P, sR W, sI 2, .val (.int ((0 : Int32) + r1224)), sI 1, sU, sU, sU, sU] [(.int (1 : Int32)), (.ref W), (.int ((0 : Int32) + r1224))])) _
      refine X1224.laload hx (j := (1 : Int32)) (v := (.long y1)) (by rw [e1224]; exact Ar1227.1) (State.isArrayOf_alike hZ.alike Ar1227.2.1) Ar1227.2.2 hin1227 (H1227.at hin1227 rfl) (g := (mkF m 15 #[sR P, sR W, sI 2, .val (.int ((0 : Int32) + r1224)), sI 1, sU, sU, sU, sU] [(.int (1 : Int32)), (.ref W), (.int ((0 : Int32) + r1224))])) rfl rfl (hb hby dp22_4_15) _ ?_
      show Sg p e below (T1224.setTop (mkF m 16 #[sR P, sR W, sI 2, .val (.int ((0 : Int32) + r1224)), sI 1, sU, sU, sU, sU] [(.long y1), (.int ((0 : Int32) + r1224))])) _
      exact st1228 _ k)
    have hb1228 : r1228 = Int32.ofNat g1.length := hr1228.trans (own_fb hw1 ho1 (by omega))
    obtain ⟨N, hN⟩ : ∃ z : Int32, z = (((0 : Int32) + r1224) + r1228) := ⟨_, rfl⟩
    have P1231 : Rg p e below (T1228.setTop (mkF m 27 #[sR P, sR W, sI 2, .val (.int (((0 : Int32) + r1224) + r1228)), sI 2, sU, sU, sU, sU] [])) B0 := fun t k => P1230 t (by
      refine XS.iadd X1228.here hx rfl (hb hby dp22_4_19) rfl ?_
      refine XS.istoreN X1228.here hx rfl (hb hby dp22_4_20) rfl (l' := #[sR P, sR W, sI 2, .val (.int (((0 : Int32) + r1224) + r1228)), sI 1, sU, sU, sU, sU]) rfl ?_
      refine XS.iinc X1228.here hx rfl (hb hby dp22_4_21) rfl (l' := #[sR P, sR W, sI 2, .val (.int (((0 : Int32) + r1224) + r1228)), sI 2, sU, sU, sU, sU]) rfl ?_
      refine XS.goto X1228.here hx rfl (pc0 := 24) (pc' := 5) rfl (hb hby dp22_4_24) (by decide) (by decide) ?_
      refine XS.iload X1228.here hx rfl (hb hby dp22_4_5) rfl ?_
      refine XS.iloadN X1228.here hx rfl (hb hby dp22_4_7) rfl ?_
      refine XS.icmpYes X1228.here hx rfl (pc0 := 8) (pc' := 27) rfl (hb hby dp22_4_8) rfl (flt (show ¬ ((2 : Int32) < (2 : Int32)) from (by decide))).2.1 (by decide) (by decide) ?_
      show Sg p e below (T1228.setTop (mkF m 27 #[sR P, sR W, sI 2, .val (.int (((0 : Int32) + r1224) + r1228)), sI 2, sU, sU, sU, sU] [])) _
      exact k)
    have P1232 : Rg p e below (T1228.setTop (mkF m 27 #[sR P, sR W, sI 2, sI N, sI 2, sU, sU, sU, sU] [])) B0 := fun t k => P1231 t (by rw [hN] at k; exact k)
    have hNt : N = Int32.ofNat (g0.length + g1.length) := by rw [hN, hb1224, hb1228]; exact own_sum2 _ _
    obtain ⟨T1233, h1233, k1233, X1233, e1233, E1233, A1233, st1233⟩ := newP X1228 hx hZ (own_hw hw 7 rfl) e1228 (g := (mkF m 28 #[sR P, sR W, sI 2, sI N, sI 2, sU, sU, sU, sU] [(.int N)])) rfl (hb hby dp22_4_28) rfl (own_nneg hNt htt) (cap := 3) (own_capN hNt htt) (by decide) (by decide) (by decide)
    obtain ⟨b1233, g1233⟩ : ∃ z, z = h0.size := ⟨_, rfl⟩
    rw [← g1233] at A1233 st1233
    have g_b1233 : n0 ≤ b1233 := Nat.le_trans Z0 (Nat.le_of_eq g1233.symm)
    have sz_b1233 : h0.size ≤ b1233 := Nat.le_trans (Keep.refl h0 []).1 (Nat.le_of_eq g1233.symm)
    have P1234 : Rg p e below (T1233.setTop (mkF m 30 #[sR P, sR W, sI 2, sI N, sI 2, sU, sU, sU, sU] [(.ref b1233)])) B0 := fun t k => P1232 t (by
      refine XS.iloadN X1228.here hx rfl (hb hby dp22_4_27) rfl ?_
      show Sg p e below (T1228.setTop (mkF m 28 #[sR P, sR W, sI 2, sI N, sI 2, sU, sU, sU, sU] [(.int N)])) _
      exact st1233 _ k)
    have Z1235 : n0 ≤ h1233.size := Nat.le_trans Z0 E1233.1
    have K1236 : Keep h0 h1233 [] := (Keep.refl h0 []).ext E1233
    have v1237 : Arv Z h1233 b1233 k1233 .int N ([] : List Value) (.int (0 : Int32)) := Arv.new A1233 (own_nneg hNt htt)
    have f1238 := (AW.ext E1233)
    obtain ⟨cl1239, Ar1239, -, S1239, N1239, H1239, -⟩ := id f1238
    have hin1239 : ¬ ((0 : Int32) < 0 ∨ cl1239.slots.size ≤ ((0 : Int32)).toNatClampNeg) := inb_of S1239 (own_inb (own_hM2 hM hl hv) (k := 0) (by simp) (own_hm2 hm hl hv))
    have f1240 := (AP.ext E1233)
    have P1241 : Rg p e below (T1233.setTop (mkF m 50 #[sR P, sR W, sI 2, sI N, sR b1233, sI 0, sI 0, .val (.long y0), .second] [])) B0 := fun t k => P1234 t (by
      refine XS.astore X1233.here hx rfl (hb hby dp22_4_30) rfl rfl (l' := #[sR P, sR W, sI 2, sI N, sR b1233, sU, sU, sU, sU]) rfl ?_
      refine XS.iconst X1233.here hx rfl (hb hby dp22_4_32) ?_
      refine XS.istore X1233.here hx rfl (hb hby dp22_4_33) rfl (l' := #[sR P, sR W, sI 2, sI N, sR b1233, sI 0, sU, sU, sU]) rfl ?_
      refine XS.iconst X1233.here hx rfl (hb hby dp22_4_35) ?_
      refine XS.istore X1233.here hx rfl (hb hby dp22_4_36) rfl (l' := #[sR P, sR W, sI 2, sI N, sR b1233, sI 0, sI 0, sU, sU]) rfl ?_
      refine XS.iload X1233.here hx rfl (hb hby dp22_4_38) rfl ?_
      refine XS.iloadN X1233.here hx rfl (hb hby dp22_4_40) rfl ?_
      refine XS.icmpNo X1233.here hx rfl (hb hby dp22_4_41) rfl (tlt (show (0 : Int32) < (2 : Int32) from (by decide))).2.1 ?_
      refine XS.aloadN X1233.here hx rfl (hb hby dp22_4_44) rfl rfl ?_
      refine XS.iload X1233.here hx rfl (hb hby dp22_4_45) rfl ?_
      show Sg p e below (T1233.setTop (mkF m 47 #[sR P, sR W, sI 2, sI N, sR b1233, sI 0, sI 0, sU, sU] [(.int (0 : Int32)), (.ref W)])) _
      refine X1233.laload hx (j := (0 : Int32)) (v := (.long y0)) (by rw [e1233]; exact Ar1239.1) (State.isArrayOf_alike hZ.alike Ar1239.2.1) Ar1239.2.2 hin1239 (H1239.at hin1239 rfl) (g := (mkF m 47 #[sR P, sR W, sI 2, sI N, sR b1233, sI 0, sI 0, sU, sU] [(.int (0 : Int32)), (.ref W)])) rfl rfl (hb hby dp22_4_47) _ ?_
      show Sg p e below (T1233.setTop (mkF m 48 #[sR P, sR W, sI 2, sI N, sR b1233, sI 0, sI 0, sU, sU] [(.long y0)])) _
      refine XS.lstore X1233.here hx rfl (hb hby dp22_4_48) rfl (l' := #[sR P, sR W, sI 2, sI N, sR b1233, sI 0, sI 0, .val (.long y0), .second]) rfl ?_
      show Sg p e below (T1233.setTop (mkF m 50 #[sR P, sR W, sI 2, sI N, sR b1233, sI 0, sI 0, .val (.long y0), .second] [])) _
      exact k)
    obtain ⟨T1242, h1242, L1242, nx21242, X1242, e1242, Nq1242, K1242, u1242_0, u1242_1, st1242⟩ := pc_grp P W b1233 kP k1233 M (2 : Int32) N N (0 : Int32) (0 : Int32) x0 (([x0, x1] ++ ur).map Value.int) ([] : List Int32) (g0.length + g1.length) y0 g0 X1233 hx hZ hw hby hml hown e1233 N1229 Z1235 (Nat.le_of_ble_eq_true rfl) (Nat.le_of_ble_eq_true rfl) (by decide) (by decide) g_b1233 f1240 (own_inb hM (k := 0) (by simp) hm) rfl v1237 hNt htt rfl (Nat.ne_of_lt (Nat.lt_of_lt_of_le AP.lt (Nat.le_of_eq g1233.symm))) (by simp only [List.length_append, List.length_nil]; omega) hw0 ho0
    have P1243 : Rg p e below (T1242.setTop (mkF m 50 #[sR P, sR W, sI 2, sI N, sR b1233, sI nx21242, sI 0, .val (.long (0 : Int64)), .second] [])) B0 := fun t k => P1241 t (by
      exact st1242 _ k)
    have Z1244 : n0 ≤ h1242.size := Nat.le_trans Z1235 K1242.1
    have K1245 : Keep h0 h1242 [] := K1236.trans K1242 ((allS (Or.inr sz_b1233) all0))
    have f1246 := (f1238.keep K1242 (ninS (Nat.ne_of_lt (Nat.lt_of_lt_of_le AW.lt (Nat.le_of_eq g1233.symm))) nin0))
    obtain ⟨cl1247, Ar1247, -, S1247, N1247, H1247, -⟩ := id f1246
    have hin1247 : ¬ ((1 : Int32) < 0 ∨ cl1247.slots.size ≤ ((1 : Int32)).toNatClampNeg) := inb_of S1247 (own_inb (own_hM2 hM hl hv) (k := 1) (by simp) (own_hm2 hm hl hv))
    have f1248 := (f1240.keep K1242 (ninS (Nat.ne_of_lt (Nat.lt_of_lt_of_le AP.lt (Nat.le_of_eq g1233.symm))) nin0))
    have P1249 : Rg p e below (T1242.setTop (mkF m 50 #[sR P, sR W, sI 2, sI N, sR b1233, sI nx21242, sI 1, .val (.long y1), .second] [])) B0 := fun t k => P1243 t (by
      refine XS.lload X1242.here hx rfl (hb hby dp22_4_50) rfl ?_
      refine XS.lconst X1242.here hx rfl (hb hby dp22_4_52) ?_
      refine XS.lcmp X1242.here hx rfl (hb hby dp22_4_53) rfl ?_
      refine XS.ifYes X1242.here hx rfl (pc0 := 54) (pc' := 90) rfl (hb hby dp22_4_54) rfl (XT.ll_eq_t (show (0 : Int64) = (0 : Int64) from (by decide))) (by decide) (by decide) ?_
      refine XS.iinc X1242.here hx rfl (hb hby dp22_4_90) rfl (l' := #[sR P, sR W, sI 2, sI N, sR b1233, sI nx21242, sI 1, .val (.long (0 : Int64)), .second]) rfl ?_
      refine XS.goto X1242.here hx rfl (pc0 := 93) (pc' := 38) rfl (hb hby dp22_4_93) (by decide) (by decide) ?_
      refine XS.iload X1242.here hx rfl (hb hby dp22_4_38) rfl ?_
      refine XS.iloadN X1242.here hx rfl (hb hby dp22_4_40) rfl ?_
      refine XS.icmpNo X1242.here hx rfl (hb hby dp22_4_41) rfl (tlt (show (1 : Int32) < (2 : Int32) from (by decide))).2.1 ?_
      refine XS.aloadN X1242.here hx rfl (hb hby dp22_4_44) rfl rfl ?_
      refine XS.iload X1242.here hx rfl (hb hby dp22_4_45) rfl ?_
      show Sg p e below (T1242.setTop (mkF m 47 #[sR P, sR W, sI 2, sI N, sR b1233, sI nx21242, sI 1, .val (.long (0 : Int64)), .second] [(.int (1 : Int32)), (.ref W)])) _
      refine X1242.laload hx (j := (1 : Int32)) (v := (.long y1)) (by rw [e1242]; exact Ar1247.1) (State.isArrayOf_alike hZ.alike Ar1247.2.1) Ar1247.2.2 hin1247 (H1247.at hin1247 rfl) (g := (mkF m 47 #[sR P, sR W, sI 2, sI N, sR b1233, sI nx21242, sI 1, .val (.long (0 : Int64)), .second] [(.int (1 : Int32)), (.ref W)])) rfl rfl (hb hby dp22_4_47) _ ?_
      show Sg p e below (T1242.setTop (mkF m 48 #[sR P, sR W, sI 2, sI N, sR b1233, sI nx21242, sI 1, .val (.long (0 : Int64)), .second] [(.long y1)])) _
      refine XS.lstore X1242.here hx rfl (hb hby dp22_4_48) rfl (l' := #[sR P, sR W, sI 2, sI N, sR b1233, sI nx21242, sI 1, .val (.long y1), .second]) rfl ?_
      show Sg p e below (T1242.setTop (mkF m 50 #[sR P, sR W, sI 2, sI N, sR b1233, sI nx21242, sI 1, .val (.long y1), .second] [])) _
      exact k)
    obtain ⟨T1250, h1250, L1250, nx21250, X1250, e1250, Nq1250, K1250, u1250_0, u1250_1, st1250⟩ := pc_grp P W b1233 kP k1233 M (2 : Int32) N N nx21242 (1 : Int32) x1 (([x0, x1] ++ ur).map Value.int) (([] : List Int32) ++ g0) (g0.length + g1.length) y1 g1 X1242 hx hZ hw hby hml hown e1242 Nq1242 Z1244 (Nat.le_of_ble_eq_true rfl) (Nat.le_of_ble_eq_true rfl) (by decide) (by decide) g_b1233 f1248 (own_inb hM (k := 1) (by simp) hm) rfl u1242_1 hNt htt u1242_0 (Nat.ne_of_lt (Nat.lt_of_lt_of_le AP.lt (Nat.le_of_eq g1233.symm))) (by simp only [List.length_append, List.length_nil]; omega) hw1 ho1
    have P1251 : Rg p e below (T1250.setTop (mkF m 50 #[sR P, sR W, sI 2, sI N, sR b1233, sI nx21250, sI 1, .val (.long (0 : Int64)), .second] [])) B0 := fun t k => P1249 t (by
      exact st1250 _ k)
    have Z1252 : n0 ≤ h1250.size := Nat.le_trans Z1244 K1250.1
    have K1253 : Keep h0 h1250 [] := K1245.trans K1250 ((allS (Or.inr sz_b1233) all0))
    have AR9 : Arv Z h1250 b1233 k1233 .int N (([g0, g1] : List (List Int32)).flatten.map Value.int) (.int (0 : Int32)) := by simpa using u1250_1
    obtain ⟨fs1254, hr1254, hrun1254, hended1254, hW1254, hsame1254⟩ := X1250.leave (v := some (.ref b1233)) (fun h => by rw [Bd.returns] at h; cases h)
    refine ⟨_, _, pre0 _ (P1251 _ ?_), hrun1254, hended1254, _, _, rfl, ?_, ⟨⟨_, rfl⟩, hW1254, hsame1254.mono (Nat.le_of_ble_eq_true rfl) (Nat.le_of_ble_eq_true rfl)⟩⟩
    · show Sg p e below (T1250.setTop (mkF m 50 #[sR P, sR W, sI 2, sI N, sR b1233, sI nx21250, sI 1, .val (.long (0 : Int64)), .second] [])) _
      refine XS.lload X1250.here hx rfl (hb hby dp22_4_50) rfl ?_
      refine XS.lconst X1250.here hx rfl (hb hby dp22_4_52) ?_
      refine XS.lcmp X1250.here hx rfl (hb hby dp22_4_53) rfl ?_
      refine XS.ifYes X1250.here hx rfl (pc0 := 54) (pc' := 90) rfl (hb hby dp22_4_54) rfl (XT.ll_eq_t (show (0 : Int64) = (0 : Int64) from (by decide))) (by decide) (by decide) ?_
      refine XS.iinc X1250.here hx rfl (hb hby dp22_4_90) rfl (l' := #[sR P, sR W, sI 2, sI N, sR b1233, sI nx21250, sI 2, .val (.long (0 : Int64)), .second]) rfl ?_
      refine XS.goto X1250.here hx rfl (pc0 := 93) (pc' := 38) rfl (hb hby dp22_4_93) (by decide) (by decide) ?_
      refine XS.iload X1250.here hx rfl (hb hby dp22_4_38) rfl ?_
      refine XS.iloadN X1250.here hx rfl (hb hby dp22_4_40) rfl ?_
      refine XS.icmpYes X1250.here hx rfl (pc0 := 41) (pc' := 96) rfl (hb hby dp22_4_41) rfl (flt (show ¬ ((2 : Int32) < (2 : Int32)) from (by decide))).2.1 (by decide) (by decide) ?_
      refine XS.aload X1250.here hx rfl (hb hby dp22_4_96) rfl rfl ?_
      show Sg p e below (T1250.setTop (mkF m 98 #[sR P, sR W, sI 2, sI N, sR b1233, sI nx21250, sI 2, .val (.long (0 : Int64)), .second] [(.ref b1233)])) _
      exact retOut X1250 hx Bd.returns rfl (Or.inr (Or.inr (Or.inr (Or.inr ⟨rfl, rfl, rfl⟩)))) (hb hby dp22_4_98) hr1254
    · show Q_mem Z ([g0, g1] : List (List Int32)) h0 n0 _ T1250.heap _
      rw [e1250]
      exact ⟨b1233, _, N, rfl, Nq1250, K1253, by rw [hNt]; simp [Nat.add_assoc], AR9, sz_b1233⟩
  · skip
    have hc' : cn = (3 : Int32) := hc
    subst hc'
    obtain ⟨y0, y1, y2, rfl⟩ := own_len3 hl
    obtain ⟨g0, g1, g2, rfl, hw0, ho0, hw1, ho1, hw2, ho2⟩ := own_rep3 hR
    have htt : g0.length + g1.length + g2.length ≤ 3 := by simpa [Nat.add_assoc] using htot
    obtain ⟨cl1255, Ar1255, -, S1255, N1255, H1255, -⟩ := id AW
    have hin1255 : ¬ ((0 : Int32) < 0 ∨ cl1255.slots.size ≤ ((0 : Int32)).toNatClampNeg) := inb_of S1255 (own_inb (own_hM2 hM hl hv) (k := 0) (by simp) (own_hm2 hm hl hv))
    obtain ⟨_, _, ⟨T1256, L1256, k1256, n1256⟩, -, X1256, ⟨Lc1256, hQ1256, l1256, y1256, z1256⟩, st1256⟩ := Jvm.LawKit.callS X0 hx (y := (⟨"java/lang/Long", "bitCount", "(J)I"⟩ : MethodName)) hown (mvT hZ (own_hw hw 71 rfl)) (mvT hZ (own_hw hw 72 rfl)) (mvT hZ (own_hw hw 73 rfl)) (mvT hZ (own_hw hw 74 rfl)) (by decide) (backOf (W := 1) (rm_bct l Z a0 hw [] y0 h0 n0 Z0 ) hZ (own_hw hw 74 rfl) (own_hw hw 73 rfl) (by decide) (by decide)) (g := (mkF m 16 #[sR P, sR W, sI 3, sI 0, sI 0, sU, sU, sU, sU] [(.long y0), (.int (0 : Int32))])) rfl (by rw [hml]; rfl) (argsL := [(.long y0)]) (rest := [(.int (0 : Int32))]) (lenOf pd__28J_29I rfl) rfl (by show 2 * 0 + _ ≤ _; exact Nat.le_of_eq rfl) (hb hby dp22_4_16) (fun _ _ => ⟨rfl, e0, (Nat.le_of_ble_eq_true rfl : 0 + 0 ≤ _), (Nat.le_of_ble_eq_true rfl : 0 + 0 ≤ _)⟩)
    dsimp only [Pt.U, Pt.locs, Pt.cells, Pt.slots] at X1256 l1256 y1256 z1256 st1256 hQ1256
    subst l1256 y1256 z1256
    obtain ⟨r1256, rfl, Nq1256, e1256, hr1256⟩ := hQ1256
    have N1257 := Fr.app N0 Nq1256
    have P1258 : Rg p e below (T1256.setTop (mkF m 19 #[sR P, sR W, sI 3, sI 0, sI 0, sU, sU, sU, sU] [(.int r1256), (.int (0 : Int32))])) B0 := fun t k => P0 t (by
      refine XS.iconst X0.here hx rfl (hb hby dp22_4_0) ?_
      refine XS.istoreN X0.here hx rfl (hb hby dp22_4_1) rfl (l' := #[sR P, sR W, sI 3, sI 0, sU, sU, sU, sU, sU]) rfl ?_
      refine XS.iconst X0.here hx rfl (hb hby dp22_4_2) ?_
      refine XS.istore X0.here hx rfl (hb hby dp22_4_3) rfl (l' := #[sR P, sR W, sI 3, sI 0, sI 0, sU, sU, sU, sU]) rfl ?_
      refine XS.iload X0.here hx rfl (hb hby dp22_4_5) rfl ?_
      refine XS.iloadN X0.here hx rfl (hb hby dp22_4_7) rfl ?_
      refine XS.icmpNo X0.here hx rfl (hb hby dp22_4_8) rfl (tlt (show (0 : Int32) < (3 : Int32) from (by decide))).2.1 ?_
      refine XS.iloadN X0.here hx rfl (hb hby dp22_4_11) rfl ?_
      refine XS.aloadN X0.here hx rfl (hb hby dp22_4_12) rfl rfl ?_
      refine XS.iload X0.here hx rfl (hb hby dp22_4_13) rfl ?_
      show Sg p e below (s₁.setTop (mkF m 15 #[sR P, sR W, sI 3, sI 0, sI 0, sU, sU, sU, sU] [(.int (0 : Int32)), (.ref W), (.int (0 : Int32))])) _
      refine X0.laload hx (j := (0 : Int32)) (v := (.long y0)) (by rw [e0]; exact Ar1255.1) (State.isArrayOf_alike hZ.alike Ar1255.2.1) Ar1255.2.2 hin1255 (H1255.at hin1255 rfl) (g := (mkF m 15 #[sR P, sR W, sI 3, sI 0, sI 0, sU, sU, sU, sU] [(.int (0 : Int32)), (.ref W), (.int (0 : Int32))])) rfl rfl (hb hby dp22_4_15) _ ?_
      show Sg p e below (s₁.setTop (mkF m 16 #[sR P, sR W, sI 3, sI 0, sI 0, sU, sU, sU, sU] [(.long y0), (.int (0 : Int32))])) _
      exact st1256 _ k)
    have hb1256 : r1256 = Int32.ofNat g0.length := hr1256.trans (own_fb hw0 ho0 (by omega))
    obtain ⟨cl1259, Ar1259, -, S1259, N1259, H1259, -⟩ := id AW
    have hin1259 : ¬ ((1 : Int32) < 0 ∨ cl1259.slots.size ≤ ((1 : Int32)).toNatClampNeg) := inb_of S1259 (own_inb (own_hM2 hM hl hv) (k := 1) (by simp) (own_hm2 hm hl hv))
    obtain ⟨_, _, ⟨T1260, L1260, k1260, n1260⟩, -, X1260, ⟨Lc1260, hQ1260, l1260, y1260, z1260⟩, st1260⟩ := Jvm.LawKit.callS X1256 hx (y := (⟨"java/lang/Long", "bitCount", "(J)I"⟩ : MethodName)) hown (mvT hZ (own_hw hw 71 rfl)) (mvT hZ (own_hw hw 72 rfl)) (mvT hZ (own_hw hw 73 rfl)) (mvT hZ (own_hw hw 74 rfl)) (by decide) (backOf (W := 1) (rm_bct l Z a0 hw [] y1 h0 n0 Z0 ) hZ (own_hw hw 74 rfl) (own_hw hw 73 rfl) (by decide) (by decide)) (g := (mkF m 16 #[sR P, sR W, sI 3, .val (.int ((0 : Int32) + r1256)), sI 1, sU, sU, sU, sU] [(.long y1), (.int ((0 : Int32) + r1256))])) rfl (by rw [hml]; rfl) (argsL := [(.long y1)]) (rest := [(.int ((0 : Int32) + r1256))]) (lenOf pd__28J_29I rfl) rfl (by show 2 * 0 + _ ≤ _; exact Nat.le_of_eq rfl) (hb hby dp22_4_16) (fun _ _ => ⟨rfl, e1256, (Nat.le_of_ble_eq_true rfl : 0 + 0 ≤ _), (Nat.le_of_ble_eq_true rfl : 0 + 0 ≤ _)⟩)
    dsimp only [Pt.U, Pt.locs, Pt.cells, Pt.slots] at X1260 l1260 y1260 z1260 st1260 hQ1260
    subst l1260 y1260 z1260
    obtain ⟨r1260, rfl, Nq1260, e1260, hr1260⟩ := hQ1260
    have N1261 := Fr.app N1257 Nq1260
    have P1262 : Rg p e below (T1260.setTop (mkF m 19 #[sR P, sR W, sI 3, .val (.int ((0 : Int32) + r1256)), sI 1, sU, sU, sU, sU] [(.int r1260), (.int ((0 : Int32) + r1256))])) B0 := fun t k => P1258 t (by
      refine XS.iadd X1256.here hx rfl (hb hby dp22_4_19) rfl ?_
      refine XS.istoreN X1256.here hx rfl (hb hby dp22_4_20) rfl (l' := #[sR P, sR W, sI 3, .val (.int ((0 : Int32) + r1256)), sI 0, sU, sU, sU, sU]) rfl ?_
      refine XS.iinc X1256.here hx rfl (hb hby dp22_4_21) rfl (l' := #[sR P, sR W, sI 3, .val (.int ((0 : Int32) + r1256)), sI 1, sU, sU, sU, sU]) rfl ?_
      refine XS.goto X1256.here hx rfl (pc0 := 24) (pc' := 5) rfl (hb hby dp22_4_24) (by decide) (by decide) ?_
      refine XS.iload X1256.here hx rfl (hb hby dp22_4_5) rfl ?_
      refine XS.iloadN X1256.here hx rfl (hb hby dp22_4_7) rfl ?_
      refine XS.icmpNo X1256.here hx rfl (hb hby dp22_4_8) rfl (tlt (show (1 : Int32) < (3 : Int32) from (by decide))).2.1 ?_
      refine XS.iloadN X1256.here hx rfl (hb hby dp22_4_11) rfl ?_
      refine XS.aloadN X1256.here hx rfl (hb hby dp22_4_12) rfl rfl ?_
      refine XS.iload X1256.here hx rfl (hb hby dp22_4_13) rfl ?_
      show Sg p e below (T1256.setTop (mkF m 15 #[sR P, sR W, sI 3, .val (.int ((0 : Int32) + r1256)), sI 1, sU, sU, sU, sU] [(.int (1 : Int32)), (.ref W), (.int ((0 : Int32) + r1256))])) _
      refine X1256.laload hx (j := (1 : Int32)) (v := (.long y1)) (by rw [e1256]; exact Ar1259.1) (State.isArrayOf_alike hZ.alike Ar1259.2.1) Ar1259.2.2 hin1259 (H1259.at hin1259 rfl) (g := (mkF m 15 #[sR P, sR W, sI 3, .val (.int ((0 : Int32) + r1256)), sI 1, sU, sU, sU, sU] [(.int (1 : Int32)), (.ref W), (.int ((0 : Int32) + r1256))])) rfl rfl (hb hby dp22_4_15) _ ?_
      show Sg p e below (T1256.setTop (mkF m 16 #[sR P, sR W, sI 3, .val (.int ((0 : Int32) + r1256)), sI 1, sU, sU, sU, sU] [(.long y1), (.int ((0 : Int32) + r1256))])) _
      exact st1260 _ k)
    have hb1260 : r1260 = Int32.ofNat g1.length := hr1260.trans (own_fb hw1 ho1 (by omega))
    obtain ⟨cl1263, Ar1263, -, S1263, N1263, H1263, -⟩ := id AW
    have hin1263 : ¬ ((2 : Int32) < 0 ∨ cl1263.slots.size ≤ ((2 : Int32)).toNatClampNeg) := inb_of S1263 (own_inb (own_hM2 hM hl hv) (k := 2) (by simp) (own_hm2 hm hl hv))
    obtain ⟨_, _, ⟨T1264, L1264, k1264, n1264⟩, -, X1264, ⟨Lc1264, hQ1264, l1264, y1264, z1264⟩, st1264⟩ := Jvm.LawKit.callS X1260 hx (y := (⟨"java/lang/Long", "bitCount", "(J)I"⟩ : MethodName)) hown (mvT hZ (own_hw hw 71 rfl)) (mvT hZ (own_hw hw 72 rfl)) (mvT hZ (own_hw hw 73 rfl)) (mvT hZ (own_hw hw 74 rfl)) (by decide) (backOf (W := 1) (rm_bct l Z a0 hw [] y2 h0 n0 Z0 ) hZ (own_hw hw 74 rfl) (own_hw hw 73 rfl) (by decide) (by decide)) (g := (mkF m 16 #[sR P, sR W, sI 3, .val (.int (((0 : Int32) + r1256) + r1260)), sI 2, sU, sU, sU, sU] [(.long y2), (.int (((0 : Int32) + r1256) + r1260))])) rfl (by rw [hml]; rfl) (argsL := [(.long y2)]) (rest := [(.int (((0 : Int32) + r1256) + r1260))]) (lenOf pd__28J_29I rfl) rfl (by show 2 * 0 + _ ≤ _; exact Nat.le_of_eq rfl) (hb hby dp22_4_16) (fun _ _ => ⟨rfl, e1260, (Nat.le_of_ble_eq_true rfl : 0 + 0 ≤ _), (Nat.le_of_ble_eq_true rfl : 0 + 0 ≤ _)⟩)
    dsimp only [Pt.U, Pt.locs, Pt.cells, Pt.slots] at X1264 l1264 y1264 z1264 st1264 hQ1264
    subst l1264 y1264 z1264
    obtain ⟨r1264, rfl, Nq1264, e1264, hr1264⟩ := hQ1264
    have N1265 := Fr.app N1261 Nq1264
    have P1266 : Rg p e below (T1264.setTop (mkF m 19 #[sR P, sR W, sI 3, .val (.int (((0 : Int32) + r1256) + r1260)), sI 2, sU, sU, sU, sU] [(.int r1264), (.int (((0 : Int32) + r1256) + r1260))])) B0 := fun t k => P1262 t (by
      refine XS.iadd X1260.here hx rfl (hb hby dp22_4_19) rfl ?_
      refine XS.istoreN X1260.here hx rfl (hb hby dp22_4_20) rfl (l' := #[sR P, sR W, sI 3, .val (.int (((0 : Int32) + r1256) + r1260)), sI 1, sU, sU, sU, sU]) rfl ?_
      refine XS.iinc X1260.here hx rfl (hb hby dp22_4_21) rfl (l' := #[sR P, sR W, sI 3, .val (.int (((0 : Int32) + r1256) + r1260)), sI 2, sU, sU, sU, sU]) rfl ?_
      refine XS.goto X1260.here hx rfl (pc0 := 24) (pc' := 5) rfl (hb hby dp22_4_24) (by decide) (by decide) ?_
      refine XS.iload X1260.here hx rfl (hb hby dp22_4_5) rfl ?_
      refine XS.iloadN X1260.here hx rfl (hb hby dp22_4_7) rfl ?_
      refine XS.icmpNo X1260.here hx rfl (hb hby dp22_4_8) rfl (tlt (show (2 : Int32) < (3 : Int32) from (by decide))).2.1 ?_
      refine XS.iloadN X1260.here hx rfl (hb hby dp22_4_11) rfl ?_
      refine XS.aloadN X1260.here hx rfl (hb hby dp22_4_12) rfl rfl ?_
      refine XS.iload X1260.here hx rfl (hb hby dp22_4_13) rfl ?_
      show Sg p e below (T1260.setTop (mkF m 15 #[sR P, sR W, sI 3, .val (.int (((0 : Int32) + r1256) + r1260)), sI 2, sU, sU, sU, sU] [(.int (2 : Int32)), (.ref W), (.int (((0 : Int32) + r1256) + r1260))])) _
      refine X1260.laload hx (j := (2 : Int32)) (v := (.long y2)) (by rw [e1260]; exact Ar1263.1) (State.isArrayOf_alike hZ.alike Ar1263.2.1) Ar1263.2.2 hin1263 (H1263.at hin1263 rfl) (g := (mkF m 15 #[sR P, sR W, sI 3, .val (.int (((0 : Int32) + r1256) + r1260)), sI 2, sU, sU, sU, sU] [(.int (2 : Int32)), (.ref W), (.int (((0 : Int32) + r1256) + r1260))])) rfl rfl (hb hby dp22_4_15) _ ?_
      show Sg p e below (T1260.setTop (mkF m 16 #[sR P, sR W, sI 3, .val (.int (((0 : Int32) + r1256) + r1260)), sI 2, sU, sU, sU, sU] [(.long y2), (.int (((0 : Int32) + r1256) + r1260))])) _
      exact st1264 _ k)
    have hb1264 : r1264 = Int32.ofNat g2.length := hr1264.trans (own_fb hw2 ho2 (by omega))
    obtain ⟨N, hN⟩ : ∃ z : Int32, z = ((((0 : Int32) + r1256) + r1260) + r1264) := ⟨_, rfl⟩
    have P1267 : Rg p e below (T1264.setTop (mkF m 27 #[sR P, sR W, sI 3, .val (.int ((((0 : Int32) + r1256) + r1260) + r1264)), sI 3, sU, sU, sU, sU] [])) B0 := fun t k => P1266 t (by
      refine XS.iadd X1264.here hx rfl (hb hby dp22_4_19) rfl ?_
      refine XS.istoreN X1264.here hx rfl (hb hby dp22_4_20) rfl (l' := #[sR P, sR W, sI 3, .val (.int ((((0 : Int32) + r1256) + r1260) + r1264)), sI 2, sU, sU, sU, sU]) rfl ?_
      refine XS.iinc X1264.here hx rfl (hb hby dp22_4_21) rfl (l' := #[sR P, sR W, sI 3, .val (.int ((((0 : Int32) + r1256) + r1260) + r1264)), sI 3, sU, sU, sU, sU]) rfl ?_
      refine XS.goto X1264.here hx rfl (pc0 := 24) (pc' := 5) rfl (hb hby dp22_4_24) (by decide) (by decide) ?_
      refine XS.iload X1264.here hx rfl (hb hby dp22_4_5) rfl ?_
      refine XS.iloadN X1264.here hx rfl (hb hby dp22_4_7) rfl ?_
      refine XS.icmpYes X1264.here hx rfl (pc0 := 8) (pc' := 27) rfl (hb hby dp22_4_8) rfl (flt (show ¬ ((3 : Int32) < (3 : Int32)) from (by decide))).2.1 (by decide) (by decide) ?_
      show Sg p e below (T1264.setTop (mkF m 27 #[sR P, sR W, sI 3, .val (.int ((((0 : Int32) + r1256) + r1260) + r1264)), sI 3, sU, sU, sU, sU] [])) _
      exact k)
    have P1268 : Rg p e below (T1264.setTop (mkF m 27 #[sR P, sR W, sI 3, sI N, sI 3, sU, sU, sU, sU] [])) B0 := fun t k => P1267 t (by rw [hN] at k; exact k)
    have hNt : N = Int32.ofNat (g0.length + g1.length + g2.length) := by rw [hN, hb1256, hb1260, hb1264]; exact own_sum3 _ _ _
    obtain ⟨T1269, h1269, k1269, X1269, e1269, E1269, A1269, st1269⟩ := newP X1264 hx hZ (own_hw hw 7 rfl) e1264 (g := (mkF m 28 #[sR P, sR W, sI 3, sI N, sI 3, sU, sU, sU, sU] [(.int N)])) rfl (hb hby dp22_4_28) rfl (own_nneg hNt htt) (cap := 3) (own_capN hNt htt) (by decide) (by decide) (by decide)
    obtain ⟨b1269, g1269⟩ : ∃ z, z = h0.size := ⟨_, rfl⟩
    rw [← g1269] at A1269 st1269
    have g_b1269 : n0 ≤ b1269 := Nat.le_trans Z0 (Nat.le_of_eq g1269.symm)
    have sz_b1269 : h0.size ≤ b1269 := Nat.le_trans (Keep.refl h0 []).1 (Nat.le_of_eq g1269.symm)
    have P1270 : Rg p e below (T1269.setTop (mkF m 30 #[sR P, sR W, sI 3, sI N, sI 3, sU, sU, sU, sU] [(.ref b1269)])) B0 := fun t k => P1268 t (by
      refine XS.iloadN X1264.here hx rfl (hb hby dp22_4_27) rfl ?_
      show Sg p e below (T1264.setTop (mkF m 28 #[sR P, sR W, sI 3, sI N, sI 3, sU, sU, sU, sU] [(.int N)])) _
      exact st1269 _ k)
    have Z1271 : n0 ≤ h1269.size := Nat.le_trans Z0 E1269.1
    have K1272 : Keep h0 h1269 [] := (Keep.refl h0 []).ext E1269
    have v1273 : Arv Z h1269 b1269 k1269 .int N ([] : List Value) (.int (0 : Int32)) := Arv.new A1269 (own_nneg hNt htt)
    have f1274 := (AW.ext E1269)
    obtain ⟨cl1275, Ar1275, -, S1275, N1275, H1275, -⟩ := id f1274
    have hin1275 : ¬ ((0 : Int32) < 0 ∨ cl1275.slots.size ≤ ((0 : Int32)).toNatClampNeg) := inb_of S1275 (own_inb (own_hM2 hM hl hv) (k := 0) (by simp) (own_hm2 hm hl hv))
    have f1276 := (AP.ext E1269)
    have P1277 : Rg p e below (T1269.setTop (mkF m 50 #[sR P, sR W, sI 3, sI N, sR b1269, sI 0, sI 0, .val (.long y0), .second] [])) B0 := fun t k => P1270 t (by
      refine XS.astore X1269.here hx rfl (hb hby dp22_4_30) rfl rfl (l' := #[sR P, sR W, sI 3, sI N, sR b1269, sU, sU, sU, sU]) rfl ?_
      refine XS.iconst X1269.here hx rfl (hb hby dp22_4_32) ?_
      refine XS.istore X1269.here hx rfl (hb hby dp22_4_33) rfl (l' := #[sR P, sR W, sI 3, sI N, sR b1269, sI 0, sU, sU, sU]) rfl ?_
      refine XS.iconst X1269.here hx rfl (hb hby dp22_4_35) ?_
      refine XS.istore X1269.here hx rfl (hb hby dp22_4_36) rfl (l' := #[sR P, sR W, sI 3, sI N, sR b1269, sI 0, sI 0, sU, sU]) rfl ?_
      refine XS.iload X1269.here hx rfl (hb hby dp22_4_38) rfl ?_
      refine XS.iloadN X1269.here hx rfl (hb hby dp22_4_40) rfl ?_
      refine XS.icmpNo X1269.here hx rfl (hb hby dp22_4_41) rfl (tlt (show (0 : Int32) < (3 : Int32) from (by decide))).2.1 ?_
      refine XS.aloadN X1269.here hx rfl (hb hby dp22_4_44) rfl rfl ?_
      refine XS.iload X1269.here hx rfl (hb hby dp22_4_45) rfl ?_
      show Sg p e below (T1269.setTop (mkF m 47 #[sR P, sR W, sI 3, sI N, sR b1269, sI 0, sI 0, sU, sU] [(.int (0 : Int32)), (.ref W)])) _
      refine X1269.laload hx (j := (0 : Int32)) (v := (.long y0)) (by rw [e1269]; exact Ar1275.1) (State.isArrayOf_alike hZ.alike Ar1275.2.1) Ar1275.2.2 hin1275 (H1275.at hin1275 rfl) (g := (mkF m 47 #[sR P, sR W, sI 3, sI N, sR b1269, sI 0, sI 0, sU, sU] [(.int (0 : Int32)), (.ref W)])) rfl rfl (hb hby dp22_4_47) _ ?_
      show Sg p e below (T1269.setTop (mkF m 48 #[sR P, sR W, sI 3, sI N, sR b1269, sI 0, sI 0, sU, sU] [(.long y0)])) _
      refine XS.lstore X1269.here hx rfl (hb hby dp22_4_48) rfl (l' := #[sR P, sR W, sI 3, sI N, sR b1269, sI 0, sI 0, .val (.long y0), .second]) rfl ?_
      show Sg p e below (T1269.setTop (mkF m 50 #[sR P, sR W, sI 3, sI N, sR b1269, sI 0, sI 0, .val (.long y0), .second] [])) _
      exact k)
    obtain ⟨T1278, h1278, L1278, nx21278, X1278, e1278, Nq1278, K1278, u1278_0, u1278_1, st1278⟩ := pc_grp P W b1269 kP k1269 M (3 : Int32) N N (0 : Int32) (0 : Int32) x0 (([x0, x1, x2] ++ ur).map Value.int) ([] : List Int32) (g0.length + g1.length + g2.length) y0 g0 X1269 hx hZ hw hby hml hown e1269 N1265 Z1271 (Nat.le_of_ble_eq_true rfl) (Nat.le_of_ble_eq_true rfl) (by decide) (by decide) g_b1269 f1276 (own_inb hM (k := 0) (by simp) hm) rfl v1273 hNt htt rfl (Nat.ne_of_lt (Nat.lt_of_lt_of_le AP.lt (Nat.le_of_eq g1269.symm))) (by simp only [List.length_append, List.length_nil]; omega) hw0 ho0
    have P1279 : Rg p e below (T1278.setTop (mkF m 50 #[sR P, sR W, sI 3, sI N, sR b1269, sI nx21278, sI 0, .val (.long (0 : Int64)), .second] [])) B0 := fun t k => P1277 t (by
      exact st1278 _ k)
    have Z1280 : n0 ≤ h1278.size := Nat.le_trans Z1271 K1278.1
    have K1281 : Keep h0 h1278 [] := K1272.trans K1278 ((allS (Or.inr sz_b1269) all0))
    have f1282 := (f1274.keep K1278 (ninS (Nat.ne_of_lt (Nat.lt_of_lt_of_le AW.lt (Nat.le_of_eq g1269.symm))) nin0))
    obtain ⟨cl1283, Ar1283, -, S1283, N1283, H1283, -⟩ := id f1282
    have hin1283 : ¬ ((1 : Int32) < 0 ∨ cl1283.slots.size ≤ ((1 : Int32)).toNatClampNeg) := inb_of S1283 (own_inb (own_hM2 hM hl hv) (k := 1) (by simp) (own_hm2 hm hl hv))
    have f1284 := (f1276.keep K1278 (ninS (Nat.ne_of_lt (Nat.lt_of_lt_of_le AP.lt (Nat.le_of_eq g1269.symm))) nin0))
    have P1285 : Rg p e below (T1278.setTop (mkF m 50 #[sR P, sR W, sI 3, sI N, sR b1269, sI nx21278, sI 1, .val (.long y1), .second] [])) B0 := fun t k => P1279 t (by
      refine XS.lload X1278.here hx rfl (hb hby dp22_4_50) rfl ?_
      refine XS.lconst X1278.here hx rfl (hb hby dp22_4_52) ?_
      refine XS.lcmp X1278.here hx rfl (hb hby dp22_4_53) rfl ?_
      refine XS.ifYes X1278.here hx rfl (pc0 := 54) (pc' := 90) rfl (hb hby dp22_4_54) rfl (XT.ll_eq_t (show (0 : Int64) = (0 : Int64) from (by decide))) (by decide) (by decide) ?_
      refine XS.iinc X1278.here hx rfl (hb hby dp22_4_90) rfl (l' := #[sR P, sR W, sI 3, sI N, sR b1269, sI nx21278, sI 1, .val (.long (0 : Int64)), .second]) rfl ?_
      refine XS.goto X1278.here hx rfl (pc0 := 93) (pc' := 38) rfl (hb hby dp22_4_93) (by decide) (by decide) ?_
      refine XS.iload X1278.here hx rfl (hb hby dp22_4_38) rfl ?_
      refine XS.iloadN X1278.here hx rfl (hb hby dp22_4_40) rfl ?_
      refine XS.icmpNo X1278.here hx rfl (hb hby dp22_4_41) rfl (tlt (show (1 : Int32) < (3 : Int32) from (by decide))).2.1 ?_
      refine XS.aloadN X1278.here hx rfl (hb hby dp22_4_44) rfl rfl ?_
      refine XS.iload X1278.here hx rfl (hb hby dp22_4_45) rfl ?_
      show Sg p e below (T1278.setTop (mkF m 47 #[sR P, sR W, sI 3, sI N, sR b1269, sI nx21278, sI 1, .val (.long (0 : Int64)), .second] [(.int (1 : Int32)), (.ref W)])) _
      refine X1278.laload hx (j := (1 : Int32)) (v := (.long y1)) (by rw [e1278]; exact Ar1283.1) (State.isArrayOf_alike hZ.alike Ar1283.2.1) Ar1283.2.2 hin1283 (H1283.at hin1283 rfl) (g := (mkF m 47 #[sR P, sR W, sI 3, sI N, sR b1269, sI nx21278, sI 1, .val (.long (0 : Int64)), .second] [(.int (1 : Int32)), (.ref W)])) rfl rfl (hb hby dp22_4_47) _ ?_
      show Sg p e below (T1278.setTop (mkF m 48 #[sR P, sR W, sI 3, sI N, sR b1269, sI nx21278, sI 1, .val (.long (0 : Int64)), .second] [(.long y1)])) _
      refine XS.lstore X1278.here hx rfl (hb hby dp22_4_48) rfl (l' := #[sR P, sR W, sI 3, sI N, sR b1269, sI nx21278, sI 1, .val (.long y1), .second]) rfl ?_
      show Sg p e below (T1278.setTop (mkF m 50 #[sR P, sR W, sI 3, sI N, sR b1269, sI nx21278, sI 1, .val (.long y1), .second] [])) _
      exact k)
    obtain ⟨T1286, h1286, L1286, nx21286, X1286, e1286, Nq1286, K1286, u1286_0, u1286_1, st1286⟩ := pc_grp P W b1269 kP k1269 M (3 : Int32) N N nx21278 (1 : Int32) x1 (([x0, x1, x2] ++ ur).map Value.int) (([] : List Int32) ++ g0) (g0.length + g1.length + g2.length) y1 g1 X1278 hx hZ hw hby hml hown e1278 Nq1278 Z1280 (Nat.le_of_ble_eq_true rfl) (Nat.le_of_ble_eq_true rfl) (by decide) (by decide) g_b1269 f1284 (own_inb hM (k := 1) (by simp) hm) rfl u1278_1 hNt htt u1278_0 (Nat.ne_of_lt (Nat.lt_of_lt_of_le AP.lt (Nat.le_of_eq g1269.symm))) (by simp only [List.length_append, List.length_nil]; omega) hw1 ho1
    have P1287 : Rg p e below (T1286.setTop (mkF m 50 #[sR P, sR W, sI 3, sI N, sR b1269, sI nx21286, sI 1, .val (.long (0 : Int64)), .second] [])) B0 := fun t k => P1285 t (by
      exact st1286 _ k)
    have Z1288 : n0 ≤ h1286.size := Nat.le_trans Z1280 K1286.1
    have K1289 : Keep h0 h1286 [] := K1281.trans K1286 ((allS (Or.inr sz_b1269) all0))
    have f1290 := (f1282.keep K1286 (ninS (Nat.ne_of_lt (Nat.lt_of_lt_of_le AW.lt (Nat.le_of_eq g1269.symm))) nin0))
    obtain ⟨cl1291, Ar1291, -, S1291, N1291, H1291, -⟩ := id f1290
    have hin1291 : ¬ ((2 : Int32) < 0 ∨ cl1291.slots.size ≤ ((2 : Int32)).toNatClampNeg) := inb_of S1291 (own_inb (own_hM2 hM hl hv) (k := 2) (by simp) (own_hm2 hm hl hv))
    have f1292 := (f1284.keep K1286 (ninS (Nat.ne_of_lt (Nat.lt_of_lt_of_le AP.lt (Nat.le_of_eq g1269.symm))) nin0))
    have P1293 : Rg p e below (T1286.setTop (mkF m 50 #[sR P, sR W, sI 3, sI N, sR b1269, sI nx21286, sI 2, .val (.long y2), .second] [])) B0 := fun t k => P1287 t (by
      refine XS.lload X1286.here hx rfl (hb hby dp22_4_50) rfl ?_
      refine XS.lconst X1286.here hx rfl (hb hby dp22_4_52) ?_
      refine XS.lcmp X1286.here hx rfl (hb hby dp22_4_53) rfl ?_
      refine XS.ifYes X1286.here hx rfl (pc0 := 54) (pc' := 90) rfl (hb hby dp22_4_54) rfl (XT.ll_eq_t (show (0 : Int64) = (0 : Int64) from (by decide))) (by decide) (by decide) ?_
      refine XS.iinc X1286.here hx rfl (hb hby dp22_4_90) rfl (l' := #[sR P, sR W, sI 3, sI N, sR b1269, sI nx21286, sI 2, .val (.long (0 : Int64)), .second]) rfl ?_
      refine XS.goto X1286.here hx rfl (pc0 := 93) (pc' := 38) rfl (hb hby dp22_4_93) (by decide) (by decide) ?_
      refine XS.iload X1286.here hx rfl (hb hby dp22_4_38) rfl ?_
      refine XS.iloadN X1286.here hx rfl (hb hby dp22_4_40) rfl ?_
      refine XS.icmpNo X1286.here hx rfl (hb hby dp22_4_41) rfl (tlt (show (2 : Int32) < (3 : Int32) from (by decide))).2.1 ?_
      refine XS.aloadN X1286.here hx rfl (hb hby dp22_4_44) rfl rfl ?_
      refine XS.iload X1286.here hx rfl (hb hby dp22_4_45) rfl ?_
      show Sg p e below (T1286.setTop (mkF m 47 #[sR P, sR W, sI 3, sI N, sR b1269, sI nx21286, sI 2, .val (.long (0 : Int64)), .second] [(.int (2 : Int32)), (.ref W)])) _
      refine X1286.laload hx (j := (2 : Int32)) (v := (.long y2)) (by rw [e1286]; exact Ar1291.1) (State.isArrayOf_alike hZ.alike Ar1291.2.1) Ar1291.2.2 hin1291 (H1291.at hin1291 rfl) (g := (mkF m 47 #[sR P, sR W, sI 3, sI N, sR b1269, sI nx21286, sI 2, .val (.long (0 : Int64)), .second] [(.int (2 : Int32)), (.ref W)])) rfl rfl (hb hby dp22_4_47) _ ?_
      show Sg p e below (T1286.setTop (mkF m 48 #[sR P, sR W, sI 3, sI N, sR b1269, sI nx21286, sI 2, .val (.long (0 : Int64)), .second] [(.long y2)])) _
      refine XS.lstore X1286.here hx rfl (hb hby dp22_4_48) rfl (l' := #[sR P, sR W, sI 3, sI N, sR b1269, sI nx21286, sI 2, .val (.long y2), .second]) rfl ?_
      show Sg p e below (T1286.setTop (mkF m 50 #[sR P, sR W, sI 3, sI N, sR b1269, sI nx21286, sI 2, .val (.long y2), .second] [])) _
      exact k)
    obtain ⟨T1294, h1294, L1294, nx21294, X1294, e1294, Nq1294, K1294, u1294_0, u1294_1, st1294⟩ := pc_grp P W b1269 kP k1269 M (3 : Int32) N N nx21286 (2 : Int32) x2 (([x0, x1, x2] ++ ur).map Value.int) ((([] : List Int32) ++ g0) ++ g1) (g0.length + g1.length + g2.length) y2 g2 X1286 hx hZ hw hby hml hown e1286 Nq1286 Z1288 (Nat.le_of_ble_eq_true rfl) (Nat.le_of_ble_eq_true rfl) (by decide) (by decide) g_b1269 f1292 (own_inb hM (k := 2) (by simp) hm) rfl u1286_1 hNt htt u1286_0 (Nat.ne_of_lt (Nat.lt_of_lt_of_le AP.lt (Nat.le_of_eq g1269.symm))) (by simp only [List.length_append, List.length_nil]; omega) hw2 ho2
    have P1295 : Rg p e below (T1294.setTop (mkF m 50 #[sR P, sR W, sI 3, sI N, sR b1269, sI nx21294, sI 2, .val (.long (0 : Int64)), .second] [])) B0 := fun t k => P1293 t (by
      exact st1294 _ k)
    have Z1296 : n0 ≤ h1294.size := Nat.le_trans Z1288 K1294.1
    have K1297 : Keep h0 h1294 [] := K1289.trans K1294 ((allS (Or.inr sz_b1269) all0))
    have AR9 : Arv Z h1294 b1269 k1269 .int N (([g0, g1, g2] : List (List Int32)).flatten.map Value.int) (.int (0 : Int32)) := by simpa using u1294_1
    obtain ⟨fs1298, hr1298, hrun1298, hended1298, hW1298, hsame1298⟩ := X1294.leave (v := some (.ref b1269)) (fun h => by rw [Bd.returns] at h; cases h)
    refine ⟨_, _, pre0 _ (P1295 _ ?_), hrun1298, hended1298, _, _, rfl, ?_, ⟨⟨_, rfl⟩, hW1298, hsame1298.mono (Nat.le_of_ble_eq_true rfl) (Nat.le_of_ble_eq_true rfl)⟩⟩
    · show Sg p e below (T1294.setTop (mkF m 50 #[sR P, sR W, sI 3, sI N, sR b1269, sI nx21294, sI 2, .val (.long (0 : Int64)), .second] [])) _
      refine XS.lload X1294.here hx rfl (hb hby dp22_4_50) rfl ?_
      refine XS.lconst X1294.here hx rfl (hb hby dp22_4_52) ?_
      refine XS.lcmp X1294.here hx rfl (hb hby dp22_4_53) rfl ?_
      refine XS.ifYes X1294.here hx rfl (pc0 := 54) (pc' := 90) rfl (hb hby dp22_4_54) rfl (XT.ll_eq_t (show (0 : Int64) = (0 : Int64) from (by decide))) (by decide) (by decide) ?_
      refine XS.iinc X1294.here hx rfl (hb hby dp22_4_90) rfl (l' := #[sR P, sR W, sI 3, sI N, sR b1269, sI nx21294, sI 3, .val (.long (0 : Int64)), .second]) rfl ?_
      refine XS.goto X1294.here hx rfl (pc0 := 93) (pc' := 38) rfl (hb hby dp22_4_93) (by decide) (by decide) ?_
      refine XS.iload X1294.here hx rfl (hb hby dp22_4_38) rfl ?_
      refine XS.iloadN X1294.here hx rfl (hb hby dp22_4_40) rfl ?_
      refine XS.icmpYes X1294.here hx rfl (pc0 := 41) (pc' := 96) rfl (hb hby dp22_4_41) rfl (flt (show ¬ ((3 : Int32) < (3 : Int32)) from (by decide))).2.1 (by decide) (by decide) ?_
      refine XS.aload X1294.here hx rfl (hb hby dp22_4_96) rfl rfl ?_
      show Sg p e below (T1294.setTop (mkF m 98 #[sR P, sR W, sI 3, sI N, sR b1269, sI nx21294, sI 3, .val (.long (0 : Int64)), .second] [(.ref b1269)])) _
      exact retOut X1294 hx Bd.returns rfl (Or.inr (Or.inr (Or.inr (Or.inr ⟨rfl, rfl, rfl⟩)))) (hb hby dp22_4_98) hr1298
    · show Q_mem Z ([g0, g1, g2] : List (List Int32)) h0 n0 _ T1294.heap _
      rw [e1294]
      exact ⟨b1269, _, N, rfl, Nq1294, K1297, by rw [hNt]; simp [Nat.add_assoc], AR9, sz_b1269⟩
  · exact absurd hlen (by simp)
theorem dp23_6_0 : decode prog_23_method_6_code 0 = .ok (.aload_n 0, 1) := by decide +kernel
theorem dp23_6_1 : decode prog_23_method_6_code 1 = .ok (.getfield 7, 3) := by decide +kernel
theorem dp23_6_4 : decode prog_23_method_6_code 4 = .ok (.aload_n 0, 1) := by decide +kernel
theorem dp23_6_5 : decode prog_23_method_6_code 5 = .ok (.getfield 13, 3) := by decide +kernel
theorem dp23_6_8 : decode prog_23_method_6_code 8 = .ok (.aload_n 0, 1) := by decide +kernel
theorem dp23_6_9 : decode prog_23_method_6_code 9 = .ok (.getfield 25, 3) := by decide +kernel
theorem dp23_6_12 : decode prog_23_method_6_code 12 = .ok (.invokestatic 37, 3) := by decide +kernel
theorem pd__28_5bI_5bJI_29_5bI : parseMethodDescriptor "([I[JI)[I" = some ⟨[(.array .int), (.array .long), .int], some (.array .int)⟩ := by decide +kernel
theorem dp23_6_15 : decode prog_23_method_6_code 15 = .ok (.areturn, 1) := by decide +kernel
theorem ef_mbr (m : MethodId) (x0 : Addr) : entryFrame m #[(.ref x0)] 1 = mkF m 0 #[sR x0] [] := by (first | (simp [entryFrame, mkF, argsToLocals, Value.category]; done) | rfl)
def Q_mbr (Z : State) (gs : List (List Int32)) (h0 : Heap) (n0 : Nat) (v : Option Value) (h : Heap) (L : List Loc) : Prop := ∃ (R : Addr) (k : ClassId) (N : Int32), v = some (.ref R) ∧ Fr n0 L ∧ Keep h0 h [] ∧ N = Int32.ofNat gs.flatten.length ∧ Arv Z h R k .int N (gs.flatten.map Value.int) (.int (0 : Int32)) ∧ h0.size ≤ R
set_option maxRecDepth 65536 in
set_option maxHeartbeats 40000000 in
theorem rm_mbr (l : Launch) (Z : State) (a0 : Array Value) (hw : ∀ d ∈ tables_1, d.before a0 Z = true) (ws : List Jvm.Cond) (a1 P W : Addr) (kP kW : ClassId) (M : Int32) (pl ur : List Int32) (wv vr : List Int64) (cn : Int32) (gs : List (List Int32)) (h0 : Heap) (n0 : Nat) (Z0 : n0 ≤ h0.size) (g_a1 : n0 ≤ a1) (g_P : n0 ≤ P) (g_W : n0 ≤ W) (E1 : Exa Z h0 a1 sM) (EP : Exa Z h0 P "[I") (EW1 : Exa Z h0 W "[J") (Fp : Fld Z h0 a1 sM "places" "[I" (.ref P)) (Fw : Fld Z h0 a1 sM "words" "[J" (.ref W)) (Fc : Fld Z h0 a1 sM "count" "I" (.int cn)) (AP : Arv Z h0 P kP .int M ((pl ++ ur).map Value.int) (.int (0 : Int32))) (AW : Arv Z h0 W kW .long M ((wv ++ vr).map Value.long) (.long (0 : Int64))) (hM : M = Int32.ofNat (pl ++ ur).length) (hm : (pl ++ ur).length ≤ 3) (hc : cn = Int32.ofNat pl.length) (hl : wv.length = pl.length) (hv : vr.length = ur.length) (hR : own_Rep pl wv gs) (hcap : ∀ g ∈ gs, g.length + gs.length ≤ 4) (htot : gs.flatten.length ≤ 3) :
    MetFree l (⟨"com/example/whittle/whittle/engine/WordSets$Meet", "members", "()[I"⟩ : MethodName) (head1 (Jvm.Cond.code (⟨"com/example/whittle/whittle/engine/WordSets$Meet", "members", "()[I"⟩ : MethodName) prog_23_method_6_code 1 (some (.array .int)) :: ws) ({ frames := 3, cells := 1, slots := 3, locals := 51 } : Room)) (fun a U => a = #[(.ref a1)] ∧ Z.Warmed39 U.vm ∧ U.heap = h0) (fun _ _ _ _ _ => True) (fun _ U o U' => ∃ v L, o = .returned v ∧ Q_mbr Z gs h0 n0 v U'.heap L ∧ FrameEnd U o U' L ({ frames := 3, cells := 1, slots := 3, locals := 51 } : Room).cells ({ frames := 3, cells := 1, slots := 3, locals := 51 } : Room).slots) := by
  refine MetFree.of_bodySF (plainFor_of_name pn_com_example_whittle_whittle_engine_WordSets_Meet) hisR ?_
  intro p e s m args below meth c s₁ Bd hml0 hP hK
  obtain ⟨rfl, hZ, hh⟩ := hP
  have hx := Bd.exec
  have hby := Bd.bytes
  have hml : c.maxLocals = 1 := hml0
  have hown : s.vm.findClass "com/example/whittle/whittle/engine/WordSets$Meet" = some m.cls := findClass_of_methodNamed Bd.named
  have hnm := (name_of_methodNamed Bd.named Bd.method).1
  have X0 : Stand p l e ({ frames := 3, cells := 1, slots := 3, locals := 51 } : Room) s m #[(.ref a1)] below meth c s₁ [] 0 0 := Stand.of_body Bd
  have e0 : s₁.heap = h0 := by rw [← hh, Bd.state]; rfl
  have N0 := Fr.nil n0
  have pre0 : ∀ t, Sg p e below (s₁.setTop (mkF m 0 #[sR a1] [])) t → Steps p.tables e below (s₁.setTop (entryFrame m #[(.ref a1)] 1)) t := fun t k => castTop (ef_mbr m a1) k
  have P0 : ∀ t, Sg p e below (s₁.setTop (mkF m 0 #[sR a1] [])) t → Sg p e below (s₁.setTop (mkF m 0 #[sR a1] [])) t := fun t k => k
  obtain ⟨B0, pre0, P0⟩ : ∃ B : State, (∀ t, Steps p.tables e below B t → Steps p.tables e below (s₁.setTop (entryFrame m #[(.ref a1)] 1)) t) ∧ Rg p e below (s₁.setTop (mkF m 0 #[sR a1] [])) B := ⟨_, pre0, P0⟩
  obtain ⟨T1299, X1299, e1299, st1299⟩ := getF X0 hx hZ hown (host := "") (Or.inl (own_hw hw 34 rfl)) Via.refl e0 Fp (g := (mkF m 1 #[sR a1] [(.ref a1)])) rfl rfl (hb hby dp23_6_1)
  have P1300 : Rg p e below (T1299.setTop (mkF m 4 #[sR a1] [(.ref P)])) B0 := fun t k => P0 t (by
    refine XS.aloadN X0.here hx rfl (hb hby dp23_6_0) rfl rfl ?_
    show Sg p e below (s₁.setTop (mkF m 1 #[sR a1] [(.ref a1)])) _
    exact st1299 _ k)
  obtain ⟨T1301, X1301, e1301, st1301⟩ := getF X1299 hx hZ hown (host := "") (Or.inl (own_hw hw 36 rfl)) Via.refl e1299 Fw (g := (mkF m 5 #[sR a1] [(.ref a1), (.ref P)])) rfl rfl (hb hby dp23_6_5)
  have P1302 : Rg p e below (T1301.setTop (mkF m 8 #[sR a1] [(.ref W), (.ref P)])) B0 := fun t k => P1300 t (by
    refine XS.aloadN X1299.here hx rfl (hb hby dp23_6_4) rfl rfl ?_
    show Sg p e below (T1299.setTop (mkF m 5 #[sR a1] [(.ref a1), (.ref P)])) _
    exact st1301 _ k)
  obtain ⟨T1303, X1303, e1303, st1303⟩ := getF X1301 hx hZ hown (host := "") (Or.inl (own_hw hw 45 rfl)) Via.refl e1301 Fc (g := (mkF m 9 #[sR a1] [(.ref a1), (.ref W), (.ref P)])) rfl rfl (hb hby dp23_6_9)
  have P1304 : Rg p e below (T1303.setTop (mkF m 12 #[sR a1] [(.int cn), (.ref W), (.ref P)])) B0 := fun t k => P1302 t (by
    refine XS.aloadN X1301.here hx rfl (hb hby dp23_6_8) rfl rfl ?_
    show Sg p e below (T1301.setTop (mkF m 9 #[sR a1] [(.ref a1), (.ref W), (.ref P)])) _
    exact st1303 _ k)
  obtain ⟨_, _, ⟨T1305, L1305, k1305, n1305⟩, -, X1305, ⟨Lc1305, hQ1305, l1305, y1305, z1305⟩, st1305⟩ := callSN X1303 hx (y := (⟨"com/example/whittle/whittle/engine/WordSets", "members", "([I[JI)[I"⟩ : MethodName)) hown (mvMN hZ (own_hw hw 68 rfl)) (mvT hZ (own_hw hw 69 rfl)) (mvT hZ (own_hw hw 11 rfl)) (mvT hZ (own_hw hw 70 rfl)) (by decide) (backOf (W := 0) (rm_mem l Z a0 hw [] P W kP kW M pl ur wv vr cn gs h0 n0 Z0 AP AW hM hm hc hl hv hR hcap htot) hZ (own_hw hw 70 rfl) (own_hw hw 11 rfl) (by decide) (by decide)) (g := (mkF m 12 #[sR a1] [(.int cn), (.ref W), (.ref P)])) rfl (by rw [hml]; rfl) (argsL := [(.ref P), (.ref W), (.int cn)]) (rest := []) (lenOf pd__28_5bI_5bJI_29_5bI rfl) rfl (by show 2 * 0 + _ ≤ _; exact Nat.le_of_eq rfl) (hb hby dp23_6_12) (fun _ _ => ⟨rfl, e1303, (Nat.le_of_ble_eq_true rfl : 0 + 1 ≤ _), (Nat.le_of_ble_eq_true rfl : 0 + 3 ≤ _)⟩)
  dsimp only [Pt.U, Pt.locs, Pt.cells, Pt.slots] at X1305 l1305 y1305 z1305 st1305 hQ1305
  subst l1305 y1305 z1305
  obtain ⟨R1305, k1305, N1305, rfl, Nq1305, K1305, hN1305, A1305, s1305⟩ := hQ1305
  have N1306 := Fr.app N0 Nq1305
  have P1307 : Rg p e below (T1305.setTop (mkF m 15 #[sR a1] [(.ref R1305)])) B0 := fun t k => P1304 t (by
    exact st1305.trans k)
  have Z1308 : n0 ≤ T1305.heap.size := Nat.le_trans Z0 K1305.1
  have K1309 : Keep h0 T1305.heap [] := (Keep.refl h0 []).trans K1305 (all0)
  obtain ⟨fs1310, hr1310, hrun1310, hended1310, hW1310, hsame1310⟩ := X1305.leave (v := some (.ref R1305)) (fun h => by rw [Bd.returns] at h; cases h)
  refine ⟨_, _, pre0 _ (P1307 _ ?_), hrun1310, hended1310, _, _, rfl, ?_, ⟨⟨_, rfl⟩, hW1310, hsame1310.mono (Nat.le_of_ble_eq_true rfl) (Nat.le_of_ble_eq_true rfl)⟩⟩
  · show Sg p e below (T1305.setTop (mkF m 15 #[sR a1] [(.ref R1305)])) _
    exact retOut X1305 hx Bd.returns rfl (Or.inr (Or.inr (Or.inr (Or.inr ⟨rfl, rfl, rfl⟩)))) (hb hby dp23_6_15) hr1310
  · show Q_mbr Z gs h0 n0 _ T1305.heap _
    exact ⟨_, _, _, rfl, N1306, K1309, hN1305, A1305, s1305⟩
theorem d_method_2_code_0 : decode method_2_code 0 = .ok (.iload_n 3, 1) := by decide +kernel
theorem d_method_2_code_1 : decode method_2_code 1 = .ok (.iconst 3, 1) := by decide +kernel
theorem d_method_2_code_2 : decode method_2_code 2 = .ok (.iand, 1) := by decide +kernel
theorem d_method_2_code_3 : decode method_2_code 3 = .ok (.istore 6, 2) := by decide +kernel
theorem d_method_2_code_5 : decode method_2_code 5 = .ok (.iload 6, 2) := by decide +kernel
theorem d_method_2_code_7 : decode method_2_code 7 = .ok (.iconst 3, 1) := by decide +kernel
theorem d_method_2_code_8 : decode method_2_code 8 = .ok (.if_icmp .ne 6, 3) := by decide +kernel
theorem d_method_2_code_11 : decode method_2_code 11 = .ok (.iload 4, 2) := by decide +kernel
theorem d_method_2_code_13 : decode method_2_code 13 = .ok (.ireturn, 1) := by decide +kernel
theorem d_method_2_code_14 : decode method_2_code 14 = .ok (.iload 6, 2) := by decide +kernel
theorem d_method_2_code_16 : decode method_2_code 16 = .ok (.ifCond .ne 7, 3) := by decide +kernel
theorem d_method_2_code_19 : decode method_2_code 19 = .ok (.iload_n 0, 1) := by decide +kernel
theorem d_method_2_code_20 : decode method_2_code 20 = .ok (.goto 14, 3) := by decide +kernel
theorem d_method_2_code_34 : decode method_2_code 34 = .ok (.istore 7, 2) := by decide +kernel
theorem d_method_2_code_36 : decode method_2_code 36 = .ok (.iload_n 3, 1) := by decide +kernel
theorem d_method_2_code_37 : decode method_2_code 37 = .ok (.iconst 4, 1) := by decide +kernel
theorem d_method_2_code_38 : decode method_2_code 38 = .ok (.iand, 1) := by decide +kernel
theorem d_method_2_code_39 : decode method_2_code 39 = .ok (.ifCond .eq 13, 3) := by decide +kernel
theorem d_method_2_code_52 : decode method_2_code 52 = .ok (.iload 7, 2) := by decide +kernel
theorem d_method_2_code_54 : decode method_2_code 54 = .ok (.ireturn, 1) := by decide +kernel
theorem d_method_2_code_42 : decode method_2_code 42 = .ok (.iload 7, 2) := by decide +kernel
theorem d_method_2_code_44 : decode method_2_code 44 = .ok (.iload 5, 2) := by decide +kernel
theorem d_method_2_code_46 : decode method_2_code 46 = .ok (.bipush 127, 2) := by decide +kernel
theorem d_method_2_code_48 : decode method_2_code 48 = .ok (.iand, 1) := by decide +kernel
theorem d_method_2_code_49 : decode method_2_code 49 = .ok (.ixor, 1) := by decide +kernel
theorem d_method_2_code_50 : decode method_2_code 50 = .ok (.istore 7, 2) := by decide +kernel
theorem d_method_2_code_23 : decode method_2_code 23 = .ok (.iload 6, 2) := by decide +kernel
theorem d_method_2_code_25 : decode method_2_code 25 = .ok (.iconst 1, 1) := by decide +kernel
theorem d_method_2_code_26 : decode method_2_code 26 = .ok (.if_icmp .ne 7, 3) := by decide +kernel
theorem d_method_2_code_29 : decode method_2_code 29 = .ok (.iload_n 1, 1) := by decide +kernel
theorem d_method_2_code_30 : decode method_2_code 30 = .ok (.goto 4, 3) := by decide +kernel
theorem d_method_2_code_33 : decode method_2_code 33 = .ok (.iload_n 2, 1) := by decide +kernel
theorem pn_com_example_whittle_whittle_engine_MeetRemovePinLaw : plainName "com/example/whittle/whittle/engine/MeetRemovePinLaw" = true := by first | (simp [plainName, overriddenIn]; done) | decide +kernel
theorem ef_pick (m : MethodId) (x0 : Int32) (x1 : Int32) (x2 : Int32) (x3 : Int32) (x4 : Int32) (x5 : Int32) : entryFrame m #[(.int x0), (.int x1), (.int x2), (.int x3), (.int x4), (.int x5)] 8 = mkF m 0 #[sI x0, sI x1, sI x2, sI x3, sI x4, sI x5, sU, sU] [] := by (first | (simp [entryFrame, mkF, argsToLocals, Value.category]; done) | rfl)
def Q_pick  (h0 : Heap) (n0 : Nat) (v : Option Value) (h : Heap) (L : List Loc) : Prop := ∃ r : Int32, v = some (.int r) ∧ Fr n0 L ∧ h = h0
set_option maxRecDepth 65536 in
set_option maxHeartbeats 40000000 in
theorem rm_pick (l : Launch) (Z : State) (a0 : Array Value) (hw : ∀ d ∈ tables_1, d.before a0 Z = true) (ws : List Jvm.Cond) (p0 p1 p2 p3 p4 p5 : Int32) (h0 : Heap) (n0 : Nat) (Z0 : n0 ≤ h0.size)  :
    MetFree l (⟨"com/example/whittle/whittle/engine/MeetRemovePinLaw", "pick", "(IIIIII)I"⟩ : MethodName) (head1 (Jvm.Cond.code (⟨"com/example/whittle/whittle/engine/MeetRemovePinLaw", "pick", "(IIIIII)I"⟩ : MethodName) method_2_code 8 (some .int) :: ws) ({ frames := 0, cells := 0, slots := 0, locals := 0 } : Room)) (fun a U => a = #[(.int p0), (.int p1), (.int p2), (.int p3), (.int p4), (.int p5)] ∧ Z.Warmed39 U.vm ∧ U.heap = h0) (fun _ _ _ _ _ => True) (fun _ U o U' => ∃ v L, o = .returned v ∧ Q_pick  h0 n0 v U'.heap L ∧ FrameEnd U o U' L ({ frames := 0, cells := 0, slots := 0, locals := 0 } : Room).cells ({ frames := 0, cells := 0, slots := 0, locals := 0 } : Room).slots) := by
  refine MetFree.of_bodySF (plainFor_of_name pn_com_example_whittle_whittle_engine_MeetRemovePinLaw) hisR ?_
  intro p e s m args below meth c s₁ Bd hml0 hP hK
  obtain ⟨rfl, hZ, hh⟩ := hP
  have hx := Bd.exec
  have hby := Bd.bytes
  have hml : c.maxLocals = 8 := hml0
  have hown : s.vm.findClass "com/example/whittle/whittle/engine/MeetRemovePinLaw" = some m.cls := findClass_of_methodNamed Bd.named
  have hnm := (name_of_methodNamed Bd.named Bd.method).1
  have X0 : Stand p l e ({ frames := 0, cells := 0, slots := 0, locals := 0 } : Room) s m #[(.int p0), (.int p1), (.int p2), (.int p3), (.int p4), (.int p5)] below meth c s₁ [] 0 0 := Stand.of_body Bd
  have e0 : s₁.heap = h0 := by rw [← hh, Bd.state]; rfl
  have N0 := Fr.nil n0
  have pre0 : ∀ t, Sg p e below (s₁.setTop (mkF m 0 #[sI p0, sI p1, sI p2, sI p3, sI p4, sI p5, sU, sU] [])) t → Steps p.tables e below (s₁.setTop (entryFrame m #[(.int p0), (.int p1), (.int p2), (.int p3), (.int p4), (.int p5)] 8)) t := fun t k => castTop (ef_pick m p0 p1 p2 p3 p4 p5) k
  have P0 : ∀ t, Sg p e below (s₁.setTop (mkF m 0 #[sI p0, sI p1, sI p2, sI p3, sI p4, sI p5, sU, sU] [])) t → Sg p e below (s₁.setTop (mkF m 0 #[sI p0, sI p1, sI p2, sI p3, sI p4, sI p5, sU, sU] [])) t := fun t k => k
  obtain ⟨B0, pre0, P0⟩ : ∃ B : State, (∀ t, Steps p.tables e below B t → Steps p.tables e below (s₁.setTop (entryFrame m #[(.int p0), (.int p1), (.int p2), (.int p3), (.int p4), (.int p5)] 8)) t) ∧ Rg p e below (s₁.setTop (mkF m 0 #[sI p0, sI p1, sI p2, sI p3, sI p4, sI p5, sU, sU] [])) B := ⟨_, pre0, P0⟩
  have P1311 : Rg p e below (s₁.setTop (mkF m 8 #[sI p0, sI p1, sI p2, sI p3, sI p4, sI p5, .val (.int (p3 &&& (3 : Int32))), sU] [(.int (3 : Int32)), (.int (p3 &&& (3 : Int32)))])) B0 := fun t k => P0 t (by
    refine XS.iloadN X0.here hx rfl (hb hby d_method_2_code_0) rfl ?_
    refine XS.iconst X0.here hx rfl (hb hby d_method_2_code_1) ?_
    refine XS.iand X0.here hx rfl (hb hby d_method_2_code_2) rfl ?_
    refine XS.istore X0.here hx rfl (hb hby d_method_2_code_3) rfl (l' := #[sI p0, sI p1, sI p2, sI p3, sI p4, sI p5, .val (.int (p3 &&& (3 : Int32))), sU]) rfl ?_
    refine XS.iload X0.here hx rfl (hb hby d_method_2_code_5) rfl ?_
    refine XS.iconst X0.here hx rfl (hb hby d_method_2_code_7) ?_
    show Sg p e below (s₁.setTop (mkF m 8 #[sI p0, sI p1, sI p2, sI p3, sI p4, sI p5, .val (.int (p3 &&& (3 : Int32))), sU] [(.int (3 : Int32)), (.int (p3 &&& (3 : Int32)))])) _
    exact k)
  by_cases q1312 : (p3 &&& (3 : Int32)) = (3 : Int32)
  · skip
    obtain ⟨fs1313, hr1313, hrun1313, hended1313, hW1313, hsame1313⟩ := X0.leave (v := some (.int p4)) (fun h => by rw [Bd.returns] at h; cases h)
    refine ⟨_, _, pre0 _ (P1311 _ ?_), hrun1313, hended1313, _, _, rfl, ?_, ⟨⟨_, rfl⟩, hW1313, hsame1313.mono (Nat.le_of_ble_eq_true rfl) (Nat.le_of_ble_eq_true rfl)⟩⟩
    · show Sg p e below (s₁.setTop (mkF m 8 #[sI p0, sI p1, sI p2, sI p3, sI p4, sI p5, .val (.int (p3 &&& (3 : Int32))), sU] [(.int (3 : Int32)), (.int (p3 &&& (3 : Int32)))])) _
      refine XS.icmpNo X0.here hx rfl (hb hby d_method_2_code_8) rfl (teq (show (p3 &&& (3 : Int32)) = (3 : Int32) from q1312)).2 ?_
      refine XS.iload X0.here hx rfl (hb hby d_method_2_code_11) rfl ?_
      show Sg p e below (s₁.setTop (mkF m 13 #[sI p0, sI p1, sI p2, sI p3, sI p4, sI p5, .val (.int (p3 &&& (3 : Int32))), sU] [(.int p4)])) _
      exact retI X0 hx Bd.returns (hb hby d_method_2_code_13) hr1313
    · show Q_pick  h0 n0 _ s₁.heap _
      rw [e0]
      exact ⟨_, rfl, N0, rfl⟩
  · skip
    by_cases q1314 : (p3 &&& (3 : Int32)) = (0 : Int32)
    · skip
      have P1315 : Rg p e below (s₁.setTop (mkF m 39 #[sI p0, sI p1, sI p2, sI p3, sI p4, sI p5, .val (.int (p3 &&& (3 : Int32))), sI p0] [(.int (p3 &&& (4 : Int32)))])) B0 := fun t k => P1311 t (by
        refine XS.icmpYes X0.here hx rfl (pc0 := 8) (pc' := 14) rfl (hb hby d_method_2_code_8) rfl (feq (show ¬ ((p3 &&& (3 : Int32)) = (3 : Int32)) from q1312)).2 (by decide) (by decide) ?_
        refine XS.iload X0.here hx rfl (hb hby d_method_2_code_14) rfl ?_
        refine XS.ifNo X0.here hx rfl (hb hby d_method_2_code_16) rfl ((if0 _ _).trans (teq (show (p3 &&& (3 : Int32)) = (0 : Int32) from q1314)).2) ?_
        refine XS.iloadN X0.here hx rfl (hb hby d_method_2_code_19) rfl ?_
        refine XS.goto X0.here hx rfl (pc0 := 20) (pc' := 34) rfl (hb hby d_method_2_code_20) (by decide) (by decide) ?_
        refine XS.istore X0.here hx rfl (hb hby d_method_2_code_34) rfl (l' := #[sI p0, sI p1, sI p2, sI p3, sI p4, sI p5, .val (.int (p3 &&& (3 : Int32))), sI p0]) rfl ?_
        refine XS.iloadN X0.here hx rfl (hb hby d_method_2_code_36) rfl ?_
        refine XS.iconst X0.here hx rfl (hb hby d_method_2_code_37) ?_
        refine XS.iand X0.here hx rfl (hb hby d_method_2_code_38) rfl ?_
        show Sg p e below (s₁.setTop (mkF m 39 #[sI p0, sI p1, sI p2, sI p3, sI p4, sI p5, .val (.int (p3 &&& (3 : Int32))), sI p0] [(.int (p3 &&& (4 : Int32)))])) _
        exact k)
      by_cases q1316 : (p3 &&& (4 : Int32)) = (0 : Int32)
      · skip
        obtain ⟨fs1317, hr1317, hrun1317, hended1317, hW1317, hsame1317⟩ := X0.leave (v := some (.int p0)) (fun h => by rw [Bd.returns] at h; cases h)
        refine ⟨_, _, pre0 _ (P1315 _ ?_), hrun1317, hended1317, _, _, rfl, ?_, ⟨⟨_, rfl⟩, hW1317, hsame1317.mono (Nat.le_of_ble_eq_true rfl) (Nat.le_of_ble_eq_true rfl)⟩⟩
        · show Sg p e below (s₁.setTop (mkF m 39 #[sI p0, sI p1, sI p2, sI p3, sI p4, sI p5, .val (.int (p3 &&& (3 : Int32))), sI p0] [(.int (p3 &&& (4 : Int32)))])) _
          refine XS.ifYes X0.here hx rfl (pc0 := 39) (pc' := 52) rfl (hb hby d_method_2_code_39) rfl ((if0 _ _).trans (teq (show (p3 &&& (4 : Int32)) = (0 : Int32) from q1316)).1) (by decide) (by decide) ?_
          refine XS.iload X0.here hx rfl (hb hby d_method_2_code_52) rfl ?_
          show Sg p e below (s₁.setTop (mkF m 54 #[sI p0, sI p1, sI p2, sI p3, sI p4, sI p5, .val (.int (p3 &&& (3 : Int32))), sI p0] [(.int p0)])) _
          exact retI X0 hx Bd.returns (hb hby d_method_2_code_54) hr1317
        · show Q_pick  h0 n0 _ s₁.heap _
          rw [e0]
          exact ⟨_, rfl, N0, rfl⟩
      · skip
        obtain ⟨fs1318, hr1318, hrun1318, hended1318, hW1318, hsame1318⟩ := X0.leave (v := some (.int (p0 ^^^ (p5 &&& (127 : Int32))))) (fun h => by rw [Bd.returns] at h; cases h)
        refine ⟨_, _, pre0 _ (P1315 _ ?_), hrun1318, hended1318, _, _, rfl, ?_, ⟨⟨_, rfl⟩, hW1318, hsame1318.mono (Nat.le_of_ble_eq_true rfl) (Nat.le_of_ble_eq_true rfl)⟩⟩
        · show Sg p e below (s₁.setTop (mkF m 39 #[sI p0, sI p1, sI p2, sI p3, sI p4, sI p5, .val (.int (p3 &&& (3 : Int32))), sI p0] [(.int (p3 &&& (4 : Int32)))])) _
          refine XS.ifNo X0.here hx rfl (hb hby d_method_2_code_39) rfl ((if0 _ _).trans (feq (show ¬ ((p3 &&& (4 : Int32)) = (0 : Int32)) from q1316)).1) ?_
          refine XS.iload X0.here hx rfl (hb hby d_method_2_code_42) rfl ?_
          refine XS.iload X0.here hx rfl (hb hby d_method_2_code_44) rfl ?_
          refine XS.bipush X0.here hx rfl (hb hby d_method_2_code_46) ?_
          refine XS.iand X0.here hx rfl (hb hby d_method_2_code_48) rfl ?_
          refine XS.ixor X0.here hx rfl (hb hby d_method_2_code_49) rfl ?_
          refine XS.istore X0.here hx rfl (hb hby d_method_2_code_50) rfl (l' := #[sI p0, sI p1, sI p2, sI p3, sI p4, sI p5, .val (.int (p3 &&& (3 : Int32))), .val (.int (p0 ^^^ (p5 &&& (127 : Int32))))]) rfl ?_
          refine XS.iload X0.here hx rfl (hb hby d_method_2_code_52) rfl ?_
          show Sg p e below (s₁.setTop (mkF m 54 #[sI p0, sI p1, sI p2, sI p3, sI p4, sI p5, .val (.int (p3 &&& (3 : Int32))), .val (.int (p0 ^^^ (p5 &&& (127 : Int32))))] [(.int (p0 ^^^ (p5 &&& (127 : Int32))))])) _
          exact retI X0 hx Bd.returns (hb hby d_method_2_code_54) hr1318
        · show Q_pick  h0 n0 _ s₁.heap _
          rw [e0]
          exact ⟨_, rfl, N0, rfl⟩
    · skip
      have P1319 : Rg p e below (s₁.setTop (mkF m 26 #[sI p0, sI p1, sI p2, sI p3, sI p4, sI p5, .val (.int (p3 &&& (3 : Int32))), sU] [(.int (1 : Int32)), (.int (p3 &&& (3 : Int32)))])) B0 := fun t k => P1311 t (by
        refine XS.icmpYes X0.here hx rfl (pc0 := 8) (pc' := 14) rfl (hb hby d_method_2_code_8) rfl (feq (show ¬ ((p3 &&& (3 : Int32)) = (3 : Int32)) from q1312)).2 (by decide) (by decide) ?_
        refine XS.iload X0.here hx rfl (hb hby d_method_2_code_14) rfl ?_
        refine XS.ifYes X0.here hx rfl (pc0 := 16) (pc' := 23) rfl (hb hby d_method_2_code_16) rfl ((if0 _ _).trans (feq (show ¬ ((p3 &&& (3 : Int32)) = (0 : Int32)) from q1314)).2) (by decide) (by decide) ?_
        refine XS.iload X0.here hx rfl (hb hby d_method_2_code_23) rfl ?_
        refine XS.iconst X0.here hx rfl (hb hby d_method_2_code_25) ?_
        show Sg p e below (s₁.setTop (mkF m 26 #[sI p0, sI p1, sI p2, sI p3, sI p4, sI p5, .val (.int (p3 &&& (3 : Int32))), sU] [(.int (1 : Int32)), (.int (p3 &&& (3 : Int32)))])) _
        exact k)
      by_cases q1320 : (p3 &&& (3 : Int32)) = (1 : Int32)
      · skip
        have P1321 : Rg p e below (s₁.setTop (mkF m 39 #[sI p0, sI p1, sI p2, sI p3, sI p4, sI p5, .val (.int (p3 &&& (3 : Int32))), sI p1] [(.int (p3 &&& (4 : Int32)))])) B0 := fun t k => P1319 t (by
          refine XS.icmpNo X0.here hx rfl (hb hby d_method_2_code_26) rfl (teq (show (p3 &&& (3 : Int32)) = (1 : Int32) from q1320)).2 ?_
          refine XS.iloadN X0.here hx rfl (hb hby d_method_2_code_29) rfl ?_
          refine XS.goto X0.here hx rfl (pc0 := 30) (pc' := 34) rfl (hb hby d_method_2_code_30) (by decide) (by decide) ?_
          refine XS.istore X0.here hx rfl (hb hby d_method_2_code_34) rfl (l' := #[sI p0, sI p1, sI p2, sI p3, sI p4, sI p5, .val (.int (p3 &&& (3 : Int32))), sI p1]) rfl ?_
          refine XS.iloadN X0.here hx rfl (hb hby d_method_2_code_36) rfl ?_
          refine XS.iconst X0.here hx rfl (hb hby d_method_2_code_37) ?_
          refine XS.iand X0.here hx rfl (hb hby d_method_2_code_38) rfl ?_
          show Sg p e below (s₁.setTop (mkF m 39 #[sI p0, sI p1, sI p2, sI p3, sI p4, sI p5, .val (.int (p3 &&& (3 : Int32))), sI p1] [(.int (p3 &&& (4 : Int32)))])) _
          exact k)
        by_cases q1322 : (p3 &&& (4 : Int32)) = (0 : Int32)
        · skip
          obtain ⟨fs1323, hr1323, hrun1323, hended1323, hW1323, hsame1323⟩ := X0.leave (v := some (.int p1)) (fun h => by rw [Bd.returns] at h; cases h)
          refine ⟨_, _, pre0 _ (P1321 _ ?_), hrun1323, hended1323, _, _, rfl, ?_, ⟨⟨_, rfl⟩, hW1323, hsame1323.mono (Nat.le_of_ble_eq_true rfl) (Nat.le_of_ble_eq_true rfl)⟩⟩
          · show Sg p e below (s₁.setTop (mkF m 39 #[sI p0, sI p1, sI p2, sI p3, sI p4, sI p5, .val (.int (p3 &&& (3 : Int32))), sI p1] [(.int (p3 &&& (4 : Int32)))])) _
            refine XS.ifYes X0.here hx rfl (pc0 := 39) (pc' := 52) rfl (hb hby d_method_2_code_39) rfl ((if0 _ _).trans (teq (show (p3 &&& (4 : Int32)) = (0 : Int32) from q1322)).1) (by decide) (by decide) ?_
            refine XS.iload X0.here hx rfl (hb hby d_method_2_code_52) rfl ?_
            show Sg p e below (s₁.setTop (mkF m 54 #[sI p0, sI p1, sI p2, sI p3, sI p4, sI p5, .val (.int (p3 &&& (3 : Int32))), sI p1] [(.int p1)])) _
            exact retI X0 hx Bd.returns (hb hby d_method_2_code_54) hr1323
          · show Q_pick  h0 n0 _ s₁.heap _
            rw [e0]
            exact ⟨_, rfl, N0, rfl⟩
        · skip
          obtain ⟨fs1324, hr1324, hrun1324, hended1324, hW1324, hsame1324⟩ := X0.leave (v := some (.int (p1 ^^^ (p5 &&& (127 : Int32))))) (fun h => by rw [Bd.returns] at h; cases h)
          refine ⟨_, _, pre0 _ (P1321 _ ?_), hrun1324, hended1324, _, _, rfl, ?_, ⟨⟨_, rfl⟩, hW1324, hsame1324.mono (Nat.le_of_ble_eq_true rfl) (Nat.le_of_ble_eq_true rfl)⟩⟩
          · show Sg p e below (s₁.setTop (mkF m 39 #[sI p0, sI p1, sI p2, sI p3, sI p4, sI p5, .val (.int (p3 &&& (3 : Int32))), sI p1] [(.int (p3 &&& (4 : Int32)))])) _
            refine XS.ifNo X0.here hx rfl (hb hby d_method_2_code_39) rfl ((if0 _ _).trans (feq (show ¬ ((p3 &&& (4 : Int32)) = (0 : Int32)) from q1322)).1) ?_
            refine XS.iload X0.here hx rfl (hb hby d_method_2_code_42) rfl ?_
            refine XS.iload X0.here hx rfl (hb hby d_method_2_code_44) rfl ?_
            refine XS.bipush X0.here hx rfl (hb hby d_method_2_code_46) ?_
            refine XS.iand X0.here hx rfl (hb hby d_method_2_code_48) rfl ?_
            refine XS.ixor X0.here hx rfl (hb hby d_method_2_code_49) rfl ?_
            refine XS.istore X0.here hx rfl (hb hby d_method_2_code_50) rfl (l' := #[sI p0, sI p1, sI p2, sI p3, sI p4, sI p5, .val (.int (p3 &&& (3 : Int32))), .val (.int (p1 ^^^ (p5 &&& (127 : Int32))))]) rfl ?_
            refine XS.iload X0.here hx rfl (hb hby d_method_2_code_52) rfl ?_
            show Sg p e below (s₁.setTop (mkF m 54 #[sI p0, sI p1, sI p2, sI p3, sI p4, sI p5, .val (.int (p3 &&& (3 : Int32))), .val (.int (p1 ^^^ (p5 &&& (127 : Int32))))] [(.int (p1 ^^^ (p5 &&& (127 : Int32))))])) _
            exact retI X0 hx Bd.returns (hb hby d_method_2_code_54) hr1324
          · show Q_pick  h0 n0 _ s₁.heap _
            rw [e0]
            exact ⟨_, rfl, N0, rfl⟩
      · skip
        have P1325 : Rg p e below (s₁.setTop (mkF m 39 #[sI p0, sI p1, sI p2, sI p3, sI p4, sI p5, .val (.int (p3 &&& (3 : Int32))), sI p2] [(.int (p3 &&& (4 : Int32)))])) B0 := fun t k => P1319 t (by
          refine XS.icmpYes X0.here hx rfl (pc0 := 26) (pc' := 33) rfl (hb hby d_method_2_code_26) rfl (feq (show ¬ ((p3 &&& (3 : Int32)) = (1 : Int32)) from q1320)).2 (by decide) (by decide) ?_
          refine XS.iloadN X0.here hx rfl (hb hby d_method_2_code_33) rfl ?_
          refine XS.istore X0.here hx rfl (hb hby d_method_2_code_34) rfl (l' := #[sI p0, sI p1, sI p2, sI p3, sI p4, sI p5, .val (.int (p3 &&& (3 : Int32))), sI p2]) rfl ?_
          refine XS.iloadN X0.here hx rfl (hb hby d_method_2_code_36) rfl ?_
          refine XS.iconst X0.here hx rfl (hb hby d_method_2_code_37) ?_
          refine XS.iand X0.here hx rfl (hb hby d_method_2_code_38) rfl ?_
          show Sg p e below (s₁.setTop (mkF m 39 #[sI p0, sI p1, sI p2, sI p3, sI p4, sI p5, .val (.int (p3 &&& (3 : Int32))), sI p2] [(.int (p3 &&& (4 : Int32)))])) _
          exact k)
        by_cases q1326 : (p3 &&& (4 : Int32)) = (0 : Int32)
        · skip
          obtain ⟨fs1327, hr1327, hrun1327, hended1327, hW1327, hsame1327⟩ := X0.leave (v := some (.int p2)) (fun h => by rw [Bd.returns] at h; cases h)
          refine ⟨_, _, pre0 _ (P1325 _ ?_), hrun1327, hended1327, _, _, rfl, ?_, ⟨⟨_, rfl⟩, hW1327, hsame1327.mono (Nat.le_of_ble_eq_true rfl) (Nat.le_of_ble_eq_true rfl)⟩⟩
          · show Sg p e below (s₁.setTop (mkF m 39 #[sI p0, sI p1, sI p2, sI p3, sI p4, sI p5, .val (.int (p3 &&& (3 : Int32))), sI p2] [(.int (p3 &&& (4 : Int32)))])) _
            refine XS.ifYes X0.here hx rfl (pc0 := 39) (pc' := 52) rfl (hb hby d_method_2_code_39) rfl ((if0 _ _).trans (teq (show (p3 &&& (4 : Int32)) = (0 : Int32) from q1326)).1) (by decide) (by decide) ?_
            refine XS.iload X0.here hx rfl (hb hby d_method_2_code_52) rfl ?_
            show Sg p e below (s₁.setTop (mkF m 54 #[sI p0, sI p1, sI p2, sI p3, sI p4, sI p5, .val (.int (p3 &&& (3 : Int32))), sI p2] [(.int p2)])) _
            exact retI X0 hx Bd.returns (hb hby d_method_2_code_54) hr1327
          · show Q_pick  h0 n0 _ s₁.heap _
            rw [e0]
            exact ⟨_, rfl, N0, rfl⟩
        · skip
          obtain ⟨fs1328, hr1328, hrun1328, hended1328, hW1328, hsame1328⟩ := X0.leave (v := some (.int (p2 ^^^ (p5 &&& (127 : Int32))))) (fun h => by rw [Bd.returns] at h; cases h)
          refine ⟨_, _, pre0 _ (P1325 _ ?_), hrun1328, hended1328, _, _, rfl, ?_, ⟨⟨_, rfl⟩, hW1328, hsame1328.mono (Nat.le_of_ble_eq_true rfl) (Nat.le_of_ble_eq_true rfl)⟩⟩
          · show Sg p e below (s₁.setTop (mkF m 39 #[sI p0, sI p1, sI p2, sI p3, sI p4, sI p5, .val (.int (p3 &&& (3 : Int32))), sI p2] [(.int (p3 &&& (4 : Int32)))])) _
            refine XS.ifNo X0.here hx rfl (hb hby d_method_2_code_39) rfl ((if0 _ _).trans (feq (show ¬ ((p3 &&& (4 : Int32)) = (0 : Int32)) from q1326)).1) ?_
            refine XS.iload X0.here hx rfl (hb hby d_method_2_code_42) rfl ?_
            refine XS.iload X0.here hx rfl (hb hby d_method_2_code_44) rfl ?_
            refine XS.bipush X0.here hx rfl (hb hby d_method_2_code_46) ?_
            refine XS.iand X0.here hx rfl (hb hby d_method_2_code_48) rfl ?_
            refine XS.ixor X0.here hx rfl (hb hby d_method_2_code_49) rfl ?_
            refine XS.istore X0.here hx rfl (hb hby d_method_2_code_50) rfl (l' := #[sI p0, sI p1, sI p2, sI p3, sI p4, sI p5, .val (.int (p3 &&& (3 : Int32))), .val (.int (p2 ^^^ (p5 &&& (127 : Int32))))]) rfl ?_
            refine XS.iload X0.here hx rfl (hb hby d_method_2_code_52) rfl ?_
            show Sg p e below (s₁.setTop (mkF m 54 #[sI p0, sI p1, sI p2, sI p3, sI p4, sI p5, .val (.int (p3 &&& (3 : Int32))), .val (.int (p2 ^^^ (p5 &&& (127 : Int32))))] [(.int (p2 ^^^ (p5 &&& (127 : Int32))))])) _
            exact retI X0 hx Bd.returns (hb hby d_method_2_code_54) hr1328
          · show Q_pick  h0 n0 _ s₁.heap _
            rw [e0]
            exact ⟨_, rfl, N0, rfl⟩
theorem pd__28IIIIII_29I : parseMethodDescriptor "(IIIIII)I" = some ⟨[.int, .int, .int, .int, .int, .int], some .int⟩ := by decide +kernel
theorem pd__28_5b_5bI_29V : parseMethodDescriptor "([[I)V" = some ⟨[(.array (.array .int))], none⟩ := by decide +kernel
theorem pd__28_29V : parseMethodDescriptor "()V" = some ⟨[], none⟩ := by decide +kernel
theorem pd__28Lcom_2fexample_2fwhittle_2fwhittle_2fengine_2fWordSets_3bI_29V : parseMethodDescriptor "(Lcom/example/whittle/whittle/engine/WordSets;I)V" = some ⟨[(.object sW), .int], none⟩ := by decide +kernel
theorem pd__28I_29V : parseMethodDescriptor "(I)V" = some ⟨[.int], none⟩ := by decide +kernel
theorem pd__28_29_5bI : parseMethodDescriptor "()[I" = some ⟨[], some (.array .int)⟩ := by decide +kernel
theorem pd__28_29Z : parseMethodDescriptor "()Z" = some ⟨[], some .boolean⟩ := by decide +kernel
theorem ef_law (m : MethodId) (x0 : Int32) (x1 : Int32) (x2 : Int32) (x3 : Int32) (x4 : Int32) (x5 : Int32) : entryFrame m #[(.int x0), (.int x1), (.int x2), (.int x3), (.int x4), (.int x5)] maxLocals = mkF m 0 #[sI x0, sI x1, sI x2, sI x3, sI x4, sI x5, sU, sU, sU, sU, sU, sU, sU, sU, sU, sU, sU, sU, sU, sU, sU, sU] [] := by (first | (simp [entryFrame, mkF, argsToLocals, Value.category, maxLocals]; done) | rfl)
def Q_law  (h0 : Heap) (n0 : Nat) (v : Option Value) (h : Heap) (L : List Loc) : Prop := v = some (.int 1) ∧ Fr n0 L
set_option maxRecDepth 65536 in
set_option maxHeartbeats 40000000 in
theorem rm_law (l : Launch) (Z : State) (a0 : Array Value) (hw : ∀ d ∈ tables_1, d.before a0 Z = true) (ws : List Jvm.Cond) (p0 p1 p2 p3 p4 p5 : Int32) (h0 : Heap) (n0 : Nat) (Z0 : n0 ≤ h0.size) (Ol : Old Z n0 h0) :
    MetFree l x (head1 (Jvm.Cond.code x code maxLocals ret :: ws) room_1) (fun a U => a = #[(.int p0), (.int p1), (.int p2), (.int p3), (.int p4), (.int p5)] ∧ Z.Warmed39 U.vm ∧ U.heap = h0) (fun _ _ _ _ _ => True) (fun _ U o U' => ∃ v L, o = .returned v ∧ Q_law  h0 n0 v U'.heap L ∧ FrameEnd U o U' L 40 128) := by
  refine MetFree.of_bodySF (plainFor_of_name pn_com_example_whittle_whittle_engine_MeetRemovePinLaw) hisR ?_
  intro p e s m args below meth c s₁ Bd hml0 hP hK
  obtain ⟨rfl, hZ, hh⟩ := hP
  have hx := Bd.exec
  have hby := Bd.bytes
  have hml : c.maxLocals = 22 := hml0
  have hown : s.vm.findClass "com/example/whittle/whittle/engine/MeetRemovePinLaw" = some m.cls := findClass_of_methodNamed Bd.named
  have hnm := (name_of_methodNamed Bd.named Bd.method).1
  have X0 : Stand p l e room_1 s m #[(.int p0), (.int p1), (.int p2), (.int p3), (.int p4), (.int p5)] below meth c s₁ [] 0 0 := Stand.of_body Bd
  have e0 : s₁.heap = h0 := by rw [← hh, Bd.state]; rfl
  have N0 := Fr.nil n0
  have pre0 : ∀ t, Sg p e below (s₁.setTop (mkF m 0 #[sI p0, sI p1, sI p2, sI p3, sI p4, sI p5, sU, sU, sU, sU, sU, sU, sU, sU, sU, sU, sU, sU, sU, sU, sU, sU] [])) t → Steps p.tables e below (s₁.setTop (entryFrame m #[(.int p0), (.int p1), (.int p2), (.int p3), (.int p4), (.int p5)] maxLocals)) t := fun t k => castTop (ef_law m p0 p1 p2 p3 p4 p5) k
  have P0 : ∀ t, Sg p e below (s₁.setTop (mkF m 0 #[sI p0, sI p1, sI p2, sI p3, sI p4, sI p5, sU, sU, sU, sU, sU, sU, sU, sU, sU, sU, sU, sU, sU, sU, sU, sU] [])) t → Sg p e below (s₁.setTop (mkF m 0 #[sI p0, sI p1, sI p2, sI p3, sI p4, sI p5, sU, sU, sU, sU, sU, sU, sU, sU, sU, sU, sU, sU, sU, sU, sU, sU] [])) t := fun t k => k
  obtain ⟨B0, pre0, P0⟩ : ∃ B : State, (∀ t, Steps p.tables e below B t → Steps p.tables e below (s₁.setTop (entryFrame m #[(.int p0), (.int p1), (.int p2), (.int p3), (.int p4), (.int p5)] maxLocals)) t) ∧ Rg p e below (s₁.setTop (mkF m 0 #[sI p0, sI p1, sI p2, sI p3, sI p4, sI p5, sU, sU, sU, sU, sU, sU, sU, sU, sU, sU, sU, sU, sU, sU, sU, sU] [])) B := ⟨_, pre0, P0⟩
  obtain ⟨a, eq_a⟩ : ∃ z : Int32, z = (p0 &&& (1073741823 : Int32)) := ⟨_, rfl⟩
  have P1329 : Rg p e below (s₁.setTop (mkF m 6 #[sI p0, sI p1, sI p2, sI p3, sI p4, sI p5, .val (.int (p0 &&& (1073741823 : Int32))), sU, sU, sU, sU, sU, sU, sU, sU, sU, sU, sU, sU, sU, sU, sU] [])) B0 := fun t k => P0 t (by
    refine XS.iloadN X0.here hx rfl (hb hby at_0) rfl ?_
    show Sg p e below (s₁.setTop (mkF m 1 #[sI p0, sI p1, sI p2, sI p3, sI p4, sI p5, sU, sU, sU, sU, sU, sU, sU, sU, sU, sU, sU, sU, sU, sU, sU, sU] [(.int p0)])) _
    refine X0.ldcInt hx hown (mvT hZ (own_hw hw 0 rfl)) (g := (mkF m 1 #[sI p0, sI p1, sI p2, sI p3, sI p4, sI p5, sU, sU, sU, sU, sU, sU, sU, sU, sU, sU, sU, sU, sU, sU, sU, sU] [(.int p0)])) rfl (hb hby at_1) _ ?_
    show Sg p e below (s₁.setTop (mkF m 3 #[sI p0, sI p1, sI p2, sI p3, sI p4, sI p5, sU, sU, sU, sU, sU, sU, sU, sU, sU, sU, sU, sU, sU, sU, sU, sU] [(.int (1073741823 : Int32)), (.int p0)])) _
    refine XS.iand X0.here hx rfl (hb hby at_3) rfl ?_
    refine XS.istore X0.here hx rfl (hb hby at_4) rfl (l' := #[sI p0, sI p1, sI p2, sI p3, sI p4, sI p5, .val (.int (p0 &&& (1073741823 : Int32))), sU, sU, sU, sU, sU, sU, sU, sU, sU, sU, sU, sU, sU, sU, sU]) rfl ?_
    show Sg p e below (s₁.setTop (mkF m 6 #[sI p0, sI p1, sI p2, sI p3, sI p4, sI p5, .val (.int (p0 &&& (1073741823 : Int32))), sU, sU, sU, sU, sU, sU, sU, sU, sU, sU, sU, sU, sU, sU, sU] [])) _
    exact k)
  have P1330 : Rg p e below (s₁.setTop (mkF m 6 #[sI p0, sI p1, sI p2, sI p3, sI p4, sI p5, sI a, sU, sU, sU, sU, sU, sU, sU, sU, sU, sU, sU, sU, sU, sU, sU] [])) B0 := fun t k => P1329 t (by rw [eq_a] at k; exact k)
  obtain ⟨b, eq_b⟩ : ∃ z : Int32, z = ((a + (1 : Int32)) + (p1 &&& (1023 : Int32))) := ⟨_, rfl⟩
  have P1331 : Rg p e below (s₁.setTop (mkF m 18 #[sI p0, sI p1, sI p2, sI p3, sI p4, sI p5, sI a, .val (.int ((a + (1 : Int32)) + (p1 &&& (1023 : Int32)))), sU, sU, sU, sU, sU, sU, sU, sU, sU, sU, sU, sU, sU, sU] [])) B0 := fun t k => P1330 t (by
    refine XS.iload X0.here hx rfl (hb hby at_6) rfl ?_
    refine XS.iconst X0.here hx rfl (hb hby at_8) ?_
    refine XS.iadd X0.here hx rfl (hb hby at_9) rfl ?_
    refine XS.iloadN X0.here hx rfl (hb hby at_10) rfl ?_
    refine XS.sipush X0.here hx rfl (hb hby at_11) ?_
    refine XS.iand X0.here hx rfl (hb hby at_14) rfl ?_
    refine XS.iadd X0.here hx rfl (hb hby at_15) rfl ?_
    refine XS.istore X0.here hx rfl (hb hby at_16) rfl (l' := #[sI p0, sI p1, sI p2, sI p3, sI p4, sI p5, sI a, .val (.int ((a + (1 : Int32)) + (p1 &&& (1023 : Int32)))), sU, sU, sU, sU, sU, sU, sU, sU, sU, sU, sU, sU, sU, sU]) rfl ?_
    show Sg p e below (s₁.setTop (mkF m 18 #[sI p0, sI p1, sI p2, sI p3, sI p4, sI p5, sI a, .val (.int ((a + (1 : Int32)) + (p1 &&& (1023 : Int32)))), sU, sU, sU, sU, sU, sU, sU, sU, sU, sU, sU, sU, sU, sU] [])) _
    exact k)
  have P1332 : Rg p e below (s₁.setTop (mkF m 18 #[sI p0, sI p1, sI p2, sI p3, sI p4, sI p5, sI a, sI b, sU, sU, sU, sU, sU, sU, sU, sU, sU, sU, sU, sU, sU, sU] [])) B0 := fun t k => P1331 t (by rw [eq_b] at k; exact k)
  obtain ⟨c, eq_c⟩ : ∃ z : Int32, z = ((b + (1 : Int32)) + (p2 &&& (1023 : Int32))) := ⟨_, rfl⟩
  have P1333 : Rg p e below (s₁.setTop (mkF m 30 #[sI p0, sI p1, sI p2, sI p3, sI p4, sI p5, sI a, sI b, .val (.int ((b + (1 : Int32)) + (p2 &&& (1023 : Int32)))), sU, sU, sU, sU, sU, sU, sU, sU, sU, sU, sU, sU, sU] [])) B0 := fun t k => P1332 t (by
    refine XS.iload X0.here hx rfl (hb hby at_18) rfl ?_
    refine XS.iconst X0.here hx rfl (hb hby at_20) ?_
    refine XS.iadd X0.here hx rfl (hb hby at_21) rfl ?_
    refine XS.iloadN X0.here hx rfl (hb hby at_22) rfl ?_
    refine XS.sipush X0.here hx rfl (hb hby at_23) ?_
    refine XS.iand X0.here hx rfl (hb hby at_26) rfl ?_
    refine XS.iadd X0.here hx rfl (hb hby at_27) rfl ?_
    refine XS.istore X0.here hx rfl (hb hby at_28) rfl (l' := #[sI p0, sI p1, sI p2, sI p3, sI p4, sI p5, sI a, sI b, .val (.int ((b + (1 : Int32)) + (p2 &&& (1023 : Int32)))), sU, sU, sU, sU, sU, sU, sU, sU, sU, sU, sU, sU, sU]) rfl ?_
    show Sg p e below (s₁.setTop (mkF m 30 #[sI p0, sI p1, sI p2, sI p3, sI p4, sI p5, sI a, sI b, .val (.int ((b + (1 : Int32)) + (p2 &&& (1023 : Int32)))), sU, sU, sU, sU, sU, sU, sU, sU, sU, sU, sU, sU, sU] [])) _
    exact k)
  have P1334 : Rg p e below (s₁.setTop (mkF m 30 #[sI p0, sI p1, sI p2, sI p3, sI p4, sI p5, sI a, sI b, sI c, sU, sU, sU, sU, sU, sU, sU, sU, sU, sU, sU, sU, sU] [])) B0 := fun t k => P1333 t (by rw [eq_c] at k; exact k)
  obtain ⟨h0a, hab, hbc⟩ := own_rng eq_a eq_b eq_c
  obtain ⟨iR, iF, iC, iG, iP, iL, i0, i3⟩ := own_init h0a hab hbc
  obtain ⟨_, _, ⟨T1335, L1335, k1335, n1335⟩, -, X1335, ⟨Lc1335, hQ1335, l1335, y1335, z1335⟩, st1335⟩ := Jvm.LawKit.callS X0 hx (y := (⟨"com/example/whittle/whittle/engine/MeetRemovePinLaw", "pick", "(IIIIII)I"⟩ : MethodName)) hown (mvT hZ (own_hw hw 1 rfl)) (mvT hZ (own_hw hw 2 rfl)) (mvT hZ (own_hw hw 3 rfl)) (mvT hZ (own_hw hw 4 rfl)) (by decide) (backOf (W := 0) (rm_pick l Z a0 hw [] a b c p3 p4 p5 h0 n0 Z0 ) hZ (own_hw hw 4 rfl) (own_hw hw 3 rfl) (by decide) (by decide)) (g := (mkF m 41 #[sI p0, sI p1, sI p2, sI p3, sI p4, sI p5, sI a, sI b, sI c, sU, sU, sU, sU, sU, sU, sU, sU, sU, sU, sU, sU, sU] [(.int p5), (.int p4), (.int p3), (.int c), (.int b), (.int a)])) rfl (by rw [hml]; rfl) (argsL := [(.int a), (.int b), (.int c), (.int p3), (.int p4), (.int p5)]) (rest := []) (lenOf pd__28IIIIII_29I rfl) rfl (by show 2 * 0 + _ ≤ _; exact Nat.le_of_eq rfl) (hb hby at_41) (fun _ _ => ⟨rfl, e0, (Nat.le_of_ble_eq_true rfl : 0 + 0 ≤ _), (Nat.le_of_ble_eq_true rfl : 0 + 0 ≤ _)⟩)
  dsimp only [Pt.U, Pt.locs, Pt.cells, Pt.slots] at X1335 l1335 y1335 z1335 st1335 hQ1335
  subst l1335 y1335 z1335
  obtain ⟨r1335, rfl, Nq1335, e1335⟩ := hQ1335
  have N1336 := Fr.app N0 Nq1335
  have P1337 : Rg p e below (T1335.setTop (mkF m 44 #[sI p0, sI p1, sI p2, sI p3, sI p4, sI p5, sI a, sI b, sI c, sU, sU, sU, sU, sU, sU, sU, sU, sU, sU, sU, sU, sU] [(.int r1335)])) B0 := fun t k => P1334 t (by
    refine XS.iload X0.here hx rfl (hb hby at_30) rfl ?_
    refine XS.iload X0.here hx rfl (hb hby at_32) rfl ?_
    refine XS.iload X0.here hx rfl (hb hby at_34) rfl ?_
    refine XS.iloadN X0.here hx rfl (hb hby at_36) rfl ?_
    refine XS.iload X0.here hx rfl (hb hby at_37) rfl ?_
    refine XS.iload X0.here hx rfl (hb hby at_39) rfl ?_
    show Sg p e below (s₁.setTop (mkF m 41 #[sI p0, sI p1, sI p2, sI p3, sI p4, sI p5, sI a, sI b, sI c, sU, sU, sU, sU, sU, sU, sU, sU, sU, sU, sU, sU, sU] [(.int p5), (.int p4), (.int p3), (.int c), (.int b), (.int a)])) _
    exact st1335 _ k)
  obtain ⟨_, _, ⟨T1338, L1338, k1338, n1338⟩, -, X1338, ⟨Lc1338, hQ1338, l1338, y1338, z1338⟩, st1338⟩ := Jvm.LawKit.callS X1335 hx (y := (⟨"com/example/whittle/whittle/engine/MeetRemovePinLaw", "pick", "(IIIIII)I"⟩ : MethodName)) hown (mvT hZ (own_hw hw 1 rfl)) (mvT hZ (own_hw hw 2 rfl)) (mvT hZ (own_hw hw 3 rfl)) (mvT hZ (own_hw hw 4 rfl)) (by decide) (backOf (W := 0) (rm_pick l Z a0 hw [] a b c ((p3.toUInt32 >>> ((3 : Int32) &&& 31).toUInt32).toInt32) p5 p4 h0 n0 Z0 ) hZ (own_hw hw 4 rfl) (own_hw hw 3 rfl) (by decide) (by decide)) (g := (mkF m 59 #[sI p0, sI p1, sI p2, sI p3, sI p4, sI p5, sI a, sI b, sI c, sI r1335, sU, sU, sU, sU, sU, sU, sU, sU, sU, sU, sU, sU] [(.int p4), (.int p5), (.int ((p3.toUInt32 >>> ((3 : Int32) &&& 31).toUInt32).toInt32)), (.int c), (.int b), (.int a)])) rfl (by rw [hml]; rfl) (argsL := [(.int a), (.int b), (.int c), (.int ((p3.toUInt32 >>> ((3 : Int32) &&& 31).toUInt32).toInt32)), (.int p5), (.int p4)]) (rest := []) (lenOf pd__28IIIIII_29I rfl) rfl (by show 2 * 0 + _ ≤ _; exact Nat.le_of_eq rfl) (hb hby at_59) (fun _ _ => ⟨rfl, e1335, (Nat.le_of_ble_eq_true rfl : 0 + 0 ≤ _), (Nat.le_of_ble_eq_true rfl : 0 + 0 ≤ _)⟩)
  dsimp only [Pt.U, Pt.locs, Pt.cells, Pt.slots] at X1338 l1338 y1338 z1338 st1338 hQ1338
  subst l1338 y1338 z1338
  obtain ⟨r1338, rfl, Nq1338, e1338⟩ := hQ1338
  have N1339 := Fr.app N1336 Nq1338
  have P1340 : Rg p e below (T1338.setTop (mkF m 62 #[sI p0, sI p1, sI p2, sI p3, sI p4, sI p5, sI a, sI b, sI c, sI r1335, sU, sU, sU, sU, sU, sU, sU, sU, sU, sU, sU, sU] [(.int r1338)])) B0 := fun t k => P1337 t (by
    refine XS.istore X1335.here hx rfl (hb hby at_44) rfl (l' := #[sI p0, sI p1, sI p2, sI p3, sI p4, sI p5, sI a, sI b, sI c, sI r1335, sU, sU, sU, sU, sU, sU, sU, sU, sU, sU, sU, sU]) rfl ?_
    refine XS.iload X1335.here hx rfl (hb hby at_46) rfl ?_
    refine XS.iload X1335.here hx rfl (hb hby at_48) rfl ?_
    refine XS.iload X1335.here hx rfl (hb hby at_50) rfl ?_
    refine XS.iloadN X1335.here hx rfl (hb hby at_52) rfl ?_
    refine XS.iconst X1335.here hx rfl (hb hby at_53) ?_
    refine XS.iushr X1335.here hx rfl (hb hby at_54) rfl ?_
    refine XS.iload X1335.here hx rfl (hb hby at_55) rfl ?_
    refine XS.iload X1335.here hx rfl (hb hby at_57) rfl ?_
    show Sg p e below (T1335.setTop (mkF m 59 #[sI p0, sI p1, sI p2, sI p3, sI p4, sI p5, sI a, sI b, sI c, sI r1335, sU, sU, sU, sU, sU, sU, sU, sU, sU, sU, sU, sU] [(.int p4), (.int p5), (.int ((p3.toUInt32 >>> ((3 : Int32) &&& 31).toUInt32).toInt32)), (.int c), (.int b), (.int a)])) _
    exact st1338 _ k)
  obtain ⟨_, _, ⟨T1341, L1341, k1341, n1341⟩, -, X1341, ⟨Lc1341, hQ1341, l1341, y1341, z1341⟩, st1341⟩ := Jvm.LawKit.callS X1338 hx (y := (⟨"com/example/whittle/whittle/engine/MeetRemovePinLaw", "pick", "(IIIIII)I"⟩ : MethodName)) hown (mvT hZ (own_hw hw 1 rfl)) (mvT hZ (own_hw hw 2 rfl)) (mvT hZ (own_hw hw 3 rfl)) (mvT hZ (own_hw hw 4 rfl)) (by decide) (backOf (W := 0) (rm_pick l Z a0 hw [] a b c ((p3.toUInt32 >>> ((6 : Int32) &&& 31).toUInt32).toInt32) (p4 ^^^ p5) ((p5.toUInt32 >>> ((7 : Int32) &&& 31).toUInt32).toInt32) h0 n0 Z0 ) hZ (own_hw hw 4 rfl) (own_hw hw 3 rfl) (by decide) (by decide)) (g := (mkF m 84 #[sI p0, sI p1, sI p2, sI p3, sI p4, sI p5, sI a, sI b, sI c, sI r1335, sI r1338, sU, sU, sU, sU, sU, sU, sU, sU, sU, sU, sU] [(.int ((p5.toUInt32 >>> ((7 : Int32) &&& 31).toUInt32).toInt32)), (.int (p4 ^^^ p5)), (.int ((p3.toUInt32 >>> ((6 : Int32) &&& 31).toUInt32).toInt32)), (.int c), (.int b), (.int a)])) rfl (by rw [hml]; rfl) (argsL := [(.int a), (.int b), (.int c), (.int ((p3.toUInt32 >>> ((6 : Int32) &&& 31).toUInt32).toInt32)), (.int (p4 ^^^ p5)), (.int ((p5.toUInt32 >>> ((7 : Int32) &&& 31).toUInt32).toInt32))]) (rest := []) (lenOf pd__28IIIIII_29I rfl) rfl (by show 2 * 0 + _ ≤ _; exact Nat.le_of_eq rfl) (hb hby at_84) (fun _ _ => ⟨rfl, e1338, (Nat.le_of_ble_eq_true rfl : 0 + 0 ≤ _), (Nat.le_of_ble_eq_true rfl : 0 + 0 ≤ _)⟩)
  dsimp only [Pt.U, Pt.locs, Pt.cells, Pt.slots] at X1341 l1341 y1341 z1341 st1341 hQ1341
  subst l1341 y1341 z1341
  obtain ⟨r1341, rfl, Nq1341, e1341⟩ := hQ1341
  have N1342 := Fr.app N1339 Nq1341
  have P1343 : Rg p e below (T1341.setTop (mkF m 87 #[sI p0, sI p1, sI p2, sI p3, sI p4, sI p5, sI a, sI b, sI c, sI r1335, sI r1338, sU, sU, sU, sU, sU, sU, sU, sU, sU, sU, sU] [(.int r1341)])) B0 := fun t k => P1340 t (by
    refine XS.istore X1338.here hx rfl (hb hby at_62) rfl (l' := #[sI p0, sI p1, sI p2, sI p3, sI p4, sI p5, sI a, sI b, sI c, sI r1335, sI r1338, sU, sU, sU, sU, sU, sU, sU, sU, sU, sU, sU]) rfl ?_
    refine XS.iload X1338.here hx rfl (hb hby at_64) rfl ?_
    refine XS.iload X1338.here hx rfl (hb hby at_66) rfl ?_
    refine XS.iload X1338.here hx rfl (hb hby at_68) rfl ?_
    refine XS.iloadN X1338.here hx rfl (hb hby at_70) rfl ?_
    refine XS.bipush X1338.here hx rfl (hb hby at_71) ?_
    refine XS.iushr X1338.here hx rfl (hb hby at_73) rfl ?_
    refine XS.iload X1338.here hx rfl (hb hby at_74) rfl ?_
    refine XS.iload X1338.here hx rfl (hb hby at_76) rfl ?_
    refine XS.ixor X1338.here hx rfl (hb hby at_78) rfl ?_
    refine XS.iload X1338.here hx rfl (hb hby at_79) rfl ?_
    refine XS.bipush X1338.here hx rfl (hb hby at_81) ?_
    refine XS.iushr X1338.here hx rfl (hb hby at_83) rfl ?_
    show Sg p e below (T1338.setTop (mkF m 84 #[sI p0, sI p1, sI p2, sI p3, sI p4, sI p5, sI a, sI b, sI c, sI r1335, sI r1338, sU, sU, sU, sU, sU, sU, sU, sU, sU, sU, sU] [(.int ((p5.toUInt32 >>> ((7 : Int32) &&& 31).toUInt32).toInt32)), (.int (p4 ^^^ p5)), (.int ((p3.toUInt32 >>> ((6 : Int32) &&& 31).toUInt32).toInt32)), (.int c), (.int b), (.int a)])) _
    exact st1341 _ k)
  obtain ⟨T1344, h1344, k1344, X1344, e1344, E1344, A1344, B1344, O1344, st1344⟩ := newRA X1341 hx hZ hown (C := "[I") (ty := .int) (by decide) (own_hw hw 5 rfl) (own_hw hw 6 rfl) e1341 (g := (mkF m 90 #[sI p0, sI p1, sI p2, sI p3, sI p4, sI p5, sI a, sI b, sI c, sI r1335, sI r1338, sI r1341, sU, sU, sU, sU, sU, sU, sU, sU, sU, sU] [(.int (1 : Int32))])) rfl (hb hby at_90) rfl (by decide) (cap := 1) (by decide) (by decide) (by decide) (by decide) (ad := "[[I") (by decide)
  obtain ⟨b1344, g1344⟩ : ∃ z, z = h0.size := ⟨_, rfl⟩
  rw [← g1344] at A1344 B1344 st1344
  have g_b1344 : n0 ≤ b1344 := Nat.le_trans Z0 (Nat.le_of_eq g1344.symm)
  have sz_b1344 : h0.size ≤ b1344 := Nat.le_trans (Keep.refl h0 []).1 (Nat.le_of_eq g1344.symm)
  have P1345 : Rg p e below (T1344.setTop (mkF m 93 #[sI p0, sI p1, sI p2, sI p3, sI p4, sI p5, sI a, sI b, sI c, sI r1335, sI r1338, sI r1341, sU, sU, sU, sU, sU, sU, sU, sU, sU, sU] [(.ref b1344)])) B0 := fun t k => P1343 t (by
    refine XS.istore X1341.here hx rfl (hb hby at_87) rfl (l' := #[sI p0, sI p1, sI p2, sI p3, sI p4, sI p5, sI a, sI b, sI c, sI r1335, sI r1338, sI r1341, sU, sU, sU, sU, sU, sU, sU, sU, sU, sU]) rfl ?_
    refine XS.iconst X1341.here hx rfl (hb hby at_89) ?_
    show Sg p e below (T1341.setTop (mkF m 90 #[sI p0, sI p1, sI p2, sI p3, sI p4, sI p5, sI a, sI b, sI c, sI r1335, sI r1338, sI r1341, sU, sU, sU, sU, sU, sU, sU, sU, sU, sU] [(.int (1 : Int32))])) _
    exact st1344 _ k)
  have Z1346 : n0 ≤ h1344.size := Nat.le_trans Z0 E1344.1
  have K1347 : Keep h0 h1344 [] := (Keep.refl h0 []).ext E1344
  have O1348 : Old Z n0 h1344 := Ol.ext E1344
  have v1349 : Arv Z h1344 b1344 k1344 (.array .int) (1 : Int32) [.null] .null := (Arv.new A1344 (by decide)).pad (pad_rep [] .null 1)
  obtain ⟨T1350, h1350, k1350, X1350, e1350, E1350, A1350, B1350, st1350⟩ := newPE X1344 hx hZ (own_hw hw 7 rfl) e1344 (g := (mkF m 99 #[sI p0, sI p1, sI p2, sI p3, sI p4, sI p5, sI a, sI b, sI c, sI r1335, sI r1338, sI r1341, sR b1344, sU, sU, sU, sU, sU, sU, sU, sU, sU] [(.int (3 : Int32)), (.int (0 : Int32)), (.ref b1344)])) rfl (hb hby at_99) rfl (by decide) (cap := 3) (by decide) (by decide) (by decide) (by decide) (ad := "[I") (by decide)
  obtain ⟨b1350, g1350⟩ : ∃ z, z = h1344.size := ⟨_, rfl⟩
  rw [← g1350] at A1350 B1350 st1350
  have g_b1350 : n0 ≤ b1350 := Nat.le_trans Z1346 (Nat.le_of_eq g1350.symm)
  have sz_b1350 : h0.size ≤ b1350 := Nat.le_trans K1347.1 (Nat.le_of_eq g1350.symm)
  have P1351 : Rg p e below (T1350.setTop (mkF m 101 #[sI p0, sI p1, sI p2, sI p3, sI p4, sI p5, sI a, sI b, sI c, sI r1335, sI r1338, sI r1341, sR b1344, sU, sU, sU, sU, sU, sU, sU, sU, sU] [(.ref b1350), (.int (0 : Int32)), (.ref b1344)])) B0 := fun t k => P1345 t (by
    refine XS.astore X1344.here hx rfl (hb hby at_93) rfl rfl (l' := #[sI p0, sI p1, sI p2, sI p3, sI p4, sI p5, sI a, sI b, sI c, sI r1335, sI r1338, sI r1341, sR b1344, sU, sU, sU, sU, sU, sU, sU, sU, sU]) rfl ?_
    refine XS.aload X1344.here hx rfl (hb hby at_95) rfl rfl ?_
    refine XS.iconst X1344.here hx rfl (hb hby at_97) ?_
    refine XS.iconst X1344.here hx rfl (hb hby at_98) ?_
    show Sg p e below (T1344.setTop (mkF m 99 #[sI p0, sI p1, sI p2, sI p3, sI p4, sI p5, sI a, sI b, sI c, sI r1335, sI r1338, sI r1341, sR b1344, sU, sU, sU, sU, sU, sU, sU, sU, sU] [(.int (3 : Int32)), (.int (0 : Int32)), (.ref b1344)])) _
    exact st1350 _ k)
  have Z1352 : n0 ≤ h1350.size := Nat.le_trans Z1346 E1350.1
  have K1353 : Keep h0 h1350 [] := K1347.ext E1350
  have O1354 : Old Z n0 h1350 := O1348.ext E1350
  have v1355 : Arv Z h1350 b1350 k1350 .int (3 : Int32) [(.int (0 : Int32)), (.int (0 : Int32)), (.int (0 : Int32))] (.int (0 : Int32)) := (Arv.new A1350 (by decide)).pad (pad_rep [] (.int (0 : Int32)) 3)
  obtain ⟨cl1356, Ar1356, q1356, S1356, N1356, H1356, G1356⟩ := id v1355
  obtain ⟨T1356, h1356, X1356, e1356, W1356, st1356⟩ := stI X1350 hx hZ e1350 Ar1356 (j := (0 : Int32)) (inb_of S1356 ⟨by decide, by decide⟩) (g := (mkF m 105 #[sI p0, sI p1, sI p2, sI p3, sI p4, sI p5, sI a, sI b, sI c, sI r1335, sI r1338, sI r1341, sR b1344, sU, sU, sU, sU, sU, sU, sU, sU, sU] [(.int a), (.int (0 : Int32)), (.ref b1350), (.ref b1350), (.int (0 : Int32)), (.ref b1344)])) rfl rfl (hb hby at_105)
  have v1357 : Arv Z h1356 b1350 k1350 .int (3 : Int32) [(.int a), (.int (0 : Int32)), (.int (0 : Int32))] (.int (0 : Int32)) := Arv.set Ar1356 q1356 S1356 N1356 H1356 G1356 rfl W1356 0 rfl (Nat.le_of_ble_eq_true rfl)
  have P1358 : Rg p e below (T1356.setTop (mkF m 106 #[sI p0, sI p1, sI p2, sI p3, sI p4, sI p5, sI a, sI b, sI c, sI r1335, sI r1338, sI r1341, sR b1344, sU, sU, sU, sU, sU, sU, sU, sU, sU] [(.ref b1350), (.int (0 : Int32)), (.ref b1344)])) B0 := fun t k => P1351 t (by
    refine XS.dup X1350.here hx rfl (hb hby at_101) rfl rfl ?_
    refine XS.iconst X1350.here hx rfl (hb hby at_102) ?_
    refine XS.iload X1350.here hx rfl (hb hby at_103) rfl ?_
    show Sg p e below (T1350.setTop (mkF m 105 #[sI p0, sI p1, sI p2, sI p3, sI p4, sI p5, sI a, sI b, sI c, sI r1335, sI r1338, sI r1341, sR b1344, sU, sU, sU, sU, sU, sU, sU, sU, sU] [(.int a), (.int (0 : Int32)), (.ref b1350), (.ref b1350), (.int (0 : Int32)), (.ref b1344)])) _
    exact st1356 _ k)
  have N1359 := Fr.snoc X1356 N1342 g_b1350
  have Z1360 : n0 ≤ h1356.size := Nat.le_trans Z1352 (Keep.of_wr W1356).1
  have K1361 : Keep h0 h1356 [] := K1353.wr W1356 (Or.inr sz_b1350)
  have O1362 : Old Z n0 h1356 := O1354.wr W1356 g_b1350
  obtain ⟨cl1363, Ar1363, q1363, S1363, N1363, H1363, G1363⟩ := id v1357
  obtain ⟨T1363, h1363, X1363, e1363, W1363, st1363⟩ := stI X1356 hx hZ e1356 Ar1363 (j := (1 : Int32)) (inb_of S1363 ⟨by decide, by decide⟩) (g := (mkF m 110 #[sI p0, sI p1, sI p2, sI p3, sI p4, sI p5, sI a, sI b, sI c, sI r1335, sI r1338, sI r1341, sR b1344, sU, sU, sU, sU, sU, sU, sU, sU, sU] [(.int b), (.int (1 : Int32)), (.ref b1350), (.ref b1350), (.int (0 : Int32)), (.ref b1344)])) rfl rfl (hb hby at_110)
  have v1364 : Arv Z h1363 b1350 k1350 .int (3 : Int32) [(.int a), (.int b), (.int (0 : Int32))] (.int (0 : Int32)) := Arv.set Ar1363 q1363 S1363 N1363 H1363 G1363 rfl W1363 1 rfl (Nat.le_of_ble_eq_true rfl)
  have P1365 : Rg p e below (T1363.setTop (mkF m 111 #[sI p0, sI p1, sI p2, sI p3, sI p4, sI p5, sI a, sI b, sI c, sI r1335, sI r1338, sI r1341, sR b1344, sU, sU, sU, sU, sU, sU, sU, sU, sU] [(.ref b1350), (.int (0 : Int32)), (.ref b1344)])) B0 := fun t k => P1358 t (by
    refine XS.dup X1356.here hx rfl (hb hby at_106) rfl rfl ?_
    refine XS.iconst X1356.here hx rfl (hb hby at_107) ?_
    refine XS.iload X1356.here hx rfl (hb hby at_108) rfl ?_
    show Sg p e below (T1356.setTop (mkF m 110 #[sI p0, sI p1, sI p2, sI p3, sI p4, sI p5, sI a, sI b, sI c, sI r1335, sI r1338, sI r1341, sR b1344, sU, sU, sU, sU, sU, sU, sU, sU, sU] [(.int b), (.int (1 : Int32)), (.ref b1350), (.ref b1350), (.int (0 : Int32)), (.ref b1344)])) _
    exact st1363 _ k)
  have N1366 := Fr.snoc X1363 N1359 g_b1350
  have Z1367 : n0 ≤ h1363.size := Nat.le_trans Z1360 (Keep.of_wr W1363).1
  have K1368 : Keep h0 h1363 [] := K1361.wr W1363 (Or.inr sz_b1350)
  have O1369 : Old Z n0 h1363 := O1362.wr W1363 g_b1350
  obtain ⟨cl1370, Ar1370, q1370, S1370, N1370, H1370, G1370⟩ := id v1364
  obtain ⟨T1370, h1370, X1370, e1370, W1370, st1370⟩ := stI X1363 hx hZ e1363 Ar1370 (j := (2 : Int32)) (inb_of S1370 ⟨by decide, by decide⟩) (g := (mkF m 115 #[sI p0, sI p1, sI p2, sI p3, sI p4, sI p5, sI a, sI b, sI c, sI r1335, sI r1338, sI r1341, sR b1344, sU, sU, sU, sU, sU, sU, sU, sU, sU] [(.int c), (.int (2 : Int32)), (.ref b1350), (.ref b1350), (.int (0 : Int32)), (.ref b1344)])) rfl rfl (hb hby at_115)
  have v1371 : Arv Z h1370 b1350 k1350 .int (3 : Int32) [(.int a), (.int b), (.int c)] (.int (0 : Int32)) := Arv.set Ar1370 q1370 S1370 N1370 H1370 G1370 rfl W1370 2 rfl (Nat.le_of_ble_eq_true rfl)
  have P1372 : Rg p e below (T1370.setTop (mkF m 116 #[sI p0, sI p1, sI p2, sI p3, sI p4, sI p5, sI a, sI b, sI c, sI r1335, sI r1338, sI r1341, sR b1344, sU, sU, sU, sU, sU, sU, sU, sU, sU] [(.ref b1350), (.int (0 : Int32)), (.ref b1344)])) B0 := fun t k => P1365 t (by
    refine XS.dup X1363.here hx rfl (hb hby at_111) rfl rfl ?_
    refine XS.iconst X1363.here hx rfl (hb hby at_112) ?_
    refine XS.iload X1363.here hx rfl (hb hby at_113) rfl ?_
    show Sg p e below (T1363.setTop (mkF m 115 #[sI p0, sI p1, sI p2, sI p3, sI p4, sI p5, sI a, sI b, sI c, sI r1335, sI r1338, sI r1341, sR b1344, sU, sU, sU, sU, sU, sU, sU, sU, sU] [(.int c), (.int (2 : Int32)), (.ref b1350), (.ref b1350), (.int (0 : Int32)), (.ref b1344)])) _
    exact st1370 _ k)
  have N1373 := Fr.snoc X1370 N1366 g_b1350
  have Z1374 : n0 ≤ h1370.size := Nat.le_trans Z1367 (Keep.of_wr W1370).1
  have K1375 : Keep h0 h1370 [] := K1368.wr W1370 (Or.inr sz_b1350)
  have O1376 : Old Z n0 h1370 := O1369.wr W1370 g_b1350
  have f1377 := ((((v1349.ext E1350).other W1356 (Nat.ne_of_lt (Nat.lt_of_lt_of_le v1349.lt (Nat.le_of_eq g1350.symm)))).other W1363 (Nat.ne_of_lt (Nat.lt_of_lt_of_le v1349.lt (Nat.le_of_eq g1350.symm)))).other W1370 (Nat.ne_of_lt (Nat.lt_of_lt_of_le v1349.lt (Nat.le_of_eq g1350.symm))))
  have f1379 := (((B1350.wr W1356).wr W1363).wr W1370)
  obtain ⟨cl1378, Ar1378, q1378, S1378, N1378, H1378, G1378⟩ := id f1377
  obtain ⟨T1378, h1378, X1378, e1378, W1378, st1378⟩ := stR X1370 hx hZ e1370 Ar1378 (j := (0 : Int32)) (inb_of S1378 ⟨by decide, by decide⟩) rfl (Sto.ofVA Ar1378 q1378 O1344 (Ins.self f1379)) (g := (mkF m 116 #[sI p0, sI p1, sI p2, sI p3, sI p4, sI p5, sI a, sI b, sI c, sI r1335, sI r1338, sI r1341, sR b1344, sU, sU, sU, sU, sU, sU, sU, sU, sU] [(.ref b1350), (.int (0 : Int32)), (.ref b1344)])) rfl rfl (hb hby at_116)
  have v1380 : Arv Z h1378 b1344 k1344 (.array .int) (1 : Int32) [(.ref b1350)] .null := Arv.set Ar1378 q1378 S1378 N1378 H1378 G1378 rfl W1378 0 rfl (Nat.le_of_ble_eq_true rfl)
  have P1381 : Rg p e below (T1378.setTop (mkF m 117 #[sI p0, sI p1, sI p2, sI p3, sI p4, sI p5, sI a, sI b, sI c, sI r1335, sI r1338, sI r1341, sR b1344, sU, sU, sU, sU, sU, sU, sU, sU, sU] [])) B0 := fun t k => P1372 t (by
    exact st1378 _ k)
  have N1382 := Fr.snoc X1378 N1373 g_b1344
  have Z1383 : n0 ≤ h1378.size := Nat.le_trans Z1374 (Keep.of_wr W1378).1
  have K1384 : Keep h0 h1378 [] := K1375.wr W1378 (Or.inr sz_b1344)
  have O1385 : Old Z n0 h1378 := O1376.wr W1378 g_b1344
  obtain ⟨T1386, h1386, X1386, e1386, E1386, A1386, D1386, -, st1386⟩ := newO X1378 hx hZ hown (own_hw hw 9 rfl) (own_hw hw 10 rfl) (own_hw hw 11 rfl) e1378 (g := (mkF m 117 #[sI p0, sI p1, sI p2, sI p3, sI p4, sI p5, sI a, sI b, sI c, sI r1335, sI r1338, sI r1341, sR b1344, sU, sU, sU, sU, sU, sU, sU, sU, sU] [])) rfl (hb hby at_117) (by decide) (by decide)
  obtain ⟨b1386, g1386⟩ : ∃ z, z = h1378.size := ⟨_, rfl⟩
  rw [← g1386] at A1386 D1386 st1386
  have g_b1386 : n0 ≤ b1386 := Nat.le_trans Z1383 (Nat.le_of_eq g1386.symm)
  have sz_b1386 : h0.size ≤ b1386 := Nat.le_trans K1384.1 (Nat.le_of_eq g1386.symm)
  have P1387 : Rg p e below (T1386.setTop (mkF m 120 #[sI p0, sI p1, sI p2, sI p3, sI p4, sI p5, sI a, sI b, sI c, sI r1335, sI r1338, sI r1341, sR b1344, sU, sU, sU, sU, sU, sU, sU, sU, sU] [(.ref b1386)])) B0 := fun t k => P1381 t (by
    exact st1386 _ k)
  have Z1388 : n0 ≤ h1386.size := Nat.le_trans Z1383 E1386.1
  have K1389 : Keep h0 h1386 [] := K1384.ext E1386
  have O1390 : Old Z n0 h1386 := O1385.ext E1386
  have f1391 : Fld Z h1386 b1386 sW "places" "[[I" .null := D1386 (Or.inr (own_hw hw 20 rfl)) (ty := (.array (.array .int))) (by decide)
  have f1392 : Fld Z h1386 b1386 sW "words" "[[J" .null := D1386 (Or.inr (own_hw hw 24 rfl)) (ty := (.array (.array .long))) (by decide)
  have f1393 := (v1380.ext E1386)
  have f1394 := ((v1371.other W1378 (Ne.symm (Nat.ne_of_lt (Nat.lt_of_lt_of_le v1349.lt (Nat.le_of_eq g1350.symm))))).ext E1386)
  obtain ⟨_, _, ⟨T1395, L1395, k1395, n1395⟩, -, X1395, ⟨Lc1395, hQ1395, l1395, y1395, z1395⟩, st1395⟩ := X1386.specialBack hx (y := (⟨"com/example/whittle/whittle/engine/WordSets", "<init>", "([[I)V"⟩ : MethodName)) rfl hown (mvT hZ (own_hw hw 12 rfl)) (mvT hZ (own_hw hw 13 rfl)) (mvT hZ (own_hw hw 14 rfl)) (by decide) (backOf (W := 1) (rm_wsInit l Z a0 hw [] b1386 b1344 k1344 b1350 k1350 a b c h1386 n0 Z1388 g_b1386 A1386 f1391 f1392 f1393 f1394) hZ (own_hw hw 14 rfl) (own_hw hw 11 rfl) (by decide) (by decide)) (g := (mkF m 123 #[sI p0, sI p1, sI p2, sI p3, sI p4, sI p5, sI a, sI b, sI c, sI r1335, sI r1338, sI r1341, sR b1344, sU, sU, sU, sU, sU, sU, sU, sU, sU] [(.ref b1344), (.ref b1386), (.ref b1386)])) rfl (by rw [hml]; rfl) (Steps.refl _) (a := b1386) (argsL := [(.ref b1344)]) (rest := [(.ref b1386)]) (lenOf pd__28_5b_5bI_29V rfl) rfl (by show 2 * 0 + _ ≤ _; exact Nat.le_of_eq rfl) (hb hby at_123) (fun _ _ => ⟨rfl, e1386, (Nat.le_of_ble_eq_true rfl : 3 + 4 ≤ _), (Nat.le_of_ble_eq_true rfl : 6 + 8 ≤ _)⟩)
  dsimp only [Pt.U, Pt.locs, Pt.cells, Pt.slots] at X1395 l1395 y1395 z1395 st1395 hQ1395
  subst l1395 y1395 z1395
  obtain ⟨rfl, Nq1395, K1395, Ea1395, PP1395, WW1395, kPP1395, kWW1395, P01395, W01395, Fp1395, Fw1395, APP1395, AWW1395, s11395, s21395, kf1395, kg1395, pl, wl, N, hpl, hwl, hN, Af1395, Ag1395, Ef1395, Eg1395, s31395, s41395⟩ := hQ1395
  have N1396 := Fr.app N1382 Nq1395
  have P1397 : Rg p e below (T1395.setTop (mkF m 126 #[sI p0, sI p1, sI p2, sI p3, sI p4, sI p5, sI a, sI b, sI c, sI r1335, sI r1338, sI r1341, sR b1344, sU, sU, sU, sU, sU, sU, sU, sU, sU] [(.ref b1386)])) B0 := fun t k => P1387 t (by
    refine XS.dup X1386.here hx rfl (hb hby at_120) rfl rfl ?_
    refine XS.aload X1386.here hx rfl (hb hby at_121) rfl rfl ?_
    show Sg p e below (T1386.setTop (mkF m 123 #[sI p0, sI p1, sI p2, sI p3, sI p4, sI p5, sI a, sI b, sI c, sI r1335, sI r1338, sI r1341, sR b1344, sU, sU, sU, sU, sU, sU, sU, sU, sU] [(.ref b1344), (.ref b1386), (.ref b1386)])) _
    exact st1395.trans k)
  have Z1398 : n0 ≤ T1395.heap.size := Nat.le_trans Z1388 K1395.1
  have K1399 : Keep h0 T1395.heap [] := K1389.trans K1395 ((allS (Or.inr sz_b1386) all0))
  have O1400 : Old Z n0 T1395.heap := O1390.keep K1395 (allS g_b1386 all0)
  have g_PP1395 : n0 ≤ PP1395 := Nat.le_trans Z1388 s11395
  have sz_PP1395 : h0.size ≤ PP1395 := Nat.le_trans K1389.1 s11395
  have g_WW1395 : n0 ≤ WW1395 := Nat.le_trans Z1388 s21395
  have sz_WW1395 : h0.size ≤ WW1395 := Nat.le_trans K1389.1 s21395
  have g_P01395 : n0 ≤ P01395 := Nat.le_trans Z1388 s31395
  have sz_P01395 : h0.size ≤ P01395 := Nat.le_trans K1389.1 s31395
  have g_W01395 : n0 ≤ W01395 := Nat.le_trans Z1388 s41395
  have sz_W01395 : h0.size ≤ W01395 := Nat.le_trans K1389.1 s41395
  rw [← hpl, ← hwl] at iR
  rw [← hpl] at iP i0 i3
  rw [← hpl, ← hwl] at iL
  have iN := own_nz iR iG
  obtain ⟨T1401, h1401, X1401, e1401, E1401, A1401, D1401, -, st1401⟩ := newO X1395 hx hZ hown (own_hw hw 27 rfl) (own_hw hw 28 rfl) (own_hw hw 29 rfl) rfl (g := (mkF m 128 #[sI p0, sI p1, sI p2, sI p3, sI p4, sI p5, sI a, sI b, sI c, sI r1335, sI r1338, sI r1341, sR b1344, sR b1386, sU, sU, sU, sU, sU, sU, sU, sU] [])) rfl (hb hby at_128) (by decide) (by decide)
  obtain ⟨b1401, g1401⟩ : ∃ z, z = T1395.heap.size := ⟨_, rfl⟩
  rw [← g1401] at A1401 D1401 st1401
  have g_b1401 : n0 ≤ b1401 := Nat.le_trans Z1398 (Nat.le_of_eq g1401.symm)
  have sz_b1401 : h0.size ≤ b1401 := Nat.le_trans K1399.1 (Nat.le_of_eq g1401.symm)
  have P1402 : Rg p e below (T1401.setTop (mkF m 131 #[sI p0, sI p1, sI p2, sI p3, sI p4, sI p5, sI a, sI b, sI c, sI r1335, sI r1338, sI r1341, sR b1344, sR b1386, sU, sU, sU, sU, sU, sU, sU, sU] [(.ref b1401)])) B0 := fun t k => P1397 t (by
    refine XS.astore X1395.here hx rfl (hb hby at_126) rfl rfl (l' := #[sI p0, sI p1, sI p2, sI p3, sI p4, sI p5, sI a, sI b, sI c, sI r1335, sI r1338, sI r1341, sR b1344, sR b1386, sU, sU, sU, sU, sU, sU, sU, sU]) rfl ?_
    show Sg p e below (T1395.setTop (mkF m 128 #[sI p0, sI p1, sI p2, sI p3, sI p4, sI p5, sI a, sI b, sI c, sI r1335, sI r1338, sI r1341, sR b1344, sR b1386, sU, sU, sU, sU, sU, sU, sU, sU] [])) _
    exact st1401 _ k)
  have Z1403 : n0 ≤ h1401.size := Nat.le_trans Z1398 E1401.1
  have K1404 : Keep h0 h1401 [] := K1399.ext E1401
  have O1405 : Old Z n0 h1401 := O1400.ext E1401
  have f1406 : Fld Z h1401 b1401 sM "places" "[I" .null := D1401 (Or.inl (own_hw hw 35 rfl)) (ty := (.array .int)) (by decide)
  have f1407 : Fld Z h1401 b1401 sM "words" "[J" .null := D1401 (Or.inl (own_hw hw 37 rfl)) (ty := (.array .long)) (by decide)
  have f1408 : Fld Z h1401 b1401 sM "count" "I" (.int (0 : Int32)) := D1401 (Or.inl (own_hw hw 46 rfl)) (ty := .int) (by decide)
  obtain ⟨_, _, ⟨T1409, L1409, k1409, n1409⟩, -, X1409, ⟨Lc1409, hQ1409, l1409, y1409, z1409⟩, st1409⟩ := X1401.specialBack hx (y := (⟨"com/example/whittle/whittle/engine/WordSets$Meet", "<init>", "()V"⟩ : MethodName)) rfl hown (mvT hZ (own_hw hw 30 rfl)) (mvT hZ (own_hw hw 31 rfl)) (mvT hZ (own_hw hw 32 rfl)) (by decide) (backOf (W := 1) (rm_meInit l Z a0 hw [] b1401 h1401 n0 Z1403 g_b1401 A1401 f1406 f1407 f1408) hZ (own_hw hw 32 rfl) (own_hw hw 29 rfl) (by decide) (by decide)) (g := (mkF m 132 #[sI p0, sI p1, sI p2, sI p3, sI p4, sI p5, sI a, sI b, sI c, sI r1335, sI r1338, sI r1341, sR b1344, sR b1386, sU, sU, sU, sU, sU, sU, sU, sU] [(.ref b1401), (.ref b1401)])) rfl (by rw [hml]; rfl) (Steps.refl _) (a := b1401) (argsL := []) (rest := [(.ref b1401)]) (lenOf pd__28_29V rfl) rfl (by show 2 * 0 + _ ≤ _; exact Nat.le_of_eq rfl) (hb hby at_132) (fun _ _ => ⟨rfl, e1401, (Nat.le_of_ble_eq_true rfl : 8 + 2 ≤ _), (Nat.le_of_ble_eq_true rfl : 17 + 0 ≤ _)⟩)
  dsimp only [Pt.U, Pt.locs, Pt.cells, Pt.slots] at X1409 l1409 y1409 z1409 st1409 hQ1409
  subst l1409 y1409 z1409
  obtain ⟨rfl, Nq1409, K1409, Ea1409, Fc1409, P1409, W1409, k1409, k21409, Fp1409, Fw1409, A11409, A21409, E11409, E21409, s11409, s21409⟩ := hQ1409
  have N1410 := Fr.app N1396 Nq1409
  have P1411 : Rg p e below (T1409.setTop (mkF m 135 #[sI p0, sI p1, sI p2, sI p3, sI p4, sI p5, sI a, sI b, sI c, sI r1335, sI r1338, sI r1341, sR b1344, sR b1386, sU, sU, sU, sU, sU, sU, sU, sU] [(.ref b1401)])) B0 := fun t k => P1402 t (by
    refine XS.dup X1401.here hx rfl (hb hby at_131) rfl rfl ?_
    show Sg p e below (T1401.setTop (mkF m 132 #[sI p0, sI p1, sI p2, sI p3, sI p4, sI p5, sI a, sI b, sI c, sI r1335, sI r1338, sI r1341, sR b1344, sR b1386, sU, sU, sU, sU, sU, sU, sU, sU] [(.ref b1401), (.ref b1401)])) _
    exact st1409.trans k)
  have Z1412 : n0 ≤ T1409.heap.size := Nat.le_trans Z1403 K1409.1
  have K1413 : Keep h0 T1409.heap [] := K1404.trans K1409 ((allS (Or.inr sz_b1401) all0))
  have O1414 : Old Z n0 T1409.heap := O1405.keep K1409 (allS g_b1401 all0)
  have g_P1409 : n0 ≤ P1409 := Nat.le_trans Z1403 s11409
  have sz_P1409 : h0.size ≤ P1409 := Nat.le_trans K1404.1 s11409
  have g_W1409 : n0 ≤ W1409 := Nat.le_trans Z1403 s21409
  have sz_W1409 : h0.size ≤ W1409 := Nat.le_trans K1404.1 s21409
  have f1415 := ((Ea1395.ext E1401).keep K1409)
  have f1416 := ((Fp1395.ext E1401).keep K1409 (ninS (Nat.ne_of_lt (Nat.lt_of_lt_of_le Fw1395.lt (Nat.le_of_eq g1401.symm))) nin0))
  have f1417 := ((Fw1395.ext E1401).keep K1409 (ninS (Nat.ne_of_lt (Nat.lt_of_lt_of_le Fw1395.lt (Nat.le_of_eq g1401.symm))) nin0))
  have f1418 := ((APP1395.ext E1401).keep K1409 (ninS (Nat.ne_of_lt (Nat.lt_of_lt_of_le APP1395.lt (Nat.le_of_eq g1401.symm))) nin0))
  have f1419 := ((AWW1395.ext E1401).keep K1409 (ninS (Nat.ne_of_lt (Nat.lt_of_lt_of_le AWW1395.lt (Nat.le_of_eq g1401.symm))) nin0))
  have f1420 := ((Af1395.ext E1401).keep K1409 (ninS (Nat.ne_of_lt (Nat.lt_of_lt_of_le Ef1395.lt (Nat.le_of_eq g1401.symm))) nin0))
  have f1421 := ((Ag1395.ext E1401).keep K1409 (ninS (Nat.ne_of_lt (Nat.lt_of_lt_of_le Eg1395.lt (Nat.le_of_eq g1401.symm))) nin0))
  obtain ⟨cq1422, kq1422, q1422a, q1422b, q1422c⟩ := isOf hZ rfl Ea1409
  obtain ⟨_, _, ⟨T1422, L1422, k1422, n1422⟩, -, X1422, ⟨Lc1422, hQ1422, l1422, y1422, z1422⟩, st1422⟩ := X1409.virtualBack hx (y := (⟨"com/example/whittle/whittle/engine/WordSets$Meet", "start", "(Lcom/example/whittle/whittle/engine/WordSets;I)V"⟩ : MethodName)) (z := (⟨"com/example/whittle/whittle/engine/WordSets$Meet", "start", "(Lcom/example/whittle/whittle/engine/WordSets;I)V"⟩ : MethodName)) hown (mvT hZ (own_hw hw 38 rfl)) (mvT hZ (own_hw hw 39 rfl)) (notFace_of_selects (args := #[]) (mvT hZ (own_hw hw 41 rfl))) (mvT hZ (own_hw hw 41 rfl)) (mvT hZ (own_hw hw 40 rfl)) (by decide) (backOf (W := 0) (rm_stf l Z a0 hw [] b1401 P1409 W1409 k1409 b1386 PP1395 WW1395 P01395 W01395 kPP1395 kWW1395 kf1395 kg1395 N pl wl T1409.heap n0 Z1412 g_b1401 Ea1409 Fp1409 Fw1409 Fc1409 A11409 f1415 f1416 f1417 f1418 f1419 f1420 f1421 hN i3 i0 iL iN) hZ (own_hw hw 42 rfl) (own_hw hw 29 rfl) (by decide) (by decide)) q1422a q1422c (g := (mkF m 142 #[sI p0, sI p1, sI p2, sI p3, sI p4, sI p5, sI a, sI b, sI c, sI r1335, sI r1338, sI r1341, sR b1344, sR b1386, sR b1401, sU, sU, sU, sU, sU, sU, sU] [(.int (0 : Int32)), (.ref b1386), (.ref b1401)])) rfl (by rw [hml]; rfl) (Steps.refl _) (argsL := [(.ref b1386), (.int (0 : Int32))]) (rest := []) (lenOf pd__28Lcom_2fexample_2fwhittle_2fwhittle_2fengine_2fWordSets_3bI_29V rfl) rfl (by show 2 * 0 + _ ≤ _; exact Nat.le_of_eq rfl) (hb hby at_142) (fun _ _ => ⟨rfl, rfl, (Nat.le_of_ble_eq_true rfl : 10 + 2 ≤ _), (Nat.le_of_ble_eq_true rfl : 17 + 6 ≤ _)⟩)
  dsimp only [Pt.U, Pt.locs, Pt.cells, Pt.slots] at X1422 l1422 y1422 z1422 st1422 hQ1422
  subst l1422 y1422 z1422
  obtain ⟨rfl, Nq1422, K1422, Ea1422, Fc1422, P1422, W1422, k1422, k21422, Fp1422, Fw1422, A11422, A21422, E11422, E21422, s11422, s21422⟩ := hQ1422
  have N1423 := Fr.app N1410 Nq1422
  have P1424 : Rg p e below (T1422.setTop (mkF m 145 #[sI p0, sI p1, sI p2, sI p3, sI p4, sI p5, sI a, sI b, sI c, sI r1335, sI r1338, sI r1341, sR b1344, sR b1386, sR b1401, sU, sU, sU, sU, sU, sU, sU] [])) B0 := fun t k => P1411 t (by
    refine XS.astore X1409.here hx rfl (hb hby at_135) rfl rfl (l' := #[sI p0, sI p1, sI p2, sI p3, sI p4, sI p5, sI a, sI b, sI c, sI r1335, sI r1338, sI r1341, sR b1344, sR b1386, sR b1401, sU, sU, sU, sU, sU, sU, sU]) rfl ?_
    refine XS.aload X1409.here hx rfl (hb hby at_137) rfl rfl ?_
    refine XS.aload X1409.here hx rfl (hb hby at_139) rfl rfl ?_
    refine XS.iconst X1409.here hx rfl (hb hby at_141) ?_
    show Sg p e below (T1409.setTop (mkF m 142 #[sI p0, sI p1, sI p2, sI p3, sI p4, sI p5, sI a, sI b, sI c, sI r1335, sI r1338, sI r1341, sR b1344, sR b1386, sR b1401, sU, sU, sU, sU, sU, sU, sU] [(.int (0 : Int32)), (.ref b1386), (.ref b1401)])) _
    exact st1422.trans k)
  have Z1425 : n0 ≤ T1422.heap.size := Nat.le_trans Z1412 K1422.1
  have K1426 : Keep h0 T1422.heap [] := K1413.trans K1422 ((allS (Or.inr sz_b1401) all0))
  have O1427 : Old Z n0 T1422.heap := O1414.keep K1422 (allS g_b1401 all0)
  have g_P1422 : n0 ≤ P1422 := Nat.le_trans Z1412 s11422
  have sz_P1422 : h0.size ≤ P1422 := Nat.le_trans K1413.1 s11422
  have g_W1422 : n0 ≤ W1422 := Nat.le_trans Z1412 s21422
  have sz_W1422 : h0.size ≤ W1422 := Nat.le_trans K1413.1 s21422
  have AP9 : Arv Z T1422.heap P1422 k1422 .int N ((pl ++ []).map Value.int) (.int (0 : Int32)) := by rw [List.append_nil]; exact A11422
  have AW9 : Arv Z T1422.heap W1422 k21422 .long N ((wl ++ []).map Value.long) (.long (0 : Int64)) := by rw [List.append_nil]; exact A21422
  have hM9 : N = Int32.ofNat (pl ++ ([] : List Int32)).length := by rw [List.append_nil]; exact hN
  have hm9 : (pl ++ ([] : List Int32)).length ≤ 3 := by rw [List.append_nil]; exact i3
  obtain ⟨cq1428, kq1428, q1428a, q1428b, q1428c⟩ := isOf hZ rfl Ea1422
  obtain ⟨_, _, ⟨T1428, L1428, k1428, n1428⟩, -, X1428, ⟨Lc1428, hQ1428, l1428, y1428, z1428⟩, st1428⟩ := X1422.virtualBack hx (y := (⟨"com/example/whittle/whittle/engine/WordSets$Meet", "remove", "(I)V"⟩ : MethodName)) (z := (⟨"com/example/whittle/whittle/engine/WordSets$Meet", "remove", "(I)V"⟩ : MethodName)) hown (mvT hZ (own_hw hw 47 rfl)) (mvT hZ (own_hw hw 48 rfl)) (notFace_of_selects (args := #[]) (mvT hZ (own_hw hw 50 rfl))) (mvT hZ (own_hw hw 50 rfl)) (mvT hZ (own_hw hw 49 rfl)) (by decide) (backOf (W := 0) (rm_rmv l Z a0 hw [] b1401 P1422 W1422 k1422 k21422 N pl [] wl [] N r1335 T1422.heap n0 Z1425 g_b1401 g_P1422 g_W1422 Ea1422 E11422 E21422 Fp1422 Fw1422 Fc1422 AP9 AW9 hM9 hm9 hN iL rfl iP) hZ (own_hw hw 51 rfl) (own_hw hw 29 rfl) (by decide) (by decide)) q1428a q1428c (g := (mkF m 149 #[sI p0, sI p1, sI p2, sI p3, sI p4, sI p5, sI a, sI b, sI c, sI r1335, sI r1338, sI r1341, sR b1344, sR b1386, sR b1401, sU, sU, sU, sU, sU, sU, sU] [(.int r1335), (.ref b1401)])) rfl (by rw [hml]; rfl) (Steps.refl _) (argsL := [(.int r1335)]) (rest := []) (lenOf pd__28I_29V rfl) rfl (by show 2 * 0 + _ ≤ _; exact Nat.le_of_eq rfl) (hb hby at_149) (fun _ _ => ⟨rfl, rfl, (Nat.le_of_ble_eq_true rfl : 12 + 0 ≤ _), (Nat.le_of_ble_eq_true rfl : 23 + 0 ≤ _)⟩)
  dsimp only [Pt.U, Pt.locs, Pt.cells, Pt.slots] at X1428 l1428 y1428 z1428 st1428 hQ1428
  subst l1428 y1428 z1428
  obtain ⟨rfl, Nq1428, K1428, A1428⟩ := hQ1428
  have N1429 := Fr.app N1423 Nq1428
  have P1430 : Rg p e below (T1428.setTop (mkF m 152 #[sI p0, sI p1, sI p2, sI p3, sI p4, sI p5, sI a, sI b, sI c, sI r1335, sI r1338, sI r1341, sR b1344, sR b1386, sR b1401, sU, sU, sU, sU, sU, sU, sU] [])) B0 := fun t k => P1424 t (by
    refine XS.aload X1422.here hx rfl (hb hby at_145) rfl rfl ?_
    refine XS.iload X1422.here hx rfl (hb hby at_147) rfl ?_
    show Sg p e below (T1422.setTop (mkF m 149 #[sI p0, sI p1, sI p2, sI p3, sI p4, sI p5, sI a, sI b, sI c, sI r1335, sI r1338, sI r1341, sR b1344, sR b1386, sR b1401, sU, sU, sU, sU, sU, sU, sU] [(.int r1335), (.ref b1401)])) _
    exact st1428.trans k)
  have Z1431 : n0 ≤ T1428.heap.size := Nat.le_trans Z1425 K1428.1
  have K1432 : Keep h0 T1428.heap [] := K1426.trans K1428 ((allS (Or.inr sz_W1422) all0))
  have O1433 : Old Z n0 T1428.heap := O1427.keep K1428 (allS g_W1422 all0)
  obtain ⟨w1428, hw1428⟩ : ∃ z : List Int64, z = own_rem pl wl r1335 := ⟨_, rfl⟩
  rw [← hw1428] at A1428
  have hl1428 : w1428.length = pl.length := by rw [hw1428, own_rem_len]; exact iL
  have rep1428 := own_rem_rep (m := r1335) iR
  rw [← hw1428] at rep1428
  have cap1428 := own_capf (P := fun x => decide (¬ x = r1335)) iC
  have f1434 := (Ea1422.keep K1428)
  have f1435 := (E11422.keep K1428)
  have f1436 := (E21422.keep K1428)
  have f1437 := (Fp1422.keep K1428 (ninS (Nat.ne_of_lt (Nat.lt_of_lt_of_le Fw1409.lt s21422)) nin0))
  have f1438 := (Fw1422.keep K1428 (ninS (Nat.ne_of_lt (Nat.lt_of_lt_of_le Fw1409.lt s21422)) nin0))
  have f1439 := (Fc1422.keep K1428 (ninS (Nat.ne_of_lt (Nat.lt_of_lt_of_le Fw1409.lt s21422)) nin0))
  have f1440 := (AP9.keep K1428 (ninS (Exa.ne E11422 E21422 (by decide)) nin0))
  obtain ⟨cq1441, kq1441, q1441a, q1441b, q1441c⟩ := isOf hZ rfl f1434
  obtain ⟨_, _, ⟨T1441, L1441, k1441, n1441⟩, -, X1441, ⟨Lc1441, hQ1441, l1441, y1441, z1441⟩, st1441⟩ := X1428.virtualBack hx (y := (⟨"com/example/whittle/whittle/engine/WordSets$Meet", "remove", "(I)V"⟩ : MethodName)) (z := (⟨"com/example/whittle/whittle/engine/WordSets$Meet", "remove", "(I)V"⟩ : MethodName)) hown (mvT hZ (own_hw hw 47 rfl)) (mvT hZ (own_hw hw 48 rfl)) (notFace_of_selects (args := #[]) (mvT hZ (own_hw hw 50 rfl))) (mvT hZ (own_hw hw 50 rfl)) (mvT hZ (own_hw hw 49 rfl)) (by decide) (backOf (W := 0) (rm_rmv l Z a0 hw [] b1401 P1422 W1422 k1422 k21422 N pl [] w1428 [] N r1338 T1428.heap n0 Z1431 g_b1401 g_P1422 g_W1422 f1434 f1435 f1436 f1437 f1438 f1439 f1440 A1428 hM9 hm9 hN hl1428 rfl iP) hZ (own_hw hw 51 rfl) (own_hw hw 29 rfl) (by decide) (by decide)) q1441a q1441c (g := (mkF m 156 #[sI p0, sI p1, sI p2, sI p3, sI p4, sI p5, sI a, sI b, sI c, sI r1335, sI r1338, sI r1341, sR b1344, sR b1386, sR b1401, sU, sU, sU, sU, sU, sU, sU] [(.int r1338), (.ref b1401)])) rfl (by rw [hml]; rfl) (Steps.refl _) (argsL := [(.int r1338)]) (rest := []) (lenOf pd__28I_29V rfl) rfl (by show 2 * 0 + _ ≤ _; exact Nat.le_of_eq rfl) (hb hby at_156) (fun _ _ => ⟨rfl, rfl, (Nat.le_of_ble_eq_true rfl : 12 + 0 ≤ _), (Nat.le_of_ble_eq_true rfl : 23 + 0 ≤ _)⟩)
  dsimp only [Pt.U, Pt.locs, Pt.cells, Pt.slots] at X1441 l1441 y1441 z1441 st1441 hQ1441
  subst l1441 y1441 z1441
  obtain ⟨rfl, Nq1441, K1441, A1441⟩ := hQ1441
  have N1442 := Fr.app N1429 Nq1441
  have P1443 : Rg p e below (T1441.setTop (mkF m 159 #[sI p0, sI p1, sI p2, sI p3, sI p4, sI p5, sI a, sI b, sI c, sI r1335, sI r1338, sI r1341, sR b1344, sR b1386, sR b1401, sU, sU, sU, sU, sU, sU, sU] [])) B0 := fun t k => P1430 t (by
    refine XS.aload X1428.here hx rfl (hb hby at_152) rfl rfl ?_
    refine XS.iload X1428.here hx rfl (hb hby at_154) rfl ?_
    show Sg p e below (T1428.setTop (mkF m 156 #[sI p0, sI p1, sI p2, sI p3, sI p4, sI p5, sI a, sI b, sI c, sI r1335, sI r1338, sI r1341, sR b1344, sR b1386, sR b1401, sU, sU, sU, sU, sU, sU, sU] [(.int r1338), (.ref b1401)])) _
    exact st1441.trans k)
  have Z1444 : n0 ≤ T1441.heap.size := Nat.le_trans Z1431 K1441.1
  have K1445 : Keep h0 T1441.heap [] := K1432.trans K1441 ((allS (Or.inr sz_W1422) all0))
  have O1446 : Old Z n0 T1441.heap := O1433.keep K1441 (allS g_W1422 all0)
  obtain ⟨w1441, hw1441⟩ : ∃ z : List Int64, z = own_rem pl w1428 r1338 := ⟨_, rfl⟩
  rw [← hw1441] at A1441
  have hl1441 : w1441.length = pl.length := by rw [hw1441, own_rem_len]; exact hl1428
  have rep1441 := own_rem_rep (m := r1338) rep1428
  rw [← hw1441] at rep1441
  have cap1441 := own_capf (P := fun x => decide (¬ x = r1338)) cap1428
  have f1447 := (f1434.keep K1441)
  have f1448 := (f1435.keep K1441)
  have f1449 := (f1436.keep K1441)
  have f1450 := (f1437.keep K1441 (ninS (Nat.ne_of_lt (Nat.lt_of_lt_of_le Fw1409.lt s21422)) nin0))
  have f1451 := (f1438.keep K1441 (ninS (Nat.ne_of_lt (Nat.lt_of_lt_of_le Fw1409.lt s21422)) nin0))
  have f1452 := (f1439.keep K1441 (ninS (Nat.ne_of_lt (Nat.lt_of_lt_of_le Fw1409.lt s21422)) nin0))
  have f1453 := (f1440.keep K1441 (ninS (Exa.ne E11422 E21422 (by decide)) nin0))
  obtain ⟨cq1454, kq1454, q1454a, q1454b, q1454c⟩ := isOf hZ rfl f1447
  obtain ⟨_, _, ⟨T1454, L1454, k1454, n1454⟩, -, X1454, ⟨Lc1454, hQ1454, l1454, y1454, z1454⟩, st1454⟩ := X1441.virtualBack hx (y := (⟨"com/example/whittle/whittle/engine/WordSets$Meet", "remove", "(I)V"⟩ : MethodName)) (z := (⟨"com/example/whittle/whittle/engine/WordSets$Meet", "remove", "(I)V"⟩ : MethodName)) hown (mvT hZ (own_hw hw 47 rfl)) (mvT hZ (own_hw hw 48 rfl)) (notFace_of_selects (args := #[]) (mvT hZ (own_hw hw 50 rfl))) (mvT hZ (own_hw hw 50 rfl)) (mvT hZ (own_hw hw 49 rfl)) (by decide) (backOf (W := 0) (rm_rmv l Z a0 hw [] b1401 P1422 W1422 k1422 k21422 N pl [] w1441 [] N r1341 T1441.heap n0 Z1444 g_b1401 g_P1422 g_W1422 f1447 f1448 f1449 f1450 f1451 f1452 f1453 A1441 hM9 hm9 hN hl1441 rfl iP) hZ (own_hw hw 51 rfl) (own_hw hw 29 rfl) (by decide) (by decide)) q1454a q1454c (g := (mkF m 163 #[sI p0, sI p1, sI p2, sI p3, sI p4, sI p5, sI a, sI b, sI c, sI r1335, sI r1338, sI r1341, sR b1344, sR b1386, sR b1401, sU, sU, sU, sU, sU, sU, sU] [(.int r1341), (.ref b1401)])) rfl (by rw [hml]; rfl) (Steps.refl _) (argsL := [(.int r1341)]) (rest := []) (lenOf pd__28I_29V rfl) rfl (by show 2 * 0 + _ ≤ _; exact Nat.le_of_eq rfl) (hb hby at_163) (fun _ _ => ⟨rfl, rfl, (Nat.le_of_ble_eq_true rfl : 12 + 0 ≤ _), (Nat.le_of_ble_eq_true rfl : 23 + 0 ≤ _)⟩)
  dsimp only [Pt.U, Pt.locs, Pt.cells, Pt.slots] at X1454 l1454 y1454 z1454 st1454 hQ1454
  subst l1454 y1454 z1454
  obtain ⟨rfl, Nq1454, K1454, A1454⟩ := hQ1454
  have N1455 := Fr.app N1442 Nq1454
  have P1456 : Rg p e below (T1454.setTop (mkF m 166 #[sI p0, sI p1, sI p2, sI p3, sI p4, sI p5, sI a, sI b, sI c, sI r1335, sI r1338, sI r1341, sR b1344, sR b1386, sR b1401, sU, sU, sU, sU, sU, sU, sU] [])) B0 := fun t k => P1443 t (by
    refine XS.aload X1441.here hx rfl (hb hby at_159) rfl rfl ?_
    refine XS.iload X1441.here hx rfl (hb hby at_161) rfl ?_
    show Sg p e below (T1441.setTop (mkF m 163 #[sI p0, sI p1, sI p2, sI p3, sI p4, sI p5, sI a, sI b, sI c, sI r1335, sI r1338, sI r1341, sR b1344, sR b1386, sR b1401, sU, sU, sU, sU, sU, sU, sU] [(.int r1341), (.ref b1401)])) _
    exact st1454.trans k)
  have Z1457 : n0 ≤ T1454.heap.size := Nat.le_trans Z1444 K1454.1
  have K1458 : Keep h0 T1454.heap [] := K1445.trans K1454 ((allS (Or.inr sz_W1422) all0))
  have O1459 : Old Z n0 T1454.heap := O1446.keep K1454 (allS g_W1422 all0)
  obtain ⟨w1454, hw1454⟩ : ∃ z : List Int64, z = own_rem pl w1441 r1341 := ⟨_, rfl⟩
  rw [← hw1454] at A1454
  have hl1454 : w1454.length = pl.length := by rw [hw1454, own_rem_len]; exact hl1441
  have rep1454 := own_rem_rep (m := r1341) rep1441
  rw [← hw1454] at rep1454
  have cap1454 := own_capf (P := fun x => decide (¬ x = r1341)) cap1441
  obtain ⟨gs, hgs⟩ : ∃ z : List (List Int32), z = ((((own_gs a b c).map (List.filter (fun x => decide (¬ x = r1335)))).map (List.filter (fun x => decide (¬ x = r1338)))).map (List.filter (fun x => decide (¬ x = r1341)))) := ⟨_, rfl⟩
  rw [← hgs] at rep1454 cap1454
  have hflat : gs.flatten = ([a, b, c].filter (fun x => decide (¬ x = r1335)) |>.filter (fun x => decide (¬ x = r1338)) |>.filter (fun x => decide (¬ x = r1341))) := by rw [hgs, own_fl, own_fl, own_fl, iF]
  have htot : gs.flatten.length ≤ 3 := by rw [hflat]; exact Nat.le_trans (List.length_filter_le _ _) (Nat.le_trans (List.length_filter_le _ _) (Nat.le_trans (List.length_filter_le _ _) (Nat.le_refl _)))
  have hg3 : ∀ g ∈ gs, g.length ≤ 3 := fun g hg => by have := cap1454 g hg; have := List.length_pos_of_mem hg; omega
  have f1460 := (f1447.keep K1454)
  have f1461 := (f1448.keep K1454)
  have f1462 := (f1449.keep K1454)
  have f1463 := (f1450.keep K1454 (ninS (Nat.ne_of_lt (Nat.lt_of_lt_of_le Fw1409.lt s21422)) nin0))
  have f1464 := (f1451.keep K1454 (ninS (Nat.ne_of_lt (Nat.lt_of_lt_of_le Fw1409.lt s21422)) nin0))
  have f1465 := (f1452.keep K1454 (ninS (Nat.ne_of_lt (Nat.lt_of_lt_of_le Fw1409.lt s21422)) nin0))
  have f1466 := (f1453.keep K1454 (ninS (Exa.ne E11422 E21422 (by decide)) nin0))
  obtain ⟨cq1467, kq1467, q1467a, q1467b, q1467c⟩ := isOf hZ rfl f1460
  obtain ⟨_, _, ⟨T1467, L1467, k1467, n1467⟩, -, X1467, ⟨Lc1467, hQ1467, l1467, y1467, z1467⟩, st1467⟩ := X1454.virtualBack hx (y := (⟨"com/example/whittle/whittle/engine/WordSets$Meet", "members", "()[I"⟩ : MethodName)) (z := (⟨"com/example/whittle/whittle/engine/WordSets$Meet", "members", "()[I"⟩ : MethodName)) hown (mvT hZ (own_hw hw 63 rfl)) (mvT hZ (own_hw hw 64 rfl)) (notFace_of_selects (args := #[]) (mvT hZ (own_hw hw 66 rfl))) (mvT hZ (own_hw hw 66 rfl)) (mvT hZ (own_hw hw 65 rfl)) (by decide) (backOf (W := 0) (rm_mbr l Z a0 hw [] b1401 P1422 W1422 k1422 k21422 N pl [] w1454 [] N gs T1454.heap n0 Z1457 g_b1401 g_P1422 g_W1422 f1460 f1461 f1462 f1463 f1464 f1465 f1466 A1454 hM9 hm9 hN hl1454 rfl rep1454 cap1454 htot) hZ (own_hw hw 67 rfl) (own_hw hw 29 rfl) (by decide) (by decide)) q1467a q1467c (g := (mkF m 168 #[sI p0, sI p1, sI p2, sI p3, sI p4, sI p5, sI a, sI b, sI c, sI r1335, sI r1338, sI r1341, sR b1344, sR b1386, sR b1401, sU, sU, sU, sU, sU, sU, sU] [(.ref b1401)])) rfl (by rw [hml]; rfl) (Steps.refl _) (argsL := []) (rest := []) (lenOf pd__28_29_5bI rfl) rfl (by show 2 * 0 + _ ≤ _; exact Nat.le_of_eq rfl) (hb hby at_168) (fun _ _ => ⟨rfl, rfl, (Nat.le_of_ble_eq_true rfl : 12 + 1 ≤ _), (Nat.le_of_ble_eq_true rfl : 23 + 3 ≤ _)⟩)
  dsimp only [Pt.U, Pt.locs, Pt.cells, Pt.slots] at X1467 l1467 y1467 z1467 st1467 hQ1467
  subst l1467 y1467 z1467
  obtain ⟨R1467, k1467, N1467, rfl, Nq1467, K1467, hN1467, A1467, s1467⟩ := hQ1467
  have N1468 := Fr.app N1455 Nq1467
  have P1469 : Rg p e below (T1467.setTop (mkF m 171 #[sI p0, sI p1, sI p2, sI p3, sI p4, sI p5, sI a, sI b, sI c, sI r1335, sI r1338, sI r1341, sR b1344, sR b1386, sR b1401, sU, sU, sU, sU, sU, sU, sU] [(.ref R1467)])) B0 := fun t k => P1456 t (by
    refine XS.aload X1454.here hx rfl (hb hby at_166) rfl rfl ?_
    show Sg p e below (T1454.setTop (mkF m 168 #[sI p0, sI p1, sI p2, sI p3, sI p4, sI p5, sI a, sI b, sI c, sI r1335, sI r1338, sI r1341, sR b1344, sR b1386, sR b1401, sU, sU, sU, sU, sU, sU, sU] [(.ref b1401)])) _
    exact st1467.trans k)
  have Z1470 : n0 ≤ T1467.heap.size := Nat.le_trans Z1457 K1467.1
  have K1471 : Keep h0 T1467.heap [] := K1458.trans K1467 (all0)
  have O1472 : Old Z n0 T1467.heap := O1459.keep K1467 all0
  have g_R1467 : n0 ≤ R1467 := Nat.le_trans Z1457 s1467
  have sz_R1467 : h0.size ≤ R1467 := Nat.le_trans K1458.1 s1467
  have f1473 := (f1460.keep K1467)
  have f1474 := (f1461.keep K1467)
  have f1475 := (f1462.keep K1467)
  have f1476 := (f1463.keep K1467 nin0)
  have f1477 := (f1464.keep K1467 nin0)
  have f1478 := (f1465.keep K1467 nin0)
  have f1479 := (f1466.keep K1467 nin0)
  have f1480 := (A1454.keep K1467 nin0)
  obtain ⟨cq1481, kq1481, q1481a, q1481b, q1481c⟩ := isOf hZ rfl f1473
  obtain ⟨_, _, ⟨T1481, L1481, k1481, n1481⟩, -, X1481, ⟨Lc1481, hQ1481, l1481, y1481, z1481⟩, st1481⟩ := X1467.virtualBack hx (y := (⟨"com/example/whittle/whittle/engine/WordSets$Meet", "isEmpty", "()Z"⟩ : MethodName)) (z := (⟨"com/example/whittle/whittle/engine/WordSets$Meet", "isEmpty", "()Z"⟩ : MethodName)) hown (mvT hZ (own_hw hw 86 rfl)) (mvT hZ (own_hw hw 87 rfl)) (notFace_of_selects (args := #[]) (mvT hZ (own_hw hw 89 rfl))) (mvT hZ (own_hw hw 89 rfl)) (mvT hZ (own_hw hw 88 rfl)) (by decide) (backOf (W := 0) (rm_emp l Z a0 hw [] b1401 P1422 W1422 k1422 k21422 N pl [] w1454 [] N T1467.heap n0 Z1470 g_b1401 g_P1422 g_W1422 f1473 f1474 f1475 f1476 f1477 f1478 f1479 f1480 hM9 hm9 hN hl1454 rfl) hZ (own_hw hw 90 rfl) (own_hw hw 29 rfl) (by decide) (by decide)) q1481a q1481c (g := (mkF m 175 #[sI p0, sI p1, sI p2, sI p3, sI p4, sI p5, sI a, sI b, sI c, sI r1335, sI r1338, sI r1341, sR b1344, sR b1386, sR b1401, sR R1467, sU, sU, sU, sU, sU, sU] [(.ref b1401)])) rfl (by rw [hml]; rfl) (Steps.refl _) (argsL := []) (rest := []) (lenOf pd__28_29Z rfl) rfl (by show 2 * 0 + _ ≤ _; exact Nat.le_of_eq rfl) (hb hby at_175) (fun _ _ => ⟨rfl, rfl, (Nat.le_of_ble_eq_true rfl : 13 + 0 ≤ _), (Nat.le_of_ble_eq_true rfl : 26 + 0 ≤ _)⟩)
  dsimp only [Pt.U, Pt.locs, Pt.cells, Pt.slots] at X1481 l1481 y1481 z1481 st1481 hQ1481
  subst l1481 y1481 z1481
  obtain ⟨rfl, Nq1481, e1481⟩ := hQ1481
  have N1482 := Fr.app N1468 Nq1481
  have P1483 : Rg p e below (T1481.setTop (mkF m 178 #[sI p0, sI p1, sI p2, sI p3, sI p4, sI p5, sI a, sI b, sI c, sI r1335, sI r1338, sI r1341, sR b1344, sR b1386, sR b1401, sR R1467, sU, sU, sU, sU, sU, sU] [(.int (own_emp w1454))])) B0 := fun t k => P1469 t (by
    refine XS.astore X1467.here hx rfl (hb hby at_171) rfl rfl (l' := #[sI p0, sI p1, sI p2, sI p3, sI p4, sI p5, sI a, sI b, sI c, sI r1335, sI r1338, sI r1341, sR b1344, sR b1386, sR b1401, sR R1467, sU, sU, sU, sU, sU, sU]) rfl ?_
    refine XS.aload X1467.here hx rfl (hb hby at_173) rfl rfl ?_
    show Sg p e below (T1467.setTop (mkF m 175 #[sI p0, sI p1, sI p2, sI p3, sI p4, sI p5, sI a, sI b, sI c, sI r1335, sI r1338, sI r1341, sR b1344, sR b1386, sR b1401, sR R1467, sU, sU, sU, sU, sU, sU] [(.ref b1401)])) _
    exact st1481.trans k)
  obtain ⟨em, hem⟩ : ∃ z : Int32, z = own_emp w1454 := ⟨_, rfl⟩
  have P1484 : Rg p e below (T1481.setTop (mkF m 178 #[sI p0, sI p1, sI p2, sI p3, sI p4, sI p5, sI a, sI b, sI c, sI r1335, sI r1338, sI r1341, sR b1344, sR b1386, sR b1401, sR R1467, sU, sU, sU, sU, sU, sU] [(.int em)])) B0 := fun t k => P1483 t (by rw [hem] at k; exact k)
  have hem2 : em = if gs.flatten = [] then 1 else 0 := hem.trans (own_empz rep1454 hg3)
  have P1485 : Rg p e below (T1481.setTop (mkF m 184 #[sI p0, sI p1, sI p2, sI p3, sI p4, sI p5, sI a, sI b, sI c, sI r1335, sI r1338, sI r1341, sR b1344, sR b1386, sR b1401, sR R1467, sI em, sU, sU, sU, sU, sU] [(.int r1335), (.int a)])) B0 := fun t k => P1484 t (by
    refine XS.istore X1481.here hx rfl (hb hby at_178) rfl (l' := #[sI p0, sI p1, sI p2, sI p3, sI p4, sI p5, sI a, sI b, sI c, sI r1335, sI r1338, sI r1341, sR b1344, sR b1386, sR b1401, sR R1467, sI em, sU, sU, sU, sU, sU]) rfl ?_
    refine XS.iload X1481.here hx rfl (hb hby at_180) rfl ?_
    refine XS.iload X1481.here hx rfl (hb hby at_182) rfl ?_
    show Sg p e below (T1481.setTop (mkF m 184 #[sI p0, sI p1, sI p2, sI p3, sI p4, sI p5, sI a, sI b, sI c, sI r1335, sI r1338, sI r1341, sR b1344, sR b1386, sR b1401, sR R1467, sI em, sU, sU, sU, sU, sU] [(.int r1335), (.int a)])) _
    exact k)
  obtain ⟨b1489, hb1489⟩ : ∃ z : Int32, z = (if a = r1335 then (0 : Int32) else (if a = r1338 then (0 : Int32) else (if a = r1341 then (0 : Int32) else (1 : Int32)))) := ⟨_, rfl⟩
  have P1490 : Rg p e below (T1481.setTop (mkF m 206 #[sI p0, sI p1, sI p2, sI p3, sI p4, sI p5, sI a, sI b, sI c, sI r1335, sI r1338, sI r1341, sR b1344, sR b1386, sR b1401, sR R1467, sI em, sU, sU, sU, sU, sU] [(.int b1489)])) B0 := fun t k => P1485 t (by
    by_cases q1486 : a = r1335
    · skip
      refine XS.icmpYes X1481.here hx rfl (pc0 := 184) (pc' := 205) rfl (hb hby at_184) rfl (teq (show a = r1335 from q1486)).1 (by decide) (by decide) ?_
      refine XS.iconst X1481.here hx rfl (hb hby at_205) ?_
      show Sg p e below (T1481.setTop (mkF m 206 #[sI p0, sI p1, sI p2, sI p3, sI p4, sI p5, sI a, sI b, sI c, sI r1335, sI r1338, sI r1341, sR b1344, sR b1386, sR b1401, sR R1467, sI em, sU, sU, sU, sU, sU] [(.int (0 : Int32))])) _
      have eb1489 : b1489 = (0 : Int32) := by rw [hb1489, if_pos q1486]
      rw [eb1489] at k
      exact k
    · skip
      refine XS.icmpNo X1481.here hx rfl (hb hby at_184) rfl (feq (show ¬ (a = r1335) from q1486)).1 ?_
      refine XS.iload X1481.here hx rfl (hb hby at_187) rfl ?_
      refine XS.iload X1481.here hx rfl (hb hby at_189) rfl ?_
      show Sg p e below (T1481.setTop (mkF m 191 #[sI p0, sI p1, sI p2, sI p3, sI p4, sI p5, sI a, sI b, sI c, sI r1335, sI r1338, sI r1341, sR b1344, sR b1386, sR b1401, sR R1467, sI em, sU, sU, sU, sU, sU] [(.int r1338), (.int a)])) _
      by_cases q1487 : a = r1338
      · skip
        refine XS.icmpYes X1481.here hx rfl (pc0 := 191) (pc' := 205) rfl (hb hby at_191) rfl (teq (show a = r1338 from q1487)).1 (by decide) (by decide) ?_
        refine XS.iconst X1481.here hx rfl (hb hby at_205) ?_
        show Sg p e below (T1481.setTop (mkF m 206 #[sI p0, sI p1, sI p2, sI p3, sI p4, sI p5, sI a, sI b, sI c, sI r1335, sI r1338, sI r1341, sR b1344, sR b1386, sR b1401, sR R1467, sI em, sU, sU, sU, sU, sU] [(.int (0 : Int32))])) _
        have eb1489 : b1489 = (0 : Int32) := by rw [hb1489, if_neg q1486, if_pos q1487]
        rw [eb1489] at k
        exact k
      · skip
        refine XS.icmpNo X1481.here hx rfl (hb hby at_191) rfl (feq (show ¬ (a = r1338) from q1487)).1 ?_
        refine XS.iload X1481.here hx rfl (hb hby at_194) rfl ?_
        refine XS.iload X1481.here hx rfl (hb hby at_196) rfl ?_
        show Sg p e below (T1481.setTop (mkF m 198 #[sI p0, sI p1, sI p2, sI p3, sI p4, sI p5, sI a, sI b, sI c, sI r1335, sI r1338, sI r1341, sR b1344, sR b1386, sR b1401, sR R1467, sI em, sU, sU, sU, sU, sU] [(.int r1341), (.int a)])) _
        by_cases q1488 : a = r1341
        · skip
          refine XS.icmpYes X1481.here hx rfl (pc0 := 198) (pc' := 205) rfl (hb hby at_198) rfl (teq (show a = r1341 from q1488)).1 (by decide) (by decide) ?_
          refine XS.iconst X1481.here hx rfl (hb hby at_205) ?_
          show Sg p e below (T1481.setTop (mkF m 206 #[sI p0, sI p1, sI p2, sI p3, sI p4, sI p5, sI a, sI b, sI c, sI r1335, sI r1338, sI r1341, sR b1344, sR b1386, sR b1401, sR R1467, sI em, sU, sU, sU, sU, sU] [(.int (0 : Int32))])) _
          have eb1489 : b1489 = (0 : Int32) := by rw [hb1489, if_neg q1486, if_neg q1487, if_pos q1488]
          rw [eb1489] at k
          exact k
        · skip
          refine XS.icmpNo X1481.here hx rfl (hb hby at_198) rfl (feq (show ¬ (a = r1341) from q1488)).1 ?_
          refine XS.iconst X1481.here hx rfl (hb hby at_201) ?_
          refine XS.goto X1481.here hx rfl (pc0 := 202) (pc' := 206) rfl (hb hby at_202) (by decide) (by decide) ?_
          show Sg p e below (T1481.setTop (mkF m 206 #[sI p0, sI p1, sI p2, sI p3, sI p4, sI p5, sI a, sI b, sI c, sI r1335, sI r1338, sI r1341, sR b1344, sR b1386, sR b1401, sR R1467, sI em, sU, sU, sU, sU, sU] [(.int (1 : Int32))])) _
          have eb1489 : b1489 = (1 : Int32) := by rw [hb1489, if_neg q1486, if_neg q1487, if_neg q1488]
          rw [eb1489] at k
          exact k)
  have P1491 : Rg p e below (T1481.setTop (mkF m 212 #[sI p0, sI p1, sI p2, sI p3, sI p4, sI p5, sI a, sI b, sI c, sI r1335, sI r1338, sI r1341, sR b1344, sR b1386, sR b1401, sR R1467, sI em, sI b1489, sU, sU, sU, sU] [(.int r1335), (.int b)])) B0 := fun t k => P1490 t (by
    refine XS.istore X1481.here hx rfl (hb hby at_206) rfl (l' := #[sI p0, sI p1, sI p2, sI p3, sI p4, sI p5, sI a, sI b, sI c, sI r1335, sI r1338, sI r1341, sR b1344, sR b1386, sR b1401, sR R1467, sI em, sI b1489, sU, sU, sU, sU]) rfl ?_
    refine XS.iload X1481.here hx rfl (hb hby at_208) rfl ?_
    refine XS.iload X1481.here hx rfl (hb hby at_210) rfl ?_
    show Sg p e below (T1481.setTop (mkF m 212 #[sI p0, sI p1, sI p2, sI p3, sI p4, sI p5, sI a, sI b, sI c, sI r1335, sI r1338, sI r1341, sR b1344, sR b1386, sR b1401, sR R1467, sI em, sI b1489, sU, sU, sU, sU] [(.int r1335), (.int b)])) _
    exact k)
  obtain ⟨b1495, hb1495⟩ : ∃ z : Int32, z = (if b = r1335 then (0 : Int32) else (if b = r1338 then (0 : Int32) else (if b = r1341 then (0 : Int32) else (1 : Int32)))) := ⟨_, rfl⟩
  have P1496 : Rg p e below (T1481.setTop (mkF m 234 #[sI p0, sI p1, sI p2, sI p3, sI p4, sI p5, sI a, sI b, sI c, sI r1335, sI r1338, sI r1341, sR b1344, sR b1386, sR b1401, sR R1467, sI em, sI b1489, sU, sU, sU, sU] [(.int b1495)])) B0 := fun t k => P1491 t (by
    by_cases q1492 : b = r1335
    · skip
      refine XS.icmpYes X1481.here hx rfl (pc0 := 212) (pc' := 233) rfl (hb hby at_212) rfl (teq (show b = r1335 from q1492)).1 (by decide) (by decide) ?_
      refine XS.iconst X1481.here hx rfl (hb hby at_233) ?_
      show Sg p e below (T1481.setTop (mkF m 234 #[sI p0, sI p1, sI p2, sI p3, sI p4, sI p5, sI a, sI b, sI c, sI r1335, sI r1338, sI r1341, sR b1344, sR b1386, sR b1401, sR R1467, sI em, sI b1489, sU, sU, sU, sU] [(.int (0 : Int32))])) _
      have eb1495 : b1495 = (0 : Int32) := by rw [hb1495, if_pos q1492]
      rw [eb1495] at k
      exact k
    · skip
      refine XS.icmpNo X1481.here hx rfl (hb hby at_212) rfl (feq (show ¬ (b = r1335) from q1492)).1 ?_
      refine XS.iload X1481.here hx rfl (hb hby at_215) rfl ?_
      refine XS.iload X1481.here hx rfl (hb hby at_217) rfl ?_
      show Sg p e below (T1481.setTop (mkF m 219 #[sI p0, sI p1, sI p2, sI p3, sI p4, sI p5, sI a, sI b, sI c, sI r1335, sI r1338, sI r1341, sR b1344, sR b1386, sR b1401, sR R1467, sI em, sI b1489, sU, sU, sU, sU] [(.int r1338), (.int b)])) _
      by_cases q1493 : b = r1338
      · skip
        refine XS.icmpYes X1481.here hx rfl (pc0 := 219) (pc' := 233) rfl (hb hby at_219) rfl (teq (show b = r1338 from q1493)).1 (by decide) (by decide) ?_
        refine XS.iconst X1481.here hx rfl (hb hby at_233) ?_
        show Sg p e below (T1481.setTop (mkF m 234 #[sI p0, sI p1, sI p2, sI p3, sI p4, sI p5, sI a, sI b, sI c, sI r1335, sI r1338, sI r1341, sR b1344, sR b1386, sR b1401, sR R1467, sI em, sI b1489, sU, sU, sU, sU] [(.int (0 : Int32))])) _
        have eb1495 : b1495 = (0 : Int32) := by rw [hb1495, if_neg q1492, if_pos q1493]
        rw [eb1495] at k
        exact k
      · skip
        refine XS.icmpNo X1481.here hx rfl (hb hby at_219) rfl (feq (show ¬ (b = r1338) from q1493)).1 ?_
        refine XS.iload X1481.here hx rfl (hb hby at_222) rfl ?_
        refine XS.iload X1481.here hx rfl (hb hby at_224) rfl ?_
        show Sg p e below (T1481.setTop (mkF m 226 #[sI p0, sI p1, sI p2, sI p3, sI p4, sI p5, sI a, sI b, sI c, sI r1335, sI r1338, sI r1341, sR b1344, sR b1386, sR b1401, sR R1467, sI em, sI b1489, sU, sU, sU, sU] [(.int r1341), (.int b)])) _
        by_cases q1494 : b = r1341
        · skip
          refine XS.icmpYes X1481.here hx rfl (pc0 := 226) (pc' := 233) rfl (hb hby at_226) rfl (teq (show b = r1341 from q1494)).1 (by decide) (by decide) ?_
          refine XS.iconst X1481.here hx rfl (hb hby at_233) ?_
          show Sg p e below (T1481.setTop (mkF m 234 #[sI p0, sI p1, sI p2, sI p3, sI p4, sI p5, sI a, sI b, sI c, sI r1335, sI r1338, sI r1341, sR b1344, sR b1386, sR b1401, sR R1467, sI em, sI b1489, sU, sU, sU, sU] [(.int (0 : Int32))])) _
          have eb1495 : b1495 = (0 : Int32) := by rw [hb1495, if_neg q1492, if_neg q1493, if_pos q1494]
          rw [eb1495] at k
          exact k
        · skip
          refine XS.icmpNo X1481.here hx rfl (hb hby at_226) rfl (feq (show ¬ (b = r1341) from q1494)).1 ?_
          refine XS.iconst X1481.here hx rfl (hb hby at_229) ?_
          refine XS.goto X1481.here hx rfl (pc0 := 230) (pc' := 234) rfl (hb hby at_230) (by decide) (by decide) ?_
          show Sg p e below (T1481.setTop (mkF m 234 #[sI p0, sI p1, sI p2, sI p3, sI p4, sI p5, sI a, sI b, sI c, sI r1335, sI r1338, sI r1341, sR b1344, sR b1386, sR b1401, sR R1467, sI em, sI b1489, sU, sU, sU, sU] [(.int (1 : Int32))])) _
          have eb1495 : b1495 = (1 : Int32) := by rw [hb1495, if_neg q1492, if_neg q1493, if_neg q1494]
          rw [eb1495] at k
          exact k)
  have P1497 : Rg p e below (T1481.setTop (mkF m 240 #[sI p0, sI p1, sI p2, sI p3, sI p4, sI p5, sI a, sI b, sI c, sI r1335, sI r1338, sI r1341, sR b1344, sR b1386, sR b1401, sR R1467, sI em, sI b1489, sI b1495, sU, sU, sU] [(.int r1335), (.int c)])) B0 := fun t k => P1496 t (by
    refine XS.istore X1481.here hx rfl (hb hby at_234) rfl (l' := #[sI p0, sI p1, sI p2, sI p3, sI p4, sI p5, sI a, sI b, sI c, sI r1335, sI r1338, sI r1341, sR b1344, sR b1386, sR b1401, sR R1467, sI em, sI b1489, sI b1495, sU, sU, sU]) rfl ?_
    refine XS.iload X1481.here hx rfl (hb hby at_236) rfl ?_
    refine XS.iload X1481.here hx rfl (hb hby at_238) rfl ?_
    show Sg p e below (T1481.setTop (mkF m 240 #[sI p0, sI p1, sI p2, sI p3, sI p4, sI p5, sI a, sI b, sI c, sI r1335, sI r1338, sI r1341, sR b1344, sR b1386, sR b1401, sR R1467, sI em, sI b1489, sI b1495, sU, sU, sU] [(.int r1335), (.int c)])) _
    exact k)
  obtain ⟨b1501, hb1501⟩ : ∃ z : Int32, z = (if c = r1335 then (0 : Int32) else (if c = r1338 then (0 : Int32) else (if c = r1341 then (0 : Int32) else (1 : Int32)))) := ⟨_, rfl⟩
  have P1502 : Rg p e below (T1481.setTop (mkF m 262 #[sI p0, sI p1, sI p2, sI p3, sI p4, sI p5, sI a, sI b, sI c, sI r1335, sI r1338, sI r1341, sR b1344, sR b1386, sR b1401, sR R1467, sI em, sI b1489, sI b1495, sU, sU, sU] [(.int b1501)])) B0 := fun t k => P1497 t (by
    by_cases q1498 : c = r1335
    · skip
      refine XS.icmpYes X1481.here hx rfl (pc0 := 240) (pc' := 261) rfl (hb hby at_240) rfl (teq (show c = r1335 from q1498)).1 (by decide) (by decide) ?_
      refine XS.iconst X1481.here hx rfl (hb hby at_261) ?_
      show Sg p e below (T1481.setTop (mkF m 262 #[sI p0, sI p1, sI p2, sI p3, sI p4, sI p5, sI a, sI b, sI c, sI r1335, sI r1338, sI r1341, sR b1344, sR b1386, sR b1401, sR R1467, sI em, sI b1489, sI b1495, sU, sU, sU] [(.int (0 : Int32))])) _
      have eb1501 : b1501 = (0 : Int32) := by rw [hb1501, if_pos q1498]
      rw [eb1501] at k
      exact k
    · skip
      refine XS.icmpNo X1481.here hx rfl (hb hby at_240) rfl (feq (show ¬ (c = r1335) from q1498)).1 ?_
      refine XS.iload X1481.here hx rfl (hb hby at_243) rfl ?_
      refine XS.iload X1481.here hx rfl (hb hby at_245) rfl ?_
      show Sg p e below (T1481.setTop (mkF m 247 #[sI p0, sI p1, sI p2, sI p3, sI p4, sI p5, sI a, sI b, sI c, sI r1335, sI r1338, sI r1341, sR b1344, sR b1386, sR b1401, sR R1467, sI em, sI b1489, sI b1495, sU, sU, sU] [(.int r1338), (.int c)])) _
      by_cases q1499 : c = r1338
      · skip
        refine XS.icmpYes X1481.here hx rfl (pc0 := 247) (pc' := 261) rfl (hb hby at_247) rfl (teq (show c = r1338 from q1499)).1 (by decide) (by decide) ?_
        refine XS.iconst X1481.here hx rfl (hb hby at_261) ?_
        show Sg p e below (T1481.setTop (mkF m 262 #[sI p0, sI p1, sI p2, sI p3, sI p4, sI p5, sI a, sI b, sI c, sI r1335, sI r1338, sI r1341, sR b1344, sR b1386, sR b1401, sR R1467, sI em, sI b1489, sI b1495, sU, sU, sU] [(.int (0 : Int32))])) _
        have eb1501 : b1501 = (0 : Int32) := by rw [hb1501, if_neg q1498, if_pos q1499]
        rw [eb1501] at k
        exact k
      · skip
        refine XS.icmpNo X1481.here hx rfl (hb hby at_247) rfl (feq (show ¬ (c = r1338) from q1499)).1 ?_
        refine XS.iload X1481.here hx rfl (hb hby at_250) rfl ?_
        refine XS.iload X1481.here hx rfl (hb hby at_252) rfl ?_
        show Sg p e below (T1481.setTop (mkF m 254 #[sI p0, sI p1, sI p2, sI p3, sI p4, sI p5, sI a, sI b, sI c, sI r1335, sI r1338, sI r1341, sR b1344, sR b1386, sR b1401, sR R1467, sI em, sI b1489, sI b1495, sU, sU, sU] [(.int r1341), (.int c)])) _
        by_cases q1500 : c = r1341
        · skip
          refine XS.icmpYes X1481.here hx rfl (pc0 := 254) (pc' := 261) rfl (hb hby at_254) rfl (teq (show c = r1341 from q1500)).1 (by decide) (by decide) ?_
          refine XS.iconst X1481.here hx rfl (hb hby at_261) ?_
          show Sg p e below (T1481.setTop (mkF m 262 #[sI p0, sI p1, sI p2, sI p3, sI p4, sI p5, sI a, sI b, sI c, sI r1335, sI r1338, sI r1341, sR b1344, sR b1386, sR b1401, sR R1467, sI em, sI b1489, sI b1495, sU, sU, sU] [(.int (0 : Int32))])) _
          have eb1501 : b1501 = (0 : Int32) := by rw [hb1501, if_neg q1498, if_neg q1499, if_pos q1500]
          rw [eb1501] at k
          exact k
        · skip
          refine XS.icmpNo X1481.here hx rfl (hb hby at_254) rfl (feq (show ¬ (c = r1341) from q1500)).1 ?_
          refine XS.iconst X1481.here hx rfl (hb hby at_257) ?_
          refine XS.goto X1481.here hx rfl (pc0 := 258) (pc' := 262) rfl (hb hby at_258) (by decide) (by decide) ?_
          show Sg p e below (T1481.setTop (mkF m 262 #[sI p0, sI p1, sI p2, sI p3, sI p4, sI p5, sI a, sI b, sI c, sI r1335, sI r1338, sI r1341, sR b1344, sR b1386, sR b1401, sR R1467, sI em, sI b1489, sI b1495, sU, sU, sU] [(.int (1 : Int32))])) _
          have eb1501 : b1501 = (1 : Int32) := by rw [hb1501, if_neg q1498, if_neg q1499, if_neg q1500]
          rw [eb1501] at k
          exact k)
  obtain ⟨T1503, h1503, k1503, X1503, e1503, E1503, A1503, B1503, st1503⟩ := newPE X1481 hx hZ (own_hw hw 7 rfl) e1481 (g := (mkF m 265 #[sI p0, sI p1, sI p2, sI p3, sI p4, sI p5, sI a, sI b, sI c, sI r1335, sI r1338, sI r1341, sR b1344, sR b1386, sR b1401, sR R1467, sI em, sI b1489, sI b1495, sI b1501, sU, sU] [(.int (3 : Int32))])) rfl (hb hby at_265) rfl (by decide) (cap := 3) (by decide) (by decide) (by decide) (by decide) (ad := "[I") (by decide)
  obtain ⟨b1503, g1503⟩ : ∃ z, z = T1467.heap.size := ⟨_, rfl⟩
  rw [← g1503] at A1503 B1503 st1503
  have g_b1503 : n0 ≤ b1503 := Nat.le_trans Z1470 (Nat.le_of_eq g1503.symm)
  have sz_b1503 : h0.size ≤ b1503 := Nat.le_trans K1471.1 (Nat.le_of_eq g1503.symm)
  have P1504 : Rg p e below (T1503.setTop (mkF m 267 #[sI p0, sI p1, sI p2, sI p3, sI p4, sI p5, sI a, sI b, sI c, sI r1335, sI r1338, sI r1341, sR b1344, sR b1386, sR b1401, sR R1467, sI em, sI b1489, sI b1495, sI b1501, sU, sU] [(.ref b1503)])) B0 := fun t k => P1502 t (by
    refine XS.istore X1481.here hx rfl (hb hby at_262) rfl (l' := #[sI p0, sI p1, sI p2, sI p3, sI p4, sI p5, sI a, sI b, sI c, sI r1335, sI r1338, sI r1341, sR b1344, sR b1386, sR b1401, sR R1467, sI em, sI b1489, sI b1495, sI b1501, sU, sU]) rfl ?_
    refine XS.iconst X1481.here hx rfl (hb hby at_264) ?_
    show Sg p e below (T1481.setTop (mkF m 265 #[sI p0, sI p1, sI p2, sI p3, sI p4, sI p5, sI a, sI b, sI c, sI r1335, sI r1338, sI r1341, sR b1344, sR b1386, sR b1401, sR R1467, sI em, sI b1489, sI b1495, sI b1501, sU, sU] [(.int (3 : Int32))])) _
    exact st1503 _ k)
  have Z1505 : n0 ≤ h1503.size := Nat.le_trans Z1470 E1503.1
  have K1506 : Keep h0 h1503 [] := K1471.ext E1503
  have O1507 : Old Z n0 h1503 := O1472.ext E1503
  have v1508 : Arv Z h1503 b1503 k1503 .int (3 : Int32) [(.int (0 : Int32)), (.int (0 : Int32)), (.int (0 : Int32))] (.int (0 : Int32)) := (Arv.new A1503 (by decide)).pad (pad_rep [] (.int (0 : Int32)) 3)
  have P1509 : Rg p e below (T1503.setTop (mkF m 274 #[sI p0, sI p1, sI p2, sI p3, sI p4, sI p5, sI a, sI b, sI c, sI r1335, sI r1338, sI r1341, sR b1344, sR b1386, sR b1401, sR R1467, sI em, sI b1489, sI b1495, sI b1501, sR b1503, sI 0] [(.int b1489)])) B0 := fun t k => P1504 t (by
    refine XS.astore X1503.here hx rfl (hb hby at_267) rfl rfl (l' := #[sI p0, sI p1, sI p2, sI p3, sI p4, sI p5, sI a, sI b, sI c, sI r1335, sI r1338, sI r1341, sR b1344, sR b1386, sR b1401, sR R1467, sI em, sI b1489, sI b1495, sI b1501, sR b1503, sU]) rfl ?_
    refine XS.iconst X1503.here hx rfl (hb hby at_269) ?_
    refine XS.istore X1503.here hx rfl (hb hby at_270) rfl (l' := #[sI p0, sI p1, sI p2, sI p3, sI p4, sI p5, sI a, sI b, sI c, sI r1335, sI r1338, sI r1341, sR b1344, sR b1386, sR b1401, sR R1467, sI em, sI b1489, sI b1495, sI b1501, sR b1503, sI 0]) rfl ?_
    refine XS.iload X1503.here hx rfl (hb hby at_272) rfl ?_
    show Sg p e below (T1503.setTop (mkF m 274 #[sI p0, sI p1, sI p2, sI p3, sI p4, sI p5, sI a, sI b, sI c, sI r1335, sI r1338, sI r1341, sR b1344, sR b1386, sR b1401, sR R1467, sI em, sI b1489, sI b1495, sI b1501, sR b1503, sI 0] [(.int b1489)])) _
    exact k)
  by_cases q1510 : b1489 = (0 : Int32)
  · skip
    have ka := (own_kp hb1489).2 q1510
    by_cases q1511 : b1495 = (0 : Int32)
    · skip
      have kb := (own_kp hb1495).2 q1511
      have P1512 : Rg p e below (T1503.setTop (mkF m 304 #[sI p0, sI p1, sI p2, sI p3, sI p4, sI p5, sI a, sI b, sI c, sI r1335, sI r1338, sI r1341, sR b1344, sR b1386, sR b1401, sR R1467, sI em, sI b1489, sI b1495, sI b1501, sR b1503, sI 0] [(.int b1501)])) B0 := fun t k => P1509 t (by
        refine XS.ifYes X1503.here hx rfl (pc0 := 274) (pc' := 287) rfl (hb hby at_274) rfl ((if0 _ _).trans (teq (show b1489 = (0 : Int32) from q1510)).1) (by decide) (by decide) ?_
        refine XS.iload X1503.here hx rfl (hb hby at_287) rfl ?_
        refine XS.ifYes X1503.here hx rfl (pc0 := 289) (pc' := 302) rfl (hb hby at_289) rfl ((if0 _ _).trans (teq (show b1495 = (0 : Int32) from q1511)).1) (by decide) (by decide) ?_
        refine XS.iload X1503.here hx rfl (hb hby at_302) rfl ?_
        show Sg p e below (T1503.setTop (mkF m 304 #[sI p0, sI p1, sI p2, sI p3, sI p4, sI p5, sI a, sI b, sI c, sI r1335, sI r1338, sI r1341, sR b1344, sR b1386, sR b1401, sR R1467, sI em, sI b1489, sI b1495, sI b1501, sR b1503, sI 0] [(.int b1501)])) _
        exact k)
      by_cases q1513 : b1501 = (0 : Int32)
      · skip
        have kc := (own_kp hb1501).2 q1513
        have hfl : gs.flatten = [] := by rw [hflat, own_fil, own_fil3, if_neg ka, if_neg kb, if_neg kc]; rfl
        have f1514 := (A1467.ext E1503)
        rw [hfl] at hem2 hN1467 f1514
        have hN8 : N1467 = (0 : Int32) := hN1467
        subst hN8
        have hem8 : em = (1 : Int32) := hem2
        subst hem8
        obtain ⟨cl1515, Ar1515, -, S1515, N1515, -, -⟩ := id f1514
        obtain ⟨fs1516, hr1516, hrun1516, hended1516, hW1516, hsame1516⟩ := X1503.leave (v := some (.int (1 : Int32))) (fun h => by rw [Bd.returns] at h; cases h)
        refine ⟨_, _, pre0 _ (P1512 _ ?_), hrun1516, hended1516, _, _, rfl, ?_, ⟨⟨_, rfl⟩, hW1516, hsame1516.mono (Nat.le_of_ble_eq_true rfl) (Nat.le_of_ble_eq_true rfl)⟩⟩
        · show Sg p e below (T1503.setTop (mkF m 304 #[sI p0, sI p1, sI p2, sI p3, sI p4, sI p5, sI a, sI b, sI c, sI r1335, sI r1338, sI r1341, sR b1344, sR b1386, sR b1401, sR R1467, sI 1, sI b1489, sI b1495, sI b1501, sR b1503, sI 0] [(.int b1501)])) _
          refine XS.ifYes X1503.here hx rfl (pc0 := 304) (pc' := 317) rfl (hb hby at_304) rfl ((if0 _ _).trans (teq (show b1501 = (0 : Int32) from q1513)).1) (by decide) (by decide) ?_
          refine XS.iload X1503.here hx rfl (hb hby at_317) rfl ?_
          refine XS.iload X1503.here hx rfl (hb hby at_319) rfl ?_
          refine XS.ifNo X1503.here hx rfl (hb hby at_321) rfl ((if0 _ _).trans (teq (show (0 : Int32) = (0 : Int32) from (by decide))).2) ?_
          refine XS.iconst X1503.here hx rfl (hb hby at_324) ?_
          refine XS.goto X1503.here hx rfl (pc0 := 325) (pc' := 329) rfl (hb hby at_325) (by decide) (by decide) ?_
          refine XS.icmpYes X1503.here hx rfl (pc0 := 329) (pc' := 334) rfl (hb hby at_329) rfl (teq (show (1 : Int32) = (1 : Int32) from (by decide))).1 (by decide) (by decide) ?_
          refine XS.aload X1503.here hx rfl (hb hby at_334) rfl rfl ?_
          show Sg p e below (T1503.setTop (mkF m 336 #[sI p0, sI p1, sI p2, sI p3, sI p4, sI p5, sI a, sI b, sI c, sI r1335, sI r1338, sI r1341, sR b1344, sR b1386, sR b1401, sR R1467, sI 1, sI b1489, sI b1495, sI b1501, sR b1503, sI 0] [(.ref R1467)])) _
          refine X1503.arraylength hx (by rw [e1503]; exact Ar1515.1) (State.isArrayOf_alike hZ.alike Ar1515.2.1) (g := (mkF m 336 #[sI p0, sI p1, sI p2, sI p3, sI p4, sI p5, sI a, sI b, sI c, sI r1335, sI r1338, sI r1341, sR b1344, sR b1386, sR b1401, sR R1467, sI 1, sI b1489, sI b1495, sI b1501, sR b1503, sI 0] [(.ref R1467)])) rfl rfl (hb hby at_336) _ ?_
          rw [len_of S1515 N1515]
          show Sg p e below (T1503.setTop (mkF m 337 #[sI p0, sI p1, sI p2, sI p3, sI p4, sI p5, sI a, sI b, sI c, sI r1335, sI r1338, sI r1341, sR b1344, sR b1386, sR b1401, sR R1467, sI 1, sI b1489, sI b1495, sI b1501, sR b1503, sI 0] [(.int (0 : Int32))])) _
          refine XS.iload X1503.here hx rfl (hb hby at_337) rfl ?_
          refine XS.icmpYes X1503.here hx rfl (pc0 := 339) (pc' := 344) rfl (hb hby at_339) rfl (teq (show (0 : Int32) = (0 : Int32) from (by decide))).1 (by decide) (by decide) ?_
          refine XS.iload X1503.here hx rfl (hb hby at_344) rfl ?_
          refine XS.ifYes X1503.here hx rfl (pc0 := 346) (pc' := 362) rfl (hb hby at_346) rfl ((if0 _ _).trans (flt (show ¬ ((0 : Int32) < (0 : Int32)) from (by decide))).2.2.2) (by decide) (by decide) ?_
          refine XS.iload X1503.here hx rfl (hb hby at_362) rfl ?_
          refine XS.iconst X1503.here hx rfl (hb hby at_364) ?_
          refine XS.icmpYes X1503.here hx rfl (pc0 := 365) (pc' := 381) rfl (hb hby at_365) rfl (flt (show ¬ ((1 : Int32) < (0 : Int32)) from (by decide))).2.2.2 (by decide) (by decide) ?_
          refine XS.iload X1503.here hx rfl (hb hby at_381) rfl ?_
          refine XS.iconst X1503.here hx rfl (hb hby at_383) ?_
          refine XS.icmpYes X1503.here hx rfl (pc0 := 384) (pc' := 400) rfl (hb hby at_384) rfl (flt (show ¬ ((2 : Int32) < (0 : Int32)) from (by decide))).2.2.2 (by decide) (by decide) ?_
          refine XS.iconst X1503.here hx rfl (hb hby at_400) ?_
          show Sg p e below (T1503.setTop (mkF m 401 #[sI p0, sI p1, sI p2, sI p3, sI p4, sI p5, sI a, sI b, sI c, sI r1335, sI r1338, sI r1341, sR b1344, sR b1386, sR b1401, sR R1467, sI 1, sI b1489, sI b1495, sI b1501, sR b1503, sI 0] [(.int (1 : Int32))])) _
          exact retN X1503 hx (t := .boolean) Bd.returns (by simp) (hb hby at_401) hr1516
        · show Q_law  h0 n0 _ T1503.heap _
          rw [e1503]
          exact ⟨rfl, N1482⟩
      · skip
        have kc := (own_kp hb1501).1 q1513
        have hfl : gs.flatten = [c] := by rw [hflat, own_fil, own_fil3, if_neg ka, if_neg kb, if_pos kc]; rfl
        have f1517 := (A1467.ext E1503)
        rw [hfl] at hem2 hN1467 f1517
        have hN8 : N1467 = (1 : Int32) := hN1467
        subst hN8
        have hem8 : em = (0 : Int32) := hem2
        subst hem8
        obtain ⟨cl1518, Ar1518, q1518, S1518, N1518, H1518, G1518⟩ := id v1508
        obtain ⟨T1518, h1518, X1518, e1518, W1518, st1518⟩ := stI X1503 hx hZ e1503 Ar1518 (j := (0 : Int32)) (inb_of S1518 ⟨by decide, by decide⟩) (g := (mkF m 313 #[sI p0, sI p1, sI p2, sI p3, sI p4, sI p5, sI a, sI b, sI c, sI r1335, sI r1338, sI r1341, sR b1344, sR b1386, sR b1401, sR R1467, sI 0, sI b1489, sI b1495, sI b1501, sR b1503, sI 0] [(.int c), (.int (0 : Int32)), (.ref b1503)])) rfl rfl (hb hby at_313)
        have v1519 : Arv Z h1518 b1503 k1503 .int (3 : Int32) [(.int c), (.int (0 : Int32)), (.int (0 : Int32))] (.int (0 : Int32)) := Arv.set Ar1518 q1518 S1518 N1518 H1518 G1518 rfl W1518 0 rfl (Nat.le_of_ble_eq_true rfl)
        have P1520 : Rg p e below (T1518.setTop (mkF m 314 #[sI p0, sI p1, sI p2, sI p3, sI p4, sI p5, sI a, sI b, sI c, sI r1335, sI r1338, sI r1341, sR b1344, sR b1386, sR b1401, sR R1467, sI 0, sI b1489, sI b1495, sI b1501, sR b1503, sI 0] [])) B0 := fun t k => P1512 t (by
          refine XS.ifNo X1503.here hx rfl (hb hby at_304) rfl ((if0 _ _).trans (feq (show ¬ (b1501 = (0 : Int32)) from q1513)).1) ?_
          refine XS.aload X1503.here hx rfl (hb hby at_307) rfl rfl ?_
          refine XS.iload X1503.here hx rfl (hb hby at_309) rfl ?_
          refine XS.iload X1503.here hx rfl (hb hby at_311) rfl ?_
          show Sg p e below (T1503.setTop (mkF m 313 #[sI p0, sI p1, sI p2, sI p3, sI p4, sI p5, sI a, sI b, sI c, sI r1335, sI r1338, sI r1341, sR b1344, sR b1386, sR b1401, sR R1467, sI 0, sI b1489, sI b1495, sI b1501, sR b1503, sI 0] [(.int c), (.int (0 : Int32)), (.ref b1503)])) _
          exact st1518 _ k)
        have N1521 := Fr.snoc X1518 N1482 g_b1503
        have Z1522 : n0 ≤ h1518.size := Nat.le_trans Z1505 (Keep.of_wr W1518).1
        have K1523 : Keep h0 h1518 [] := K1506.wr W1518 (Or.inr sz_b1503)
        have O1524 : Old Z n0 h1518 := O1507.wr W1518 g_b1503
        have f1525 := (f1517.other W1518 (Nat.ne_of_lt (Nat.lt_of_lt_of_le A1467.lt (Nat.le_of_eq g1503.symm))))
        obtain ⟨cl1526, Ar1526, -, S1526, N1526, -, -⟩ := id f1525
        obtain ⟨cl1527, Ar1527, -, S1527, N1527, H1527, -⟩ := id f1525
        have hin1527 : ¬ ((0 : Int32) < 0 ∨ cl1527.slots.size ≤ ((0 : Int32)).toNatClampNeg) := inb_of S1527 ⟨by decide, by decide⟩
        obtain ⟨cl1528, Ar1528, -, S1528, N1528, H1528, -⟩ := id v1519
        have hin1528 : ¬ ((0 : Int32) < 0 ∨ cl1528.slots.size ≤ ((0 : Int32)).toNatClampNeg) := inb_of S1528 ⟨by decide, by decide⟩
        obtain ⟨fs1529, hr1529, hrun1529, hended1529, hW1529, hsame1529⟩ := X1518.leave (v := some (.int (1 : Int32))) (fun h => by rw [Bd.returns] at h; cases h)
        refine ⟨_, _, pre0 _ (P1520 _ ?_), hrun1529, hended1529, _, _, rfl, ?_, ⟨⟨_, rfl⟩, hW1529, hsame1529.mono (Nat.le_of_ble_eq_true rfl) (Nat.le_of_ble_eq_true rfl)⟩⟩
        · show Sg p e below (T1518.setTop (mkF m 314 #[sI p0, sI p1, sI p2, sI p3, sI p4, sI p5, sI a, sI b, sI c, sI r1335, sI r1338, sI r1341, sR b1344, sR b1386, sR b1401, sR R1467, sI 0, sI b1489, sI b1495, sI b1501, sR b1503, sI 0] [])) _
          refine XS.iinc X1518.here hx rfl (hb hby at_314) rfl (l' := #[sI p0, sI p1, sI p2, sI p3, sI p4, sI p5, sI a, sI b, sI c, sI r1335, sI r1338, sI r1341, sR b1344, sR b1386, sR b1401, sR R1467, sI 0, sI b1489, sI b1495, sI b1501, sR b1503, sI 1]) rfl ?_
          refine XS.iload X1518.here hx rfl (hb hby at_317) rfl ?_
          refine XS.iload X1518.here hx rfl (hb hby at_319) rfl ?_
          refine XS.ifYes X1518.here hx rfl (pc0 := 321) (pc' := 328) rfl (hb hby at_321) rfl ((if0 _ _).trans (feq (show ¬ ((1 : Int32) = (0 : Int32)) from (by decide))).2) (by decide) (by decide) ?_
          refine XS.iconst X1518.here hx rfl (hb hby at_328) ?_
          refine XS.icmpYes X1518.here hx rfl (pc0 := 329) (pc' := 334) rfl (hb hby at_329) rfl (teq (show (0 : Int32) = (0 : Int32) from (by decide))).1 (by decide) (by decide) ?_
          refine XS.aload X1518.here hx rfl (hb hby at_334) rfl rfl ?_
          show Sg p e below (T1518.setTop (mkF m 336 #[sI p0, sI p1, sI p2, sI p3, sI p4, sI p5, sI a, sI b, sI c, sI r1335, sI r1338, sI r1341, sR b1344, sR b1386, sR b1401, sR R1467, sI 0, sI b1489, sI b1495, sI b1501, sR b1503, sI 1] [(.ref R1467)])) _
          refine X1518.arraylength hx (by rw [e1518]; exact Ar1526.1) (State.isArrayOf_alike hZ.alike Ar1526.2.1) (g := (mkF m 336 #[sI p0, sI p1, sI p2, sI p3, sI p4, sI p5, sI a, sI b, sI c, sI r1335, sI r1338, sI r1341, sR b1344, sR b1386, sR b1401, sR R1467, sI 0, sI b1489, sI b1495, sI b1501, sR b1503, sI 1] [(.ref R1467)])) rfl rfl (hb hby at_336) _ ?_
          rw [len_of S1526 N1526]
          show Sg p e below (T1518.setTop (mkF m 337 #[sI p0, sI p1, sI p2, sI p3, sI p4, sI p5, sI a, sI b, sI c, sI r1335, sI r1338, sI r1341, sR b1344, sR b1386, sR b1401, sR R1467, sI 0, sI b1489, sI b1495, sI b1501, sR b1503, sI 1] [(.int (1 : Int32))])) _
          refine XS.iload X1518.here hx rfl (hb hby at_337) rfl ?_
          refine XS.icmpYes X1518.here hx rfl (pc0 := 339) (pc' := 344) rfl (hb hby at_339) rfl (teq (show (1 : Int32) = (1 : Int32) from (by decide))).1 (by decide) (by decide) ?_
          refine XS.iload X1518.here hx rfl (hb hby at_344) rfl ?_
          refine XS.ifNo X1518.here hx rfl (hb hby at_346) rfl ((if0 _ _).trans (tlt (show (0 : Int32) < (1 : Int32) from (by decide))).2.2.2) ?_
          refine XS.aload X1518.here hx rfl (hb hby at_349) rfl rfl ?_
          refine XS.iconst X1518.here hx rfl (hb hby at_351) ?_
          show Sg p e below (T1518.setTop (mkF m 352 #[sI p0, sI p1, sI p2, sI p3, sI p4, sI p5, sI a, sI b, sI c, sI r1335, sI r1338, sI r1341, sR b1344, sR b1386, sR b1401, sR R1467, sI 0, sI b1489, sI b1495, sI b1501, sR b1503, sI 1] [(.int (0 : Int32)), (.ref R1467)])) _
          refine X1518.iaload hx (j := (0 : Int32)) (v := (.int c)) (by rw [e1518]; exact Ar1527.1) (State.isArrayOf_alike hZ.alike Ar1527.2.1) Ar1527.2.2 hin1527 (H1527.at hin1527 rfl) (g := (mkF m 352 #[sI p0, sI p1, sI p2, sI p3, sI p4, sI p5, sI a, sI b, sI c, sI r1335, sI r1338, sI r1341, sR b1344, sR b1386, sR b1401, sR R1467, sI 0, sI b1489, sI b1495, sI b1501, sR b1503, sI 1] [(.int (0 : Int32)), (.ref R1467)])) rfl rfl (hb hby at_352) _ ?_
          show Sg p e below (T1518.setTop (mkF m 353 #[sI p0, sI p1, sI p2, sI p3, sI p4, sI p5, sI a, sI b, sI c, sI r1335, sI r1338, sI r1341, sR b1344, sR b1386, sR b1401, sR R1467, sI 0, sI b1489, sI b1495, sI b1501, sR b1503, sI 1] [(.int c)])) _
          refine XS.aload X1518.here hx rfl (hb hby at_353) rfl rfl ?_
          refine XS.iconst X1518.here hx rfl (hb hby at_355) ?_
          show Sg p e below (T1518.setTop (mkF m 356 #[sI p0, sI p1, sI p2, sI p3, sI p4, sI p5, sI a, sI b, sI c, sI r1335, sI r1338, sI r1341, sR b1344, sR b1386, sR b1401, sR R1467, sI 0, sI b1489, sI b1495, sI b1501, sR b1503, sI 1] [(.int (0 : Int32)), (.ref b1503), (.int c)])) _
          refine X1518.iaload hx (j := (0 : Int32)) (v := (.int c)) (by rw [e1518]; exact Ar1528.1) (State.isArrayOf_alike hZ.alike Ar1528.2.1) Ar1528.2.2 hin1528 (H1528.at hin1528 rfl) (g := (mkF m 356 #[sI p0, sI p1, sI p2, sI p3, sI p4, sI p5, sI a, sI b, sI c, sI r1335, sI r1338, sI r1341, sR b1344, sR b1386, sR b1401, sR R1467, sI 0, sI b1489, sI b1495, sI b1501, sR b1503, sI 1] [(.int (0 : Int32)), (.ref b1503), (.int c)])) rfl rfl (hb hby at_356) _ ?_
          show Sg p e below (T1518.setTop (mkF m 357 #[sI p0, sI p1, sI p2, sI p3, sI p4, sI p5, sI a, sI b, sI c, sI r1335, sI r1338, sI r1341, sR b1344, sR b1386, sR b1401, sR R1467, sI 0, sI b1489, sI b1495, sI b1501, sR b1503, sI 1] [(.int c), (.int c)])) _
          refine XS.icmpYes X1518.here hx rfl (pc0 := 357) (pc' := 362) rfl (hb hby at_357) rfl (teq (show c = c from (rfl : c = c))).1 (by decide) (by decide) ?_
          refine XS.iload X1518.here hx rfl (hb hby at_362) rfl ?_
          refine XS.iconst X1518.here hx rfl (hb hby at_364) ?_
          refine XS.icmpYes X1518.here hx rfl (pc0 := 365) (pc' := 381) rfl (hb hby at_365) rfl (flt (show ¬ ((1 : Int32) < (1 : Int32)) from (by decide))).2.2.2 (by decide) (by decide) ?_
          refine XS.iload X1518.here hx rfl (hb hby at_381) rfl ?_
          refine XS.iconst X1518.here hx rfl (hb hby at_383) ?_
          refine XS.icmpYes X1518.here hx rfl (pc0 := 384) (pc' := 400) rfl (hb hby at_384) rfl (flt (show ¬ ((2 : Int32) < (1 : Int32)) from (by decide))).2.2.2 (by decide) (by decide) ?_
          refine XS.iconst X1518.here hx rfl (hb hby at_400) ?_
          show Sg p e below (T1518.setTop (mkF m 401 #[sI p0, sI p1, sI p2, sI p3, sI p4, sI p5, sI a, sI b, sI c, sI r1335, sI r1338, sI r1341, sR b1344, sR b1386, sR b1401, sR R1467, sI 0, sI b1489, sI b1495, sI b1501, sR b1503, sI 1] [(.int (1 : Int32))])) _
          exact retN X1518 hx (t := .boolean) Bd.returns (by simp) (hb hby at_401) hr1529
        · show Q_law  h0 n0 _ T1518.heap _
          rw [e1518]
          exact ⟨rfl, N1521⟩
    · skip
      have kb := (own_kp hb1495).1 q1511
      obtain ⟨cl1530, Ar1530, q1530, S1530, N1530, H1530, G1530⟩ := id v1508
      obtain ⟨T1530, h1530, X1530, e1530, W1530, st1530⟩ := stI X1503 hx hZ e1503 Ar1530 (j := (0 : Int32)) (inb_of S1530 ⟨by decide, by decide⟩) (g := (mkF m 298 #[sI p0, sI p1, sI p2, sI p3, sI p4, sI p5, sI a, sI b, sI c, sI r1335, sI r1338, sI r1341, sR b1344, sR b1386, sR b1401, sR R1467, sI em, sI b1489, sI b1495, sI b1501, sR b1503, sI 0] [(.int b), (.int (0 : Int32)), (.ref b1503)])) rfl rfl (hb hby at_298)
      have v1531 : Arv Z h1530 b1503 k1503 .int (3 : Int32) [(.int b), (.int (0 : Int32)), (.int (0 : Int32))] (.int (0 : Int32)) := Arv.set Ar1530 q1530 S1530 N1530 H1530 G1530 rfl W1530 0 rfl (Nat.le_of_ble_eq_true rfl)
      have P1532 : Rg p e below (T1530.setTop (mkF m 299 #[sI p0, sI p1, sI p2, sI p3, sI p4, sI p5, sI a, sI b, sI c, sI r1335, sI r1338, sI r1341, sR b1344, sR b1386, sR b1401, sR R1467, sI em, sI b1489, sI b1495, sI b1501, sR b1503, sI 0] [])) B0 := fun t k => P1509 t (by
        refine XS.ifYes X1503.here hx rfl (pc0 := 274) (pc' := 287) rfl (hb hby at_274) rfl ((if0 _ _).trans (teq (show b1489 = (0 : Int32) from q1510)).1) (by decide) (by decide) ?_
        refine XS.iload X1503.here hx rfl (hb hby at_287) rfl ?_
        refine XS.ifNo X1503.here hx rfl (hb hby at_289) rfl ((if0 _ _).trans (feq (show ¬ (b1495 = (0 : Int32)) from q1511)).1) ?_
        refine XS.aload X1503.here hx rfl (hb hby at_292) rfl rfl ?_
        refine XS.iload X1503.here hx rfl (hb hby at_294) rfl ?_
        refine XS.iload X1503.here hx rfl (hb hby at_296) rfl ?_
        show Sg p e below (T1503.setTop (mkF m 298 #[sI p0, sI p1, sI p2, sI p3, sI p4, sI p5, sI a, sI b, sI c, sI r1335, sI r1338, sI r1341, sR b1344, sR b1386, sR b1401, sR R1467, sI em, sI b1489, sI b1495, sI b1501, sR b1503, sI 0] [(.int b), (.int (0 : Int32)), (.ref b1503)])) _
        exact st1530 _ k)
      have N1533 := Fr.snoc X1530 N1482 g_b1503
      have Z1534 : n0 ≤ h1530.size := Nat.le_trans Z1505 (Keep.of_wr W1530).1
      have K1535 : Keep h0 h1530 [] := K1506.wr W1530 (Or.inr sz_b1503)
      have O1536 : Old Z n0 h1530 := O1507.wr W1530 g_b1503
      by_cases q1537 : b1501 = (0 : Int32)
      · skip
        have kc := (own_kp hb1501).2 q1537
        have hfl : gs.flatten = [b] := by rw [hflat, own_fil, own_fil3, if_neg ka, if_pos kb, if_neg kc]; rfl
        have f1538 := ((A1467.ext E1503).other W1530 (Nat.ne_of_lt (Nat.lt_of_lt_of_le A1467.lt (Nat.le_of_eq g1503.symm))))
        rw [hfl] at hem2 hN1467 f1538
        have hN8 : N1467 = (1 : Int32) := hN1467
        subst hN8
        have hem8 : em = (0 : Int32) := hem2
        subst hem8
        obtain ⟨cl1539, Ar1539, -, S1539, N1539, -, -⟩ := id f1538
        obtain ⟨cl1540, Ar1540, -, S1540, N1540, H1540, -⟩ := id f1538
        have hin1540 : ¬ ((0 : Int32) < 0 ∨ cl1540.slots.size ≤ ((0 : Int32)).toNatClampNeg) := inb_of S1540 ⟨by decide, by decide⟩
        obtain ⟨cl1541, Ar1541, -, S1541, N1541, H1541, -⟩ := id v1531
        have hin1541 : ¬ ((0 : Int32) < 0 ∨ cl1541.slots.size ≤ ((0 : Int32)).toNatClampNeg) := inb_of S1541 ⟨by decide, by decide⟩
        obtain ⟨fs1542, hr1542, hrun1542, hended1542, hW1542, hsame1542⟩ := X1530.leave (v := some (.int (1 : Int32))) (fun h => by rw [Bd.returns] at h; cases h)
        refine ⟨_, _, pre0 _ (P1532 _ ?_), hrun1542, hended1542, _, _, rfl, ?_, ⟨⟨_, rfl⟩, hW1542, hsame1542.mono (Nat.le_of_ble_eq_true rfl) (Nat.le_of_ble_eq_true rfl)⟩⟩
        · show Sg p e below (T1530.setTop (mkF m 299 #[sI p0, sI p1, sI p2, sI p3, sI p4, sI p5, sI a, sI b, sI c, sI r1335, sI r1338, sI r1341, sR b1344, sR b1386, sR b1401, sR R1467, sI 0, sI b1489, sI b1495, sI b1501, sR b1503, sI 0] [])) _
          refine XS.iinc X1530.here hx rfl (hb hby at_299) rfl (l' := #[sI p0, sI p1, sI p2, sI p3, sI p4, sI p5, sI a, sI b, sI c, sI r1335, sI r1338, sI r1341, sR b1344, sR b1386, sR b1401, sR R1467, sI 0, sI b1489, sI b1495, sI b1501, sR b1503, sI 1]) rfl ?_
          refine XS.iload X1530.here hx rfl (hb hby at_302) rfl ?_
          refine XS.ifYes X1530.here hx rfl (pc0 := 304) (pc' := 317) rfl (hb hby at_304) rfl ((if0 _ _).trans (teq (show b1501 = (0 : Int32) from q1537)).1) (by decide) (by decide) ?_
          refine XS.iload X1530.here hx rfl (hb hby at_317) rfl ?_
          refine XS.iload X1530.here hx rfl (hb hby at_319) rfl ?_
          refine XS.ifYes X1530.here hx rfl (pc0 := 321) (pc' := 328) rfl (hb hby at_321) rfl ((if0 _ _).trans (feq (show ¬ ((1 : Int32) = (0 : Int32)) from (by decide))).2) (by decide) (by decide) ?_
          refine XS.iconst X1530.here hx rfl (hb hby at_328) ?_
          refine XS.icmpYes X1530.here hx rfl (pc0 := 329) (pc' := 334) rfl (hb hby at_329) rfl (teq (show (0 : Int32) = (0 : Int32) from (by decide))).1 (by decide) (by decide) ?_
          refine XS.aload X1530.here hx rfl (hb hby at_334) rfl rfl ?_
          show Sg p e below (T1530.setTop (mkF m 336 #[sI p0, sI p1, sI p2, sI p3, sI p4, sI p5, sI a, sI b, sI c, sI r1335, sI r1338, sI r1341, sR b1344, sR b1386, sR b1401, sR R1467, sI 0, sI b1489, sI b1495, sI b1501, sR b1503, sI 1] [(.ref R1467)])) _
          refine X1530.arraylength hx (by rw [e1530]; exact Ar1539.1) (State.isArrayOf_alike hZ.alike Ar1539.2.1) (g := (mkF m 336 #[sI p0, sI p1, sI p2, sI p3, sI p4, sI p5, sI a, sI b, sI c, sI r1335, sI r1338, sI r1341, sR b1344, sR b1386, sR b1401, sR R1467, sI 0, sI b1489, sI b1495, sI b1501, sR b1503, sI 1] [(.ref R1467)])) rfl rfl (hb hby at_336) _ ?_
          rw [len_of S1539 N1539]
          show Sg p e below (T1530.setTop (mkF m 337 #[sI p0, sI p1, sI p2, sI p3, sI p4, sI p5, sI a, sI b, sI c, sI r1335, sI r1338, sI r1341, sR b1344, sR b1386, sR b1401, sR R1467, sI 0, sI b1489, sI b1495, sI b1501, sR b1503, sI 1] [(.int (1 : Int32))])) _
          refine XS.iload X1530.here hx rfl (hb hby at_337) rfl ?_
          refine XS.icmpYes X1530.here hx rfl (pc0 := 339) (pc' := 344) rfl (hb hby at_339) rfl (teq (show (1 : Int32) = (1 : Int32) from (by decide))).1 (by decide) (by decide) ?_
          refine XS.iload X1530.here hx rfl (hb hby at_344) rfl ?_
          refine XS.ifNo X1530.here hx rfl (hb hby at_346) rfl ((if0 _ _).trans (tlt (show (0 : Int32) < (1 : Int32) from (by decide))).2.2.2) ?_
          refine XS.aload X1530.here hx rfl (hb hby at_349) rfl rfl ?_
          refine XS.iconst X1530.here hx rfl (hb hby at_351) ?_
          show Sg p e below (T1530.setTop (mkF m 352 #[sI p0, sI p1, sI p2, sI p3, sI p4, sI p5, sI a, sI b, sI c, sI r1335, sI r1338, sI r1341, sR b1344, sR b1386, sR b1401, sR R1467, sI 0, sI b1489, sI b1495, sI b1501, sR b1503, sI 1] [(.int (0 : Int32)), (.ref R1467)])) _
          refine X1530.iaload hx (j := (0 : Int32)) (v := (.int b)) (by rw [e1530]; exact Ar1540.1) (State.isArrayOf_alike hZ.alike Ar1540.2.1) Ar1540.2.2 hin1540 (H1540.at hin1540 rfl) (g := (mkF m 352 #[sI p0, sI p1, sI p2, sI p3, sI p4, sI p5, sI a, sI b, sI c, sI r1335, sI r1338, sI r1341, sR b1344, sR b1386, sR b1401, sR R1467, sI 0, sI b1489, sI b1495, sI b1501, sR b1503, sI 1] [(.int (0 : Int32)), (.ref R1467)])) rfl rfl (hb hby at_352) _ ?_
          show Sg p e below (T1530.setTop (mkF m 353 #[sI p0, sI p1, sI p2, sI p3, sI p4, sI p5, sI a, sI b, sI c, sI r1335, sI r1338, sI r1341, sR b1344, sR b1386, sR b1401, sR R1467, sI 0, sI b1489, sI b1495, sI b1501, sR b1503, sI 1] [(.int b)])) _
          refine XS.aload X1530.here hx rfl (hb hby at_353) rfl rfl ?_
          refine XS.iconst X1530.here hx rfl (hb hby at_355) ?_
          show Sg p e below (T1530.setTop (mkF m 356 #[sI p0, sI p1, sI p2, sI p3, sI p4, sI p5, sI a, sI b, sI c, sI r1335, sI r1338, sI r1341, sR b1344, sR b1386, sR b1401, sR R1467, sI 0, sI b1489, sI b1495, sI b1501, sR b1503, sI 1] [(.int (0 : Int32)), (.ref b1503), (.int b)])) _
          refine X1530.iaload hx (j := (0 : Int32)) (v := (.int b)) (by rw [e1530]; exact Ar1541.1) (State.isArrayOf_alike hZ.alike Ar1541.2.1) Ar1541.2.2 hin1541 (H1541.at hin1541 rfl) (g := (mkF m 356 #[sI p0, sI p1, sI p2, sI p3, sI p4, sI p5, sI a, sI b, sI c, sI r1335, sI r1338, sI r1341, sR b1344, sR b1386, sR b1401, sR R1467, sI 0, sI b1489, sI b1495, sI b1501, sR b1503, sI 1] [(.int (0 : Int32)), (.ref b1503), (.int b)])) rfl rfl (hb hby at_356) _ ?_
          show Sg p e below (T1530.setTop (mkF m 357 #[sI p0, sI p1, sI p2, sI p3, sI p4, sI p5, sI a, sI b, sI c, sI r1335, sI r1338, sI r1341, sR b1344, sR b1386, sR b1401, sR R1467, sI 0, sI b1489, sI b1495, sI b1501, sR b1503, sI 1] [(.int b), (.int b)])) _
          refine XS.icmpYes X1530.here hx rfl (pc0 := 357) (pc' := 362) rfl (hb hby at_357) rfl (teq (show b = b from (rfl : b = b))).1 (by decide) (by decide) ?_
          refine XS.iload X1530.here hx rfl (hb hby at_362) rfl ?_
          refine XS.iconst X1530.here hx rfl (hb hby at_364) ?_
          refine XS.icmpYes X1530.here hx rfl (pc0 := 365) (pc' := 381) rfl (hb hby at_365) rfl (flt (show ¬ ((1 : Int32) < (1 : Int32)) from (by decide))).2.2.2 (by decide) (by decide) ?_
          refine XS.iload X1530.here hx rfl (hb hby at_381) rfl ?_
          refine XS.iconst X1530.here hx rfl (hb hby at_383) ?_
          refine XS.icmpYes X1530.here hx rfl (pc0 := 384) (pc' := 400) rfl (hb hby at_384) rfl (flt (show ¬ ((2 : Int32) < (1 : Int32)) from (by decide))).2.2.2 (by decide) (by decide) ?_
          refine XS.iconst X1530.here hx rfl (hb hby at_400) ?_
          show Sg p e below (T1530.setTop (mkF m 401 #[sI p0, sI p1, sI p2, sI p3, sI p4, sI p5, sI a, sI b, sI c, sI r1335, sI r1338, sI r1341, sR b1344, sR b1386, sR b1401, sR R1467, sI 0, sI b1489, sI b1495, sI b1501, sR b1503, sI 1] [(.int (1 : Int32))])) _
          exact retN X1530 hx (t := .boolean) Bd.returns (by simp) (hb hby at_401) hr1542
        · show Q_law  h0 n0 _ T1530.heap _
          rw [e1530]
          exact ⟨rfl, N1533⟩
      · skip
        have kc := (own_kp hb1501).1 q1537
        have hfl : gs.flatten = [b, c] := by rw [hflat, own_fil, own_fil3, if_neg ka, if_pos kb, if_pos kc]; rfl
        have f1543 := ((A1467.ext E1503).other W1530 (Nat.ne_of_lt (Nat.lt_of_lt_of_le A1467.lt (Nat.le_of_eq g1503.symm))))
        rw [hfl] at hem2 hN1467 f1543
        have hN8 : N1467 = (2 : Int32) := hN1467
        subst hN8
        have hem8 : em = (0 : Int32) := hem2
        subst hem8
        obtain ⟨cl1544, Ar1544, q1544, S1544, N1544, H1544, G1544⟩ := id v1531
        obtain ⟨T1544, h1544, X1544, e1544, W1544, st1544⟩ := stI X1530 hx hZ e1530 Ar1544 (j := (1 : Int32)) (inb_of S1544 ⟨by decide, by decide⟩) (g := (mkF m 313 #[sI p0, sI p1, sI p2, sI p3, sI p4, sI p5, sI a, sI b, sI c, sI r1335, sI r1338, sI r1341, sR b1344, sR b1386, sR b1401, sR R1467, sI 0, sI b1489, sI b1495, sI b1501, sR b1503, sI 1] [(.int c), (.int (1 : Int32)), (.ref b1503)])) rfl rfl (hb hby at_313)
        have v1545 : Arv Z h1544 b1503 k1503 .int (3 : Int32) [(.int b), (.int c), (.int (0 : Int32))] (.int (0 : Int32)) := Arv.set Ar1544 q1544 S1544 N1544 H1544 G1544 rfl W1544 1 rfl (Nat.le_of_ble_eq_true rfl)
        have P1546 : Rg p e below (T1544.setTop (mkF m 314 #[sI p0, sI p1, sI p2, sI p3, sI p4, sI p5, sI a, sI b, sI c, sI r1335, sI r1338, sI r1341, sR b1344, sR b1386, sR b1401, sR R1467, sI 0, sI b1489, sI b1495, sI b1501, sR b1503, sI 1] [])) B0 := fun t k => P1532 t (by
          refine XS.iinc X1530.here hx rfl (hb hby at_299) rfl (l' := #[sI p0, sI p1, sI p2, sI p3, sI p4, sI p5, sI a, sI b, sI c, sI r1335, sI r1338, sI r1341, sR b1344, sR b1386, sR b1401, sR R1467, sI 0, sI b1489, sI b1495, sI b1501, sR b1503, sI 1]) rfl ?_
          refine XS.iload X1530.here hx rfl (hb hby at_302) rfl ?_
          refine XS.ifNo X1530.here hx rfl (hb hby at_304) rfl ((if0 _ _).trans (feq (show ¬ (b1501 = (0 : Int32)) from q1537)).1) ?_
          refine XS.aload X1530.here hx rfl (hb hby at_307) rfl rfl ?_
          refine XS.iload X1530.here hx rfl (hb hby at_309) rfl ?_
          refine XS.iload X1530.here hx rfl (hb hby at_311) rfl ?_
          show Sg p e below (T1530.setTop (mkF m 313 #[sI p0, sI p1, sI p2, sI p3, sI p4, sI p5, sI a, sI b, sI c, sI r1335, sI r1338, sI r1341, sR b1344, sR b1386, sR b1401, sR R1467, sI 0, sI b1489, sI b1495, sI b1501, sR b1503, sI 1] [(.int c), (.int (1 : Int32)), (.ref b1503)])) _
          exact st1544 _ k)
        have N1547 := Fr.snoc X1544 N1533 g_b1503
        have Z1548 : n0 ≤ h1544.size := Nat.le_trans Z1534 (Keep.of_wr W1544).1
        have K1549 : Keep h0 h1544 [] := K1535.wr W1544 (Or.inr sz_b1503)
        have O1550 : Old Z n0 h1544 := O1536.wr W1544 g_b1503
        have f1551 := (f1543.other W1544 (Nat.ne_of_lt (Nat.lt_of_lt_of_le A1467.lt (Nat.le_of_eq g1503.symm))))
        obtain ⟨cl1552, Ar1552, -, S1552, N1552, -, -⟩ := id f1551
        obtain ⟨cl1553, Ar1553, -, S1553, N1553, H1553, -⟩ := id f1551
        have hin1553 : ¬ ((0 : Int32) < 0 ∨ cl1553.slots.size ≤ ((0 : Int32)).toNatClampNeg) := inb_of S1553 ⟨by decide, by decide⟩
        obtain ⟨cl1554, Ar1554, -, S1554, N1554, H1554, -⟩ := id v1545
        have hin1554 : ¬ ((0 : Int32) < 0 ∨ cl1554.slots.size ≤ ((0 : Int32)).toNatClampNeg) := inb_of S1554 ⟨by decide, by decide⟩
        obtain ⟨cl1555, Ar1555, -, S1555, N1555, H1555, -⟩ := id f1551
        have hin1555 : ¬ ((1 : Int32) < 0 ∨ cl1555.slots.size ≤ ((1 : Int32)).toNatClampNeg) := inb_of S1555 ⟨by decide, by decide⟩
        obtain ⟨cl1556, Ar1556, -, S1556, N1556, H1556, -⟩ := id v1545
        have hin1556 : ¬ ((1 : Int32) < 0 ∨ cl1556.slots.size ≤ ((1 : Int32)).toNatClampNeg) := inb_of S1556 ⟨by decide, by decide⟩
        obtain ⟨fs1557, hr1557, hrun1557, hended1557, hW1557, hsame1557⟩ := X1544.leave (v := some (.int (1 : Int32))) (fun h => by rw [Bd.returns] at h; cases h)
        refine ⟨_, _, pre0 _ (P1546 _ ?_), hrun1557, hended1557, _, _, rfl, ?_, ⟨⟨_, rfl⟩, hW1557, hsame1557.mono (Nat.le_of_ble_eq_true rfl) (Nat.le_of_ble_eq_true rfl)⟩⟩
        · show Sg p e below (T1544.setTop (mkF m 314 #[sI p0, sI p1, sI p2, sI p3, sI p4, sI p5, sI a, sI b, sI c, sI r1335, sI r1338, sI r1341, sR b1344, sR b1386, sR b1401, sR R1467, sI 0, sI b1489, sI b1495, sI b1501, sR b1503, sI 1] [])) _
          refine XS.iinc X1544.here hx rfl (hb hby at_314) rfl (l' := #[sI p0, sI p1, sI p2, sI p3, sI p4, sI p5, sI a, sI b, sI c, sI r1335, sI r1338, sI r1341, sR b1344, sR b1386, sR b1401, sR R1467, sI 0, sI b1489, sI b1495, sI b1501, sR b1503, sI 2]) rfl ?_
          refine XS.iload X1544.here hx rfl (hb hby at_317) rfl ?_
          refine XS.iload X1544.here hx rfl (hb hby at_319) rfl ?_
          refine XS.ifYes X1544.here hx rfl (pc0 := 321) (pc' := 328) rfl (hb hby at_321) rfl ((if0 _ _).trans (feq (show ¬ ((2 : Int32) = (0 : Int32)) from (by decide))).2) (by decide) (by decide) ?_
          refine XS.iconst X1544.here hx rfl (hb hby at_328) ?_
          refine XS.icmpYes X1544.here hx rfl (pc0 := 329) (pc' := 334) rfl (hb hby at_329) rfl (teq (show (0 : Int32) = (0 : Int32) from (by decide))).1 (by decide) (by decide) ?_
          refine XS.aload X1544.here hx rfl (hb hby at_334) rfl rfl ?_
          show Sg p e below (T1544.setTop (mkF m 336 #[sI p0, sI p1, sI p2, sI p3, sI p4, sI p5, sI a, sI b, sI c, sI r1335, sI r1338, sI r1341, sR b1344, sR b1386, sR b1401, sR R1467, sI 0, sI b1489, sI b1495, sI b1501, sR b1503, sI 2] [(.ref R1467)])) _
          refine X1544.arraylength hx (by rw [e1544]; exact Ar1552.1) (State.isArrayOf_alike hZ.alike Ar1552.2.1) (g := (mkF m 336 #[sI p0, sI p1, sI p2, sI p3, sI p4, sI p5, sI a, sI b, sI c, sI r1335, sI r1338, sI r1341, sR b1344, sR b1386, sR b1401, sR R1467, sI 0, sI b1489, sI b1495, sI b1501, sR b1503, sI 2] [(.ref R1467)])) rfl rfl (hb hby at_336) _ ?_
          rw [len_of S1552 N1552]
          show Sg p e below (T1544.setTop (mkF m 337 #[sI p0, sI p1, sI p2, sI p3, sI p4, sI p5, sI a, sI b, sI c, sI r1335, sI r1338, sI r1341, sR b1344, sR b1386, sR b1401, sR R1467, sI 0, sI b1489, sI b1495, sI b1501, sR b1503, sI 2] [(.int (2 : Int32))])) _
          refine XS.iload X1544.here hx rfl (hb hby at_337) rfl ?_
          refine XS.icmpYes X1544.here hx rfl (pc0 := 339) (pc' := 344) rfl (hb hby at_339) rfl (teq (show (2 : Int32) = (2 : Int32) from (by decide))).1 (by decide) (by decide) ?_
          refine XS.iload X1544.here hx rfl (hb hby at_344) rfl ?_
          refine XS.ifNo X1544.here hx rfl (hb hby at_346) rfl ((if0 _ _).trans (tlt (show (0 : Int32) < (2 : Int32) from (by decide))).2.2.2) ?_
          refine XS.aload X1544.here hx rfl (hb hby at_349) rfl rfl ?_
          refine XS.iconst X1544.here hx rfl (hb hby at_351) ?_
          show Sg p e below (T1544.setTop (mkF m 352 #[sI p0, sI p1, sI p2, sI p3, sI p4, sI p5, sI a, sI b, sI c, sI r1335, sI r1338, sI r1341, sR b1344, sR b1386, sR b1401, sR R1467, sI 0, sI b1489, sI b1495, sI b1501, sR b1503, sI 2] [(.int (0 : Int32)), (.ref R1467)])) _
          refine X1544.iaload hx (j := (0 : Int32)) (v := (.int b)) (by rw [e1544]; exact Ar1553.1) (State.isArrayOf_alike hZ.alike Ar1553.2.1) Ar1553.2.2 hin1553 (H1553.at hin1553 rfl) (g := (mkF m 352 #[sI p0, sI p1, sI p2, sI p3, sI p4, sI p5, sI a, sI b, sI c, sI r1335, sI r1338, sI r1341, sR b1344, sR b1386, sR b1401, sR R1467, sI 0, sI b1489, sI b1495, sI b1501, sR b1503, sI 2] [(.int (0 : Int32)), (.ref R1467)])) rfl rfl (hb hby at_352) _ ?_
          show Sg p e below (T1544.setTop (mkF m 353 #[sI p0, sI p1, sI p2, sI p3, sI p4, sI p5, sI a, sI b, sI c, sI r1335, sI r1338, sI r1341, sR b1344, sR b1386, sR b1401, sR R1467, sI 0, sI b1489, sI b1495, sI b1501, sR b1503, sI 2] [(.int b)])) _
          refine XS.aload X1544.here hx rfl (hb hby at_353) rfl rfl ?_
          refine XS.iconst X1544.here hx rfl (hb hby at_355) ?_
          show Sg p e below (T1544.setTop (mkF m 356 #[sI p0, sI p1, sI p2, sI p3, sI p4, sI p5, sI a, sI b, sI c, sI r1335, sI r1338, sI r1341, sR b1344, sR b1386, sR b1401, sR R1467, sI 0, sI b1489, sI b1495, sI b1501, sR b1503, sI 2] [(.int (0 : Int32)), (.ref b1503), (.int b)])) _
          refine X1544.iaload hx (j := (0 : Int32)) (v := (.int b)) (by rw [e1544]; exact Ar1554.1) (State.isArrayOf_alike hZ.alike Ar1554.2.1) Ar1554.2.2 hin1554 (H1554.at hin1554 rfl) (g := (mkF m 356 #[sI p0, sI p1, sI p2, sI p3, sI p4, sI p5, sI a, sI b, sI c, sI r1335, sI r1338, sI r1341, sR b1344, sR b1386, sR b1401, sR R1467, sI 0, sI b1489, sI b1495, sI b1501, sR b1503, sI 2] [(.int (0 : Int32)), (.ref b1503), (.int b)])) rfl rfl (hb hby at_356) _ ?_
          show Sg p e below (T1544.setTop (mkF m 357 #[sI p0, sI p1, sI p2, sI p3, sI p4, sI p5, sI a, sI b, sI c, sI r1335, sI r1338, sI r1341, sR b1344, sR b1386, sR b1401, sR R1467, sI 0, sI b1489, sI b1495, sI b1501, sR b1503, sI 2] [(.int b), (.int b)])) _
          refine XS.icmpYes X1544.here hx rfl (pc0 := 357) (pc' := 362) rfl (hb hby at_357) rfl (teq (show b = b from (rfl : b = b))).1 (by decide) (by decide) ?_
          refine XS.iload X1544.here hx rfl (hb hby at_362) rfl ?_
          refine XS.iconst X1544.here hx rfl (hb hby at_364) ?_
          refine XS.icmpNo X1544.here hx rfl (hb hby at_365) rfl (tlt (show (1 : Int32) < (2 : Int32) from (by decide))).2.2.2 ?_
          refine XS.aload X1544.here hx rfl (hb hby at_368) rfl rfl ?_
          refine XS.iconst X1544.here hx rfl (hb hby at_370) ?_
          show Sg p e below (T1544.setTop (mkF m 371 #[sI p0, sI p1, sI p2, sI p3, sI p4, sI p5, sI a, sI b, sI c, sI r1335, sI r1338, sI r1341, sR b1344, sR b1386, sR b1401, sR R1467, sI 0, sI b1489, sI b1495, sI b1501, sR b1503, sI 2] [(.int (1 : Int32)), (.ref R1467)])) _
          refine X1544.iaload hx (j := (1 : Int32)) (v := (.int c)) (by rw [e1544]; exact Ar1555.1) (State.isArrayOf_alike hZ.alike Ar1555.2.1) Ar1555.2.2 hin1555 (H1555.at hin1555 rfl) (g := (mkF m 371 #[sI p0, sI p1, sI p2, sI p3, sI p4, sI p5, sI a, sI b, sI c, sI r1335, sI r1338, sI r1341, sR b1344, sR b1386, sR b1401, sR R1467, sI 0, sI b1489, sI b1495, sI b1501, sR b1503, sI 2] [(.int (1 : Int32)), (.ref R1467)])) rfl rfl (hb hby at_371) _ ?_
          show Sg p e below (T1544.setTop (mkF m 372 #[sI p0, sI p1, sI p2, sI p3, sI p4, sI p5, sI a, sI b, sI c, sI r1335, sI r1338, sI r1341, sR b1344, sR b1386, sR b1401, sR R1467, sI 0, sI b1489, sI b1495, sI b1501, sR b1503, sI 2] [(.int c)])) _
          refine XS.aload X1544.here hx rfl (hb hby at_372) rfl rfl ?_
          refine XS.iconst X1544.here hx rfl (hb hby at_374) ?_
          show Sg p e below (T1544.setTop (mkF m 375 #[sI p0, sI p1, sI p2, sI p3, sI p4, sI p5, sI a, sI b, sI c, sI r1335, sI r1338, sI r1341, sR b1344, sR b1386, sR b1401, sR R1467, sI 0, sI b1489, sI b1495, sI b1501, sR b1503, sI 2] [(.int (1 : Int32)), (.ref b1503), (.int c)])) _
          refine X1544.iaload hx (j := (1 : Int32)) (v := (.int c)) (by rw [e1544]; exact Ar1556.1) (State.isArrayOf_alike hZ.alike Ar1556.2.1) Ar1556.2.2 hin1556 (H1556.at hin1556 rfl) (g := (mkF m 375 #[sI p0, sI p1, sI p2, sI p3, sI p4, sI p5, sI a, sI b, sI c, sI r1335, sI r1338, sI r1341, sR b1344, sR b1386, sR b1401, sR R1467, sI 0, sI b1489, sI b1495, sI b1501, sR b1503, sI 2] [(.int (1 : Int32)), (.ref b1503), (.int c)])) rfl rfl (hb hby at_375) _ ?_
          show Sg p e below (T1544.setTop (mkF m 376 #[sI p0, sI p1, sI p2, sI p3, sI p4, sI p5, sI a, sI b, sI c, sI r1335, sI r1338, sI r1341, sR b1344, sR b1386, sR b1401, sR R1467, sI 0, sI b1489, sI b1495, sI b1501, sR b1503, sI 2] [(.int c), (.int c)])) _
          refine XS.icmpYes X1544.here hx rfl (pc0 := 376) (pc' := 381) rfl (hb hby at_376) rfl (teq (show c = c from (rfl : c = c))).1 (by decide) (by decide) ?_
          refine XS.iload X1544.here hx rfl (hb hby at_381) rfl ?_
          refine XS.iconst X1544.here hx rfl (hb hby at_383) ?_
          refine XS.icmpYes X1544.here hx rfl (pc0 := 384) (pc' := 400) rfl (hb hby at_384) rfl (flt (show ¬ ((2 : Int32) < (2 : Int32)) from (by decide))).2.2.2 (by decide) (by decide) ?_
          refine XS.iconst X1544.here hx rfl (hb hby at_400) ?_
          show Sg p e below (T1544.setTop (mkF m 401 #[sI p0, sI p1, sI p2, sI p3, sI p4, sI p5, sI a, sI b, sI c, sI r1335, sI r1338, sI r1341, sR b1344, sR b1386, sR b1401, sR R1467, sI 0, sI b1489, sI b1495, sI b1501, sR b1503, sI 2] [(.int (1 : Int32))])) _
          exact retN X1544 hx (t := .boolean) Bd.returns (by simp) (hb hby at_401) hr1557
        · show Q_law  h0 n0 _ T1544.heap _
          rw [e1544]
          exact ⟨rfl, N1547⟩
  · skip
    have ka := (own_kp hb1489).1 q1510
    obtain ⟨cl1558, Ar1558, q1558, S1558, N1558, H1558, G1558⟩ := id v1508
    obtain ⟨T1558, h1558, X1558, e1558, W1558, st1558⟩ := stI X1503 hx hZ e1503 Ar1558 (j := (0 : Int32)) (inb_of S1558 ⟨by decide, by decide⟩) (g := (mkF m 283 #[sI p0, sI p1, sI p2, sI p3, sI p4, sI p5, sI a, sI b, sI c, sI r1335, sI r1338, sI r1341, sR b1344, sR b1386, sR b1401, sR R1467, sI em, sI b1489, sI b1495, sI b1501, sR b1503, sI 0] [(.int a), (.int (0 : Int32)), (.ref b1503)])) rfl rfl (hb hby at_283)
    have v1559 : Arv Z h1558 b1503 k1503 .int (3 : Int32) [(.int a), (.int (0 : Int32)), (.int (0 : Int32))] (.int (0 : Int32)) := Arv.set Ar1558 q1558 S1558 N1558 H1558 G1558 rfl W1558 0 rfl (Nat.le_of_ble_eq_true rfl)
    have P1560 : Rg p e below (T1558.setTop (mkF m 284 #[sI p0, sI p1, sI p2, sI p3, sI p4, sI p5, sI a, sI b, sI c, sI r1335, sI r1338, sI r1341, sR b1344, sR b1386, sR b1401, sR R1467, sI em, sI b1489, sI b1495, sI b1501, sR b1503, sI 0] [])) B0 := fun t k => P1509 t (by
      refine XS.ifNo X1503.here hx rfl (hb hby at_274) rfl ((if0 _ _).trans (feq (show ¬ (b1489 = (0 : Int32)) from q1510)).1) ?_
      refine XS.aload X1503.here hx rfl (hb hby at_277) rfl rfl ?_
      refine XS.iload X1503.here hx rfl (hb hby at_279) rfl ?_
      refine XS.iload X1503.here hx rfl (hb hby at_281) rfl ?_
      show Sg p e below (T1503.setTop (mkF m 283 #[sI p0, sI p1, sI p2, sI p3, sI p4, sI p5, sI a, sI b, sI c, sI r1335, sI r1338, sI r1341, sR b1344, sR b1386, sR b1401, sR R1467, sI em, sI b1489, sI b1495, sI b1501, sR b1503, sI 0] [(.int a), (.int (0 : Int32)), (.ref b1503)])) _
      exact st1558 _ k)
    have N1561 := Fr.snoc X1558 N1482 g_b1503
    have Z1562 : n0 ≤ h1558.size := Nat.le_trans Z1505 (Keep.of_wr W1558).1
    have K1563 : Keep h0 h1558 [] := K1506.wr W1558 (Or.inr sz_b1503)
    have O1564 : Old Z n0 h1558 := O1507.wr W1558 g_b1503
    by_cases q1565 : b1495 = (0 : Int32)
    · skip
      have kb := (own_kp hb1495).2 q1565
      have P1566 : Rg p e below (T1558.setTop (mkF m 304 #[sI p0, sI p1, sI p2, sI p3, sI p4, sI p5, sI a, sI b, sI c, sI r1335, sI r1338, sI r1341, sR b1344, sR b1386, sR b1401, sR R1467, sI em, sI b1489, sI b1495, sI b1501, sR b1503, sI 1] [(.int b1501)])) B0 := fun t k => P1560 t (by
        refine XS.iinc X1558.here hx rfl (hb hby at_284) rfl (l' := #[sI p0, sI p1, sI p2, sI p3, sI p4, sI p5, sI a, sI b, sI c, sI r1335, sI r1338, sI r1341, sR b1344, sR b1386, sR b1401, sR R1467, sI em, sI b1489, sI b1495, sI b1501, sR b1503, sI 1]) rfl ?_
        refine XS.iload X1558.here hx rfl (hb hby at_287) rfl ?_
        refine XS.ifYes X1558.here hx rfl (pc0 := 289) (pc' := 302) rfl (hb hby at_289) rfl ((if0 _ _).trans (teq (show b1495 = (0 : Int32) from q1565)).1) (by decide) (by decide) ?_
        refine XS.iload X1558.here hx rfl (hb hby at_302) rfl ?_
        show Sg p e below (T1558.setTop (mkF m 304 #[sI p0, sI p1, sI p2, sI p3, sI p4, sI p5, sI a, sI b, sI c, sI r1335, sI r1338, sI r1341, sR b1344, sR b1386, sR b1401, sR R1467, sI em, sI b1489, sI b1495, sI b1501, sR b1503, sI 1] [(.int b1501)])) _
        exact k)
      by_cases q1567 : b1501 = (0 : Int32)
      · skip
        have kc := (own_kp hb1501).2 q1567
        have hfl : gs.flatten = [a] := by rw [hflat, own_fil, own_fil3, if_pos ka, if_neg kb, if_neg kc]; rfl
        have f1568 := ((A1467.ext E1503).other W1558 (Nat.ne_of_lt (Nat.lt_of_lt_of_le A1467.lt (Nat.le_of_eq g1503.symm))))
        rw [hfl] at hem2 hN1467 f1568
        have hN8 : N1467 = (1 : Int32) := hN1467
        subst hN8
        have hem8 : em = (0 : Int32) := hem2
        subst hem8
        obtain ⟨cl1569, Ar1569, -, S1569, N1569, -, -⟩ := id f1568
        obtain ⟨cl1570, Ar1570, -, S1570, N1570, H1570, -⟩ := id f1568
        have hin1570 : ¬ ((0 : Int32) < 0 ∨ cl1570.slots.size ≤ ((0 : Int32)).toNatClampNeg) := inb_of S1570 ⟨by decide, by decide⟩
        obtain ⟨cl1571, Ar1571, -, S1571, N1571, H1571, -⟩ := id v1559
        have hin1571 : ¬ ((0 : Int32) < 0 ∨ cl1571.slots.size ≤ ((0 : Int32)).toNatClampNeg) := inb_of S1571 ⟨by decide, by decide⟩
        obtain ⟨fs1572, hr1572, hrun1572, hended1572, hW1572, hsame1572⟩ := X1558.leave (v := some (.int (1 : Int32))) (fun h => by rw [Bd.returns] at h; cases h)
        refine ⟨_, _, pre0 _ (P1566 _ ?_), hrun1572, hended1572, _, _, rfl, ?_, ⟨⟨_, rfl⟩, hW1572, hsame1572.mono (Nat.le_of_ble_eq_true rfl) (Nat.le_of_ble_eq_true rfl)⟩⟩
        · show Sg p e below (T1558.setTop (mkF m 304 #[sI p0, sI p1, sI p2, sI p3, sI p4, sI p5, sI a, sI b, sI c, sI r1335, sI r1338, sI r1341, sR b1344, sR b1386, sR b1401, sR R1467, sI 0, sI b1489, sI b1495, sI b1501, sR b1503, sI 1] [(.int b1501)])) _
          refine XS.ifYes X1558.here hx rfl (pc0 := 304) (pc' := 317) rfl (hb hby at_304) rfl ((if0 _ _).trans (teq (show b1501 = (0 : Int32) from q1567)).1) (by decide) (by decide) ?_
          refine XS.iload X1558.here hx rfl (hb hby at_317) rfl ?_
          refine XS.iload X1558.here hx rfl (hb hby at_319) rfl ?_
          refine XS.ifYes X1558.here hx rfl (pc0 := 321) (pc' := 328) rfl (hb hby at_321) rfl ((if0 _ _).trans (feq (show ¬ ((1 : Int32) = (0 : Int32)) from (by decide))).2) (by decide) (by decide) ?_
          refine XS.iconst X1558.here hx rfl (hb hby at_328) ?_
          refine XS.icmpYes X1558.here hx rfl (pc0 := 329) (pc' := 334) rfl (hb hby at_329) rfl (teq (show (0 : Int32) = (0 : Int32) from (by decide))).1 (by decide) (by decide) ?_
          refine XS.aload X1558.here hx rfl (hb hby at_334) rfl rfl ?_
          show Sg p e below (T1558.setTop (mkF m 336 #[sI p0, sI p1, sI p2, sI p3, sI p4, sI p5, sI a, sI b, sI c, sI r1335, sI r1338, sI r1341, sR b1344, sR b1386, sR b1401, sR R1467, sI 0, sI b1489, sI b1495, sI b1501, sR b1503, sI 1] [(.ref R1467)])) _
          refine X1558.arraylength hx (by rw [e1558]; exact Ar1569.1) (State.isArrayOf_alike hZ.alike Ar1569.2.1) (g := (mkF m 336 #[sI p0, sI p1, sI p2, sI p3, sI p4, sI p5, sI a, sI b, sI c, sI r1335, sI r1338, sI r1341, sR b1344, sR b1386, sR b1401, sR R1467, sI 0, sI b1489, sI b1495, sI b1501, sR b1503, sI 1] [(.ref R1467)])) rfl rfl (hb hby at_336) _ ?_
          rw [len_of S1569 N1569]
          show Sg p e below (T1558.setTop (mkF m 337 #[sI p0, sI p1, sI p2, sI p3, sI p4, sI p5, sI a, sI b, sI c, sI r1335, sI r1338, sI r1341, sR b1344, sR b1386, sR b1401, sR R1467, sI 0, sI b1489, sI b1495, sI b1501, sR b1503, sI 1] [(.int (1 : Int32))])) _
          refine XS.iload X1558.here hx rfl (hb hby at_337) rfl ?_
          refine XS.icmpYes X1558.here hx rfl (pc0 := 339) (pc' := 344) rfl (hb hby at_339) rfl (teq (show (1 : Int32) = (1 : Int32) from (by decide))).1 (by decide) (by decide) ?_
          refine XS.iload X1558.here hx rfl (hb hby at_344) rfl ?_
          refine XS.ifNo X1558.here hx rfl (hb hby at_346) rfl ((if0 _ _).trans (tlt (show (0 : Int32) < (1 : Int32) from (by decide))).2.2.2) ?_
          refine XS.aload X1558.here hx rfl (hb hby at_349) rfl rfl ?_
          refine XS.iconst X1558.here hx rfl (hb hby at_351) ?_
          show Sg p e below (T1558.setTop (mkF m 352 #[sI p0, sI p1, sI p2, sI p3, sI p4, sI p5, sI a, sI b, sI c, sI r1335, sI r1338, sI r1341, sR b1344, sR b1386, sR b1401, sR R1467, sI 0, sI b1489, sI b1495, sI b1501, sR b1503, sI 1] [(.int (0 : Int32)), (.ref R1467)])) _
          refine X1558.iaload hx (j := (0 : Int32)) (v := (.int a)) (by rw [e1558]; exact Ar1570.1) (State.isArrayOf_alike hZ.alike Ar1570.2.1) Ar1570.2.2 hin1570 (H1570.at hin1570 rfl) (g := (mkF m 352 #[sI p0, sI p1, sI p2, sI p3, sI p4, sI p5, sI a, sI b, sI c, sI r1335, sI r1338, sI r1341, sR b1344, sR b1386, sR b1401, sR R1467, sI 0, sI b1489, sI b1495, sI b1501, sR b1503, sI 1] [(.int (0 : Int32)), (.ref R1467)])) rfl rfl (hb hby at_352) _ ?_
          show Sg p e below (T1558.setTop (mkF m 353 #[sI p0, sI p1, sI p2, sI p3, sI p4, sI p5, sI a, sI b, sI c, sI r1335, sI r1338, sI r1341, sR b1344, sR b1386, sR b1401, sR R1467, sI 0, sI b1489, sI b1495, sI b1501, sR b1503, sI 1] [(.int a)])) _
          refine XS.aload X1558.here hx rfl (hb hby at_353) rfl rfl ?_
          refine XS.iconst X1558.here hx rfl (hb hby at_355) ?_
          show Sg p e below (T1558.setTop (mkF m 356 #[sI p0, sI p1, sI p2, sI p3, sI p4, sI p5, sI a, sI b, sI c, sI r1335, sI r1338, sI r1341, sR b1344, sR b1386, sR b1401, sR R1467, sI 0, sI b1489, sI b1495, sI b1501, sR b1503, sI 1] [(.int (0 : Int32)), (.ref b1503), (.int a)])) _
          refine X1558.iaload hx (j := (0 : Int32)) (v := (.int a)) (by rw [e1558]; exact Ar1571.1) (State.isArrayOf_alike hZ.alike Ar1571.2.1) Ar1571.2.2 hin1571 (H1571.at hin1571 rfl) (g := (mkF m 356 #[sI p0, sI p1, sI p2, sI p3, sI p4, sI p5, sI a, sI b, sI c, sI r1335, sI r1338, sI r1341, sR b1344, sR b1386, sR b1401, sR R1467, sI 0, sI b1489, sI b1495, sI b1501, sR b1503, sI 1] [(.int (0 : Int32)), (.ref b1503), (.int a)])) rfl rfl (hb hby at_356) _ ?_
          show Sg p e below (T1558.setTop (mkF m 357 #[sI p0, sI p1, sI p2, sI p3, sI p4, sI p5, sI a, sI b, sI c, sI r1335, sI r1338, sI r1341, sR b1344, sR b1386, sR b1401, sR R1467, sI 0, sI b1489, sI b1495, sI b1501, sR b1503, sI 1] [(.int a), (.int a)])) _
          refine XS.icmpYes X1558.here hx rfl (pc0 := 357) (pc' := 362) rfl (hb hby at_357) rfl (teq (show a = a from (rfl : a = a))).1 (by decide) (by decide) ?_
          refine XS.iload X1558.here hx rfl (hb hby at_362) rfl ?_
          refine XS.iconst X1558.here hx rfl (hb hby at_364) ?_
          refine XS.icmpYes X1558.here hx rfl (pc0 := 365) (pc' := 381) rfl (hb hby at_365) rfl (flt (show ¬ ((1 : Int32) < (1 : Int32)) from (by decide))).2.2.2 (by decide) (by decide) ?_
          refine XS.iload X1558.here hx rfl (hb hby at_381) rfl ?_
          refine XS.iconst X1558.here hx rfl (hb hby at_383) ?_
          refine XS.icmpYes X1558.here hx rfl (pc0 := 384) (pc' := 400) rfl (hb hby at_384) rfl (flt (show ¬ ((2 : Int32) < (1 : Int32)) from (by decide))).2.2.2 (by decide) (by decide) ?_
          refine XS.iconst X1558.here hx rfl (hb hby at_400) ?_
          show Sg p e below (T1558.setTop (mkF m 401 #[sI p0, sI p1, sI p2, sI p3, sI p4, sI p5, sI a, sI b, sI c, sI r1335, sI r1338, sI r1341, sR b1344, sR b1386, sR b1401, sR R1467, sI 0, sI b1489, sI b1495, sI b1501, sR b1503, sI 1] [(.int (1 : Int32))])) _
          exact retN X1558 hx (t := .boolean) Bd.returns (by simp) (hb hby at_401) hr1572
        · show Q_law  h0 n0 _ T1558.heap _
          rw [e1558]
          exact ⟨rfl, N1561⟩
      · skip
        have kc := (own_kp hb1501).1 q1567
        have hfl : gs.flatten = [a, c] := by rw [hflat, own_fil, own_fil3, if_pos ka, if_neg kb, if_pos kc]; rfl
        have f1573 := ((A1467.ext E1503).other W1558 (Nat.ne_of_lt (Nat.lt_of_lt_of_le A1467.lt (Nat.le_of_eq g1503.symm))))
        rw [hfl] at hem2 hN1467 f1573
        have hN8 : N1467 = (2 : Int32) := hN1467
        subst hN8
        have hem8 : em = (0 : Int32) := hem2
        subst hem8
        obtain ⟨cl1574, Ar1574, q1574, S1574, N1574, H1574, G1574⟩ := id v1559
        obtain ⟨T1574, h1574, X1574, e1574, W1574, st1574⟩ := stI X1558 hx hZ e1558 Ar1574 (j := (1 : Int32)) (inb_of S1574 ⟨by decide, by decide⟩) (g := (mkF m 313 #[sI p0, sI p1, sI p2, sI p3, sI p4, sI p5, sI a, sI b, sI c, sI r1335, sI r1338, sI r1341, sR b1344, sR b1386, sR b1401, sR R1467, sI 0, sI b1489, sI b1495, sI b1501, sR b1503, sI 1] [(.int c), (.int (1 : Int32)), (.ref b1503)])) rfl rfl (hb hby at_313)
        have v1575 : Arv Z h1574 b1503 k1503 .int (3 : Int32) [(.int a), (.int c), (.int (0 : Int32))] (.int (0 : Int32)) := Arv.set Ar1574 q1574 S1574 N1574 H1574 G1574 rfl W1574 1 rfl (Nat.le_of_ble_eq_true rfl)
        have P1576 : Rg p e below (T1574.setTop (mkF m 314 #[sI p0, sI p1, sI p2, sI p3, sI p4, sI p5, sI a, sI b, sI c, sI r1335, sI r1338, sI r1341, sR b1344, sR b1386, sR b1401, sR R1467, sI 0, sI b1489, sI b1495, sI b1501, sR b1503, sI 1] [])) B0 := fun t k => P1566 t (by
          refine XS.ifNo X1558.here hx rfl (hb hby at_304) rfl ((if0 _ _).trans (feq (show ¬ (b1501 = (0 : Int32)) from q1567)).1) ?_
          refine XS.aload X1558.here hx rfl (hb hby at_307) rfl rfl ?_
          refine XS.iload X1558.here hx rfl (hb hby at_309) rfl ?_
          refine XS.iload X1558.here hx rfl (hb hby at_311) rfl ?_
          show Sg p e below (T1558.setTop (mkF m 313 #[sI p0, sI p1, sI p2, sI p3, sI p4, sI p5, sI a, sI b, sI c, sI r1335, sI r1338, sI r1341, sR b1344, sR b1386, sR b1401, sR R1467, sI 0, sI b1489, sI b1495, sI b1501, sR b1503, sI 1] [(.int c), (.int (1 : Int32)), (.ref b1503)])) _
          exact st1574 _ k)
        have N1577 := Fr.snoc X1574 N1561 g_b1503
        have Z1578 : n0 ≤ h1574.size := Nat.le_trans Z1562 (Keep.of_wr W1574).1
        have K1579 : Keep h0 h1574 [] := K1563.wr W1574 (Or.inr sz_b1503)
        have O1580 : Old Z n0 h1574 := O1564.wr W1574 g_b1503
        have f1581 := (f1573.other W1574 (Nat.ne_of_lt (Nat.lt_of_lt_of_le A1467.lt (Nat.le_of_eq g1503.symm))))
        obtain ⟨cl1582, Ar1582, -, S1582, N1582, -, -⟩ := id f1581
        obtain ⟨cl1583, Ar1583, -, S1583, N1583, H1583, -⟩ := id f1581
        have hin1583 : ¬ ((0 : Int32) < 0 ∨ cl1583.slots.size ≤ ((0 : Int32)).toNatClampNeg) := inb_of S1583 ⟨by decide, by decide⟩
        obtain ⟨cl1584, Ar1584, -, S1584, N1584, H1584, -⟩ := id v1575
        have hin1584 : ¬ ((0 : Int32) < 0 ∨ cl1584.slots.size ≤ ((0 : Int32)).toNatClampNeg) := inb_of S1584 ⟨by decide, by decide⟩
        obtain ⟨cl1585, Ar1585, -, S1585, N1585, H1585, -⟩ := id f1581
        have hin1585 : ¬ ((1 : Int32) < 0 ∨ cl1585.slots.size ≤ ((1 : Int32)).toNatClampNeg) := inb_of S1585 ⟨by decide, by decide⟩
        obtain ⟨cl1586, Ar1586, -, S1586, N1586, H1586, -⟩ := id v1575
        have hin1586 : ¬ ((1 : Int32) < 0 ∨ cl1586.slots.size ≤ ((1 : Int32)).toNatClampNeg) := inb_of S1586 ⟨by decide, by decide⟩
        obtain ⟨fs1587, hr1587, hrun1587, hended1587, hW1587, hsame1587⟩ := X1574.leave (v := some (.int (1 : Int32))) (fun h => by rw [Bd.returns] at h; cases h)
        refine ⟨_, _, pre0 _ (P1576 _ ?_), hrun1587, hended1587, _, _, rfl, ?_, ⟨⟨_, rfl⟩, hW1587, hsame1587.mono (Nat.le_of_ble_eq_true rfl) (Nat.le_of_ble_eq_true rfl)⟩⟩
        · show Sg p e below (T1574.setTop (mkF m 314 #[sI p0, sI p1, sI p2, sI p3, sI p4, sI p5, sI a, sI b, sI c, sI r1335, sI r1338, sI r1341, sR b1344, sR b1386, sR b1401, sR R1467, sI 0, sI b1489, sI b1495, sI b1501, sR b1503, sI 1] [])) _
          refine XS.iinc X1574.here hx rfl (hb hby at_314) rfl (l' := #[sI p0, sI p1, sI p2, sI p3, sI p4, sI p5, sI a, sI b, sI c, sI r1335, sI r1338, sI r1341, sR b1344, sR b1386, sR b1401, sR R1467, sI 0, sI b1489, sI b1495, sI b1501, sR b1503, sI 2]) rfl ?_
          refine XS.iload X1574.here hx rfl (hb hby at_317) rfl ?_
          refine XS.iload X1574.here hx rfl (hb hby at_319) rfl ?_
          refine XS.ifYes X1574.here hx rfl (pc0 := 321) (pc' := 328) rfl (hb hby at_321) rfl ((if0 _ _).trans (feq (show ¬ ((2 : Int32) = (0 : Int32)) from (by decide))).2) (by decide) (by decide) ?_
          refine XS.iconst X1574.here hx rfl (hb hby at_328) ?_
          refine XS.icmpYes X1574.here hx rfl (pc0 := 329) (pc' := 334) rfl (hb hby at_329) rfl (teq (show (0 : Int32) = (0 : Int32) from (by decide))).1 (by decide) (by decide) ?_
          refine XS.aload X1574.here hx rfl (hb hby at_334) rfl rfl ?_
          show Sg p e below (T1574.setTop (mkF m 336 #[sI p0, sI p1, sI p2, sI p3, sI p4, sI p5, sI a, sI b, sI c, sI r1335, sI r1338, sI r1341, sR b1344, sR b1386, sR b1401, sR R1467, sI 0, sI b1489, sI b1495, sI b1501, sR b1503, sI 2] [(.ref R1467)])) _
          refine X1574.arraylength hx (by rw [e1574]; exact Ar1582.1) (State.isArrayOf_alike hZ.alike Ar1582.2.1) (g := (mkF m 336 #[sI p0, sI p1, sI p2, sI p3, sI p4, sI p5, sI a, sI b, sI c, sI r1335, sI r1338, sI r1341, sR b1344, sR b1386, sR b1401, sR R1467, sI 0, sI b1489, sI b1495, sI b1501, sR b1503, sI 2] [(.ref R1467)])) rfl rfl (hb hby at_336) _ ?_
          rw [len_of S1582 N1582]
          show Sg p e below (T1574.setTop (mkF m 337 #[sI p0, sI p1, sI p2, sI p3, sI p4, sI p5, sI a, sI b, sI c, sI r1335, sI r1338, sI r1341, sR b1344, sR b1386, sR b1401, sR R1467, sI 0, sI b1489, sI b1495, sI b1501, sR b1503, sI 2] [(.int (2 : Int32))])) _
          refine XS.iload X1574.here hx rfl (hb hby at_337) rfl ?_
          refine XS.icmpYes X1574.here hx rfl (pc0 := 339) (pc' := 344) rfl (hb hby at_339) rfl (teq (show (2 : Int32) = (2 : Int32) from (by decide))).1 (by decide) (by decide) ?_
          refine XS.iload X1574.here hx rfl (hb hby at_344) rfl ?_
          refine XS.ifNo X1574.here hx rfl (hb hby at_346) rfl ((if0 _ _).trans (tlt (show (0 : Int32) < (2 : Int32) from (by decide))).2.2.2) ?_
          refine XS.aload X1574.here hx rfl (hb hby at_349) rfl rfl ?_
          refine XS.iconst X1574.here hx rfl (hb hby at_351) ?_
          show Sg p e below (T1574.setTop (mkF m 352 #[sI p0, sI p1, sI p2, sI p3, sI p4, sI p5, sI a, sI b, sI c, sI r1335, sI r1338, sI r1341, sR b1344, sR b1386, sR b1401, sR R1467, sI 0, sI b1489, sI b1495, sI b1501, sR b1503, sI 2] [(.int (0 : Int32)), (.ref R1467)])) _
          refine X1574.iaload hx (j := (0 : Int32)) (v := (.int a)) (by rw [e1574]; exact Ar1583.1) (State.isArrayOf_alike hZ.alike Ar1583.2.1) Ar1583.2.2 hin1583 (H1583.at hin1583 rfl) (g := (mkF m 352 #[sI p0, sI p1, sI p2, sI p3, sI p4, sI p5, sI a, sI b, sI c, sI r1335, sI r1338, sI r1341, sR b1344, sR b1386, sR b1401, sR R1467, sI 0, sI b1489, sI b1495, sI b1501, sR b1503, sI 2] [(.int (0 : Int32)), (.ref R1467)])) rfl rfl (hb hby at_352) _ ?_
          show Sg p e below (T1574.setTop (mkF m 353 #[sI p0, sI p1, sI p2, sI p3, sI p4, sI p5, sI a, sI b, sI c, sI r1335, sI r1338, sI r1341, sR b1344, sR b1386, sR b1401, sR R1467, sI 0, sI b1489, sI b1495, sI b1501, sR b1503, sI 2] [(.int a)])) _
          refine XS.aload X1574.here hx rfl (hb hby at_353) rfl rfl ?_
          refine XS.iconst X1574.here hx rfl (hb hby at_355) ?_
          show Sg p e below (T1574.setTop (mkF m 356 #[sI p0, sI p1, sI p2, sI p3, sI p4, sI p5, sI a, sI b, sI c, sI r1335, sI r1338, sI r1341, sR b1344, sR b1386, sR b1401, sR R1467, sI 0, sI b1489, sI b1495, sI b1501, sR b1503, sI 2] [(.int (0 : Int32)), (.ref b1503), (.int a)])) _
          refine X1574.iaload hx (j := (0 : Int32)) (v := (.int a)) (by rw [e1574]; exact Ar1584.1) (State.isArrayOf_alike hZ.alike Ar1584.2.1) Ar1584.2.2 hin1584 (H1584.at hin1584 rfl) (g := (mkF m 356 #[sI p0, sI p1, sI p2, sI p3, sI p4, sI p5, sI a, sI b, sI c, sI r1335, sI r1338, sI r1341, sR b1344, sR b1386, sR b1401, sR R1467, sI 0, sI b1489, sI b1495, sI b1501, sR b1503, sI 2] [(.int (0 : Int32)), (.ref b1503), (.int a)])) rfl rfl (hb hby at_356) _ ?_
          show Sg p e below (T1574.setTop (mkF m 357 #[sI p0, sI p1, sI p2, sI p3, sI p4, sI p5, sI a, sI b, sI c, sI r1335, sI r1338, sI r1341, sR b1344, sR b1386, sR b1401, sR R1467, sI 0, sI b1489, sI b1495, sI b1501, sR b1503, sI 2] [(.int a), (.int a)])) _
          refine XS.icmpYes X1574.here hx rfl (pc0 := 357) (pc' := 362) rfl (hb hby at_357) rfl (teq (show a = a from (rfl : a = a))).1 (by decide) (by decide) ?_
          refine XS.iload X1574.here hx rfl (hb hby at_362) rfl ?_
          refine XS.iconst X1574.here hx rfl (hb hby at_364) ?_
          refine XS.icmpNo X1574.here hx rfl (hb hby at_365) rfl (tlt (show (1 : Int32) < (2 : Int32) from (by decide))).2.2.2 ?_
          refine XS.aload X1574.here hx rfl (hb hby at_368) rfl rfl ?_
          refine XS.iconst X1574.here hx rfl (hb hby at_370) ?_
          show Sg p e below (T1574.setTop (mkF m 371 #[sI p0, sI p1, sI p2, sI p3, sI p4, sI p5, sI a, sI b, sI c, sI r1335, sI r1338, sI r1341, sR b1344, sR b1386, sR b1401, sR R1467, sI 0, sI b1489, sI b1495, sI b1501, sR b1503, sI 2] [(.int (1 : Int32)), (.ref R1467)])) _
          refine X1574.iaload hx (j := (1 : Int32)) (v := (.int c)) (by rw [e1574]; exact Ar1585.1) (State.isArrayOf_alike hZ.alike Ar1585.2.1) Ar1585.2.2 hin1585 (H1585.at hin1585 rfl) (g := (mkF m 371 #[sI p0, sI p1, sI p2, sI p3, sI p4, sI p5, sI a, sI b, sI c, sI r1335, sI r1338, sI r1341, sR b1344, sR b1386, sR b1401, sR R1467, sI 0, sI b1489, sI b1495, sI b1501, sR b1503, sI 2] [(.int (1 : Int32)), (.ref R1467)])) rfl rfl (hb hby at_371) _ ?_
          show Sg p e below (T1574.setTop (mkF m 372 #[sI p0, sI p1, sI p2, sI p3, sI p4, sI p5, sI a, sI b, sI c, sI r1335, sI r1338, sI r1341, sR b1344, sR b1386, sR b1401, sR R1467, sI 0, sI b1489, sI b1495, sI b1501, sR b1503, sI 2] [(.int c)])) _
          refine XS.aload X1574.here hx rfl (hb hby at_372) rfl rfl ?_
          refine XS.iconst X1574.here hx rfl (hb hby at_374) ?_
          show Sg p e below (T1574.setTop (mkF m 375 #[sI p0, sI p1, sI p2, sI p3, sI p4, sI p5, sI a, sI b, sI c, sI r1335, sI r1338, sI r1341, sR b1344, sR b1386, sR b1401, sR R1467, sI 0, sI b1489, sI b1495, sI b1501, sR b1503, sI 2] [(.int (1 : Int32)), (.ref b1503), (.int c)])) _
          refine X1574.iaload hx (j := (1 : Int32)) (v := (.int c)) (by rw [e1574]; exact Ar1586.1) (State.isArrayOf_alike hZ.alike Ar1586.2.1) Ar1586.2.2 hin1586 (H1586.at hin1586 rfl) (g := (mkF m 375 #[sI p0, sI p1, sI p2, sI p3, sI p4, sI p5, sI a, sI b, sI c, sI r1335, sI r1338, sI r1341, sR b1344, sR b1386, sR b1401, sR R1467, sI 0, sI b1489, sI b1495, sI b1501, sR b1503, sI 2] [(.int (1 : Int32)), (.ref b1503), (.int c)])) rfl rfl (hb hby at_375) _ ?_
          show Sg p e below (T1574.setTop (mkF m 376 #[sI p0, sI p1, sI p2, sI p3, sI p4, sI p5, sI a, sI b, sI c, sI r1335, sI r1338, sI r1341, sR b1344, sR b1386, sR b1401, sR R1467, sI 0, sI b1489, sI b1495, sI b1501, sR b1503, sI 2] [(.int c), (.int c)])) _
          refine XS.icmpYes X1574.here hx rfl (pc0 := 376) (pc' := 381) rfl (hb hby at_376) rfl (teq (show c = c from (rfl : c = c))).1 (by decide) (by decide) ?_
          refine XS.iload X1574.here hx rfl (hb hby at_381) rfl ?_
          refine XS.iconst X1574.here hx rfl (hb hby at_383) ?_
          refine XS.icmpYes X1574.here hx rfl (pc0 := 384) (pc' := 400) rfl (hb hby at_384) rfl (flt (show ¬ ((2 : Int32) < (2 : Int32)) from (by decide))).2.2.2 (by decide) (by decide) ?_
          refine XS.iconst X1574.here hx rfl (hb hby at_400) ?_
          show Sg p e below (T1574.setTop (mkF m 401 #[sI p0, sI p1, sI p2, sI p3, sI p4, sI p5, sI a, sI b, sI c, sI r1335, sI r1338, sI r1341, sR b1344, sR b1386, sR b1401, sR R1467, sI 0, sI b1489, sI b1495, sI b1501, sR b1503, sI 2] [(.int (1 : Int32))])) _
          exact retN X1574 hx (t := .boolean) Bd.returns (by simp) (hb hby at_401) hr1587
        · show Q_law  h0 n0 _ T1574.heap _
          rw [e1574]
          exact ⟨rfl, N1577⟩
    · skip
      have kb := (own_kp hb1495).1 q1565
      obtain ⟨cl1588, Ar1588, q1588, S1588, N1588, H1588, G1588⟩ := id v1559
      obtain ⟨T1588, h1588, X1588, e1588, W1588, st1588⟩ := stI X1558 hx hZ e1558 Ar1588 (j := (1 : Int32)) (inb_of S1588 ⟨by decide, by decide⟩) (g := (mkF m 298 #[sI p0, sI p1, sI p2, sI p3, sI p4, sI p5, sI a, sI b, sI c, sI r1335, sI r1338, sI r1341, sR b1344, sR b1386, sR b1401, sR R1467, sI em, sI b1489, sI b1495, sI b1501, sR b1503, sI 1] [(.int b), (.int (1 : Int32)), (.ref b1503)])) rfl rfl (hb hby at_298)
      have v1589 : Arv Z h1588 b1503 k1503 .int (3 : Int32) [(.int a), (.int b), (.int (0 : Int32))] (.int (0 : Int32)) := Arv.set Ar1588 q1588 S1588 N1588 H1588 G1588 rfl W1588 1 rfl (Nat.le_of_ble_eq_true rfl)
      have P1590 : Rg p e below (T1588.setTop (mkF m 299 #[sI p0, sI p1, sI p2, sI p3, sI p4, sI p5, sI a, sI b, sI c, sI r1335, sI r1338, sI r1341, sR b1344, sR b1386, sR b1401, sR R1467, sI em, sI b1489, sI b1495, sI b1501, sR b1503, sI 1] [])) B0 := fun t k => P1560 t (by
        refine XS.iinc X1558.here hx rfl (hb hby at_284) rfl (l' := #[sI p0, sI p1, sI p2, sI p3, sI p4, sI p5, sI a, sI b, sI c, sI r1335, sI r1338, sI r1341, sR b1344, sR b1386, sR b1401, sR R1467, sI em, sI b1489, sI b1495, sI b1501, sR b1503, sI 1]) rfl ?_
        refine XS.iload X1558.here hx rfl (hb hby at_287) rfl ?_
        refine XS.ifNo X1558.here hx rfl (hb hby at_289) rfl ((if0 _ _).trans (feq (show ¬ (b1495 = (0 : Int32)) from q1565)).1) ?_
        refine XS.aload X1558.here hx rfl (hb hby at_292) rfl rfl ?_
        refine XS.iload X1558.here hx rfl (hb hby at_294) rfl ?_
        refine XS.iload X1558.here hx rfl (hb hby at_296) rfl ?_
        show Sg p e below (T1558.setTop (mkF m 298 #[sI p0, sI p1, sI p2, sI p3, sI p4, sI p5, sI a, sI b, sI c, sI r1335, sI r1338, sI r1341, sR b1344, sR b1386, sR b1401, sR R1467, sI em, sI b1489, sI b1495, sI b1501, sR b1503, sI 1] [(.int b), (.int (1 : Int32)), (.ref b1503)])) _
        exact st1588 _ k)
      have N1591 := Fr.snoc X1588 N1561 g_b1503
      have Z1592 : n0 ≤ h1588.size := Nat.le_trans Z1562 (Keep.of_wr W1588).1
      have K1593 : Keep h0 h1588 [] := K1563.wr W1588 (Or.inr sz_b1503)
      have O1594 : Old Z n0 h1588 := O1564.wr W1588 g_b1503
      by_cases q1595 : b1501 = (0 : Int32)
      · skip
        have kc := (own_kp hb1501).2 q1595
        have hfl : gs.flatten = [a, b] := by rw [hflat, own_fil, own_fil3, if_pos ka, if_pos kb, if_neg kc]; rfl
        have f1596 := (((A1467.ext E1503).other W1558 (Nat.ne_of_lt (Nat.lt_of_lt_of_le A1467.lt (Nat.le_of_eq g1503.symm)))).other W1588 (Nat.ne_of_lt (Nat.lt_of_lt_of_le A1467.lt (Nat.le_of_eq g1503.symm))))
        rw [hfl] at hem2 hN1467 f1596
        have hN8 : N1467 = (2 : Int32) := hN1467
        subst hN8
        have hem8 : em = (0 : Int32) := hem2
        subst hem8
        obtain ⟨cl1597, Ar1597, -, S1597, N1597, -, -⟩ := id f1596
        obtain ⟨cl1598, Ar1598, -, S1598, N1598, H1598, -⟩ := id f1596
        have hin1598 : ¬ ((0 : Int32) < 0 ∨ cl1598.slots.size ≤ ((0 : Int32)).toNatClampNeg) := inb_of S1598 ⟨by decide, by decide⟩
        obtain ⟨cl1599, Ar1599, -, S1599, N1599, H1599, -⟩ := id v1589
        have hin1599 : ¬ ((0 : Int32) < 0 ∨ cl1599.slots.size ≤ ((0 : Int32)).toNatClampNeg) := inb_of S1599 ⟨by decide, by decide⟩
        obtain ⟨cl1600, Ar1600, -, S1600, N1600, H1600, -⟩ := id f1596
        have hin1600 : ¬ ((1 : Int32) < 0 ∨ cl1600.slots.size ≤ ((1 : Int32)).toNatClampNeg) := inb_of S1600 ⟨by decide, by decide⟩
        obtain ⟨cl1601, Ar1601, -, S1601, N1601, H1601, -⟩ := id v1589
        have hin1601 : ¬ ((1 : Int32) < 0 ∨ cl1601.slots.size ≤ ((1 : Int32)).toNatClampNeg) := inb_of S1601 ⟨by decide, by decide⟩
        obtain ⟨fs1602, hr1602, hrun1602, hended1602, hW1602, hsame1602⟩ := X1588.leave (v := some (.int (1 : Int32))) (fun h => by rw [Bd.returns] at h; cases h)
        refine ⟨_, _, pre0 _ (P1590 _ ?_), hrun1602, hended1602, _, _, rfl, ?_, ⟨⟨_, rfl⟩, hW1602, hsame1602.mono (Nat.le_of_ble_eq_true rfl) (Nat.le_of_ble_eq_true rfl)⟩⟩
        · show Sg p e below (T1588.setTop (mkF m 299 #[sI p0, sI p1, sI p2, sI p3, sI p4, sI p5, sI a, sI b, sI c, sI r1335, sI r1338, sI r1341, sR b1344, sR b1386, sR b1401, sR R1467, sI 0, sI b1489, sI b1495, sI b1501, sR b1503, sI 1] [])) _
          refine XS.iinc X1588.here hx rfl (hb hby at_299) rfl (l' := #[sI p0, sI p1, sI p2, sI p3, sI p4, sI p5, sI a, sI b, sI c, sI r1335, sI r1338, sI r1341, sR b1344, sR b1386, sR b1401, sR R1467, sI 0, sI b1489, sI b1495, sI b1501, sR b1503, sI 2]) rfl ?_
          refine XS.iload X1588.here hx rfl (hb hby at_302) rfl ?_
          refine XS.ifYes X1588.here hx rfl (pc0 := 304) (pc' := 317) rfl (hb hby at_304) rfl ((if0 _ _).trans (teq (show b1501 = (0 : Int32) from q1595)).1) (by decide) (by decide) ?_
          refine XS.iload X1588.here hx rfl (hb hby at_317) rfl ?_
          refine XS.iload X1588.here hx rfl (hb hby at_319) rfl ?_
          refine XS.ifYes X1588.here hx rfl (pc0 := 321) (pc' := 328) rfl (hb hby at_321) rfl ((if0 _ _).trans (feq (show ¬ ((2 : Int32) = (0 : Int32)) from (by decide))).2) (by decide) (by decide) ?_
          refine XS.iconst X1588.here hx rfl (hb hby at_328) ?_
          refine XS.icmpYes X1588.here hx rfl (pc0 := 329) (pc' := 334) rfl (hb hby at_329) rfl (teq (show (0 : Int32) = (0 : Int32) from (by decide))).1 (by decide) (by decide) ?_
          refine XS.aload X1588.here hx rfl (hb hby at_334) rfl rfl ?_
          show Sg p e below (T1588.setTop (mkF m 336 #[sI p0, sI p1, sI p2, sI p3, sI p4, sI p5, sI a, sI b, sI c, sI r1335, sI r1338, sI r1341, sR b1344, sR b1386, sR b1401, sR R1467, sI 0, sI b1489, sI b1495, sI b1501, sR b1503, sI 2] [(.ref R1467)])) _
          refine X1588.arraylength hx (by rw [e1588]; exact Ar1597.1) (State.isArrayOf_alike hZ.alike Ar1597.2.1) (g := (mkF m 336 #[sI p0, sI p1, sI p2, sI p3, sI p4, sI p5, sI a, sI b, sI c, sI r1335, sI r1338, sI r1341, sR b1344, sR b1386, sR b1401, sR R1467, sI 0, sI b1489, sI b1495, sI b1501, sR b1503, sI 2] [(.ref R1467)])) rfl rfl (hb hby at_336) _ ?_
          rw [len_of S1597 N1597]
          show Sg p e below (T1588.setTop (mkF m 337 #[sI p0, sI p1, sI p2, sI p3, sI p4, sI p5, sI a, sI b, sI c, sI r1335, sI r1338, sI r1341, sR b1344, sR b1386, sR b1401, sR R1467, sI 0, sI b1489, sI b1495, sI b1501, sR b1503, sI 2] [(.int (2 : Int32))])) _
          refine XS.iload X1588.here hx rfl (hb hby at_337) rfl ?_
          refine XS.icmpYes X1588.here hx rfl (pc0 := 339) (pc' := 344) rfl (hb hby at_339) rfl (teq (show (2 : Int32) = (2 : Int32) from (by decide))).1 (by decide) (by decide) ?_
          refine XS.iload X1588.here hx rfl (hb hby at_344) rfl ?_
          refine XS.ifNo X1588.here hx rfl (hb hby at_346) rfl ((if0 _ _).trans (tlt (show (0 : Int32) < (2 : Int32) from (by decide))).2.2.2) ?_
          refine XS.aload X1588.here hx rfl (hb hby at_349) rfl rfl ?_
          refine XS.iconst X1588.here hx rfl (hb hby at_351) ?_
          show Sg p e below (T1588.setTop (mkF m 352 #[sI p0, sI p1, sI p2, sI p3, sI p4, sI p5, sI a, sI b, sI c, sI r1335, sI r1338, sI r1341, sR b1344, sR b1386, sR b1401, sR R1467, sI 0, sI b1489, sI b1495, sI b1501, sR b1503, sI 2] [(.int (0 : Int32)), (.ref R1467)])) _
          refine X1588.iaload hx (j := (0 : Int32)) (v := (.int a)) (by rw [e1588]; exact Ar1598.1) (State.isArrayOf_alike hZ.alike Ar1598.2.1) Ar1598.2.2 hin1598 (H1598.at hin1598 rfl) (g := (mkF m 352 #[sI p0, sI p1, sI p2, sI p3, sI p4, sI p5, sI a, sI b, sI c, sI r1335, sI r1338, sI r1341, sR b1344, sR b1386, sR b1401, sR R1467, sI 0, sI b1489, sI b1495, sI b1501, sR b1503, sI 2] [(.int (0 : Int32)), (.ref R1467)])) rfl rfl (hb hby at_352) _ ?_
          show Sg p e below (T1588.setTop (mkF m 353 #[sI p0, sI p1, sI p2, sI p3, sI p4, sI p5, sI a, sI b, sI c, sI r1335, sI r1338, sI r1341, sR b1344, sR b1386, sR b1401, sR R1467, sI 0, sI b1489, sI b1495, sI b1501, sR b1503, sI 2] [(.int a)])) _
          refine XS.aload X1588.here hx rfl (hb hby at_353) rfl rfl ?_
          refine XS.iconst X1588.here hx rfl (hb hby at_355) ?_
          show Sg p e below (T1588.setTop (mkF m 356 #[sI p0, sI p1, sI p2, sI p3, sI p4, sI p5, sI a, sI b, sI c, sI r1335, sI r1338, sI r1341, sR b1344, sR b1386, sR b1401, sR R1467, sI 0, sI b1489, sI b1495, sI b1501, sR b1503, sI 2] [(.int (0 : Int32)), (.ref b1503), (.int a)])) _
          refine X1588.iaload hx (j := (0 : Int32)) (v := (.int a)) (by rw [e1588]; exact Ar1599.1) (State.isArrayOf_alike hZ.alike Ar1599.2.1) Ar1599.2.2 hin1599 (H1599.at hin1599 rfl) (g := (mkF m 356 #[sI p0, sI p1, sI p2, sI p3, sI p4, sI p5, sI a, sI b, sI c, sI r1335, sI r1338, sI r1341, sR b1344, sR b1386, sR b1401, sR R1467, sI 0, sI b1489, sI b1495, sI b1501, sR b1503, sI 2] [(.int (0 : Int32)), (.ref b1503), (.int a)])) rfl rfl (hb hby at_356) _ ?_
          show Sg p e below (T1588.setTop (mkF m 357 #[sI p0, sI p1, sI p2, sI p3, sI p4, sI p5, sI a, sI b, sI c, sI r1335, sI r1338, sI r1341, sR b1344, sR b1386, sR b1401, sR R1467, sI 0, sI b1489, sI b1495, sI b1501, sR b1503, sI 2] [(.int a), (.int a)])) _
          refine XS.icmpYes X1588.here hx rfl (pc0 := 357) (pc' := 362) rfl (hb hby at_357) rfl (teq (show a = a from (rfl : a = a))).1 (by decide) (by decide) ?_
          refine XS.iload X1588.here hx rfl (hb hby at_362) rfl ?_
          refine XS.iconst X1588.here hx rfl (hb hby at_364) ?_
          refine XS.icmpNo X1588.here hx rfl (hb hby at_365) rfl (tlt (show (1 : Int32) < (2 : Int32) from (by decide))).2.2.2 ?_
          refine XS.aload X1588.here hx rfl (hb hby at_368) rfl rfl ?_
          refine XS.iconst X1588.here hx rfl (hb hby at_370) ?_
          show Sg p e below (T1588.setTop (mkF m 371 #[sI p0, sI p1, sI p2, sI p3, sI p4, sI p5, sI a, sI b, sI c, sI r1335, sI r1338, sI r1341, sR b1344, sR b1386, sR b1401, sR R1467, sI 0, sI b1489, sI b1495, sI b1501, sR b1503, sI 2] [(.int (1 : Int32)), (.ref R1467)])) _
          refine X1588.iaload hx (j := (1 : Int32)) (v := (.int b)) (by rw [e1588]; exact Ar1600.1) (State.isArrayOf_alike hZ.alike Ar1600.2.1) Ar1600.2.2 hin1600 (H1600.at hin1600 rfl) (g := (mkF m 371 #[sI p0, sI p1, sI p2, sI p3, sI p4, sI p5, sI a, sI b, sI c, sI r1335, sI r1338, sI r1341, sR b1344, sR b1386, sR b1401, sR R1467, sI 0, sI b1489, sI b1495, sI b1501, sR b1503, sI 2] [(.int (1 : Int32)), (.ref R1467)])) rfl rfl (hb hby at_371) _ ?_
          show Sg p e below (T1588.setTop (mkF m 372 #[sI p0, sI p1, sI p2, sI p3, sI p4, sI p5, sI a, sI b, sI c, sI r1335, sI r1338, sI r1341, sR b1344, sR b1386, sR b1401, sR R1467, sI 0, sI b1489, sI b1495, sI b1501, sR b1503, sI 2] [(.int b)])) _
          refine XS.aload X1588.here hx rfl (hb hby at_372) rfl rfl ?_
          refine XS.iconst X1588.here hx rfl (hb hby at_374) ?_
          show Sg p e below (T1588.setTop (mkF m 375 #[sI p0, sI p1, sI p2, sI p3, sI p4, sI p5, sI a, sI b, sI c, sI r1335, sI r1338, sI r1341, sR b1344, sR b1386, sR b1401, sR R1467, sI 0, sI b1489, sI b1495, sI b1501, sR b1503, sI 2] [(.int (1 : Int32)), (.ref b1503), (.int b)])) _
          refine X1588.iaload hx (j := (1 : Int32)) (v := (.int b)) (by rw [e1588]; exact Ar1601.1) (State.isArrayOf_alike hZ.alike Ar1601.2.1) Ar1601.2.2 hin1601 (H1601.at hin1601 rfl) (g := (mkF m 375 #[sI p0, sI p1, sI p2, sI p3, sI p4, sI p5, sI a, sI b, sI c, sI r1335, sI r1338, sI r1341, sR b1344, sR b1386, sR b1401, sR R1467, sI 0, sI b1489, sI b1495, sI b1501, sR b1503, sI 2] [(.int (1 : Int32)), (.ref b1503), (.int b)])) rfl rfl (hb hby at_375) _ ?_
          show Sg p e below (T1588.setTop (mkF m 376 #[sI p0, sI p1, sI p2, sI p3, sI p4, sI p5, sI a, sI b, sI c, sI r1335, sI r1338, sI r1341, sR b1344, sR b1386, sR b1401, sR R1467, sI 0, sI b1489, sI b1495, sI b1501, sR b1503, sI 2] [(.int b), (.int b)])) _
          refine XS.icmpYes X1588.here hx rfl (pc0 := 376) (pc' := 381) rfl (hb hby at_376) rfl (teq (show b = b from (rfl : b = b))).1 (by decide) (by decide) ?_
          refine XS.iload X1588.here hx rfl (hb hby at_381) rfl ?_
          refine XS.iconst X1588.here hx rfl (hb hby at_383) ?_
          refine XS.icmpYes X1588.here hx rfl (pc0 := 384) (pc' := 400) rfl (hb hby at_384) rfl (flt (show ¬ ((2 : Int32) < (2 : Int32)) from (by decide))).2.2.2 (by decide) (by decide) ?_
          refine XS.iconst X1588.here hx rfl (hb hby at_400) ?_
          show Sg p e below (T1588.setTop (mkF m 401 #[sI p0, sI p1, sI p2, sI p3, sI p4, sI p5, sI a, sI b, sI c, sI r1335, sI r1338, sI r1341, sR b1344, sR b1386, sR b1401, sR R1467, sI 0, sI b1489, sI b1495, sI b1501, sR b1503, sI 2] [(.int (1 : Int32))])) _
          exact retN X1588 hx (t := .boolean) Bd.returns (by simp) (hb hby at_401) hr1602
        · show Q_law  h0 n0 _ T1588.heap _
          rw [e1588]
          exact ⟨rfl, N1591⟩
      · skip
        have kc := (own_kp hb1501).1 q1595
        have hfl : gs.flatten = [a, b, c] := by rw [hflat, own_fil, own_fil3, if_pos ka, if_pos kb, if_pos kc]; rfl
        have f1603 := (((A1467.ext E1503).other W1558 (Nat.ne_of_lt (Nat.lt_of_lt_of_le A1467.lt (Nat.le_of_eq g1503.symm)))).other W1588 (Nat.ne_of_lt (Nat.lt_of_lt_of_le A1467.lt (Nat.le_of_eq g1503.symm))))
        rw [hfl] at hem2 hN1467 f1603
        have hN8 : N1467 = (3 : Int32) := hN1467
        subst hN8
        have hem8 : em = (0 : Int32) := hem2
        subst hem8
        obtain ⟨cl1604, Ar1604, q1604, S1604, N1604, H1604, G1604⟩ := id v1589
        obtain ⟨T1604, h1604, X1604, e1604, W1604, st1604⟩ := stI X1588 hx hZ e1588 Ar1604 (j := (2 : Int32)) (inb_of S1604 ⟨by decide, by decide⟩) (g := (mkF m 313 #[sI p0, sI p1, sI p2, sI p3, sI p4, sI p5, sI a, sI b, sI c, sI r1335, sI r1338, sI r1341, sR b1344, sR b1386, sR b1401, sR R1467, sI 0, sI b1489, sI b1495, sI b1501, sR b1503, sI 2] [(.int c), (.int (2 : Int32)), (.ref b1503)])) rfl rfl (hb hby at_313)
        have v1605 : Arv Z h1604 b1503 k1503 .int (3 : Int32) [(.int a), (.int b), (.int c)] (.int (0 : Int32)) := Arv.set Ar1604 q1604 S1604 N1604 H1604 G1604 rfl W1604 2 rfl (Nat.le_of_ble_eq_true rfl)
        have P1606 : Rg p e below (T1604.setTop (mkF m 314 #[sI p0, sI p1, sI p2, sI p3, sI p4, sI p5, sI a, sI b, sI c, sI r1335, sI r1338, sI r1341, sR b1344, sR b1386, sR b1401, sR R1467, sI 0, sI b1489, sI b1495, sI b1501, sR b1503, sI 2] [])) B0 := fun t k => P1590 t (by
          refine XS.iinc X1588.here hx rfl (hb hby at_299) rfl (l' := #[sI p0, sI p1, sI p2, sI p3, sI p4, sI p5, sI a, sI b, sI c, sI r1335, sI r1338, sI r1341, sR b1344, sR b1386, sR b1401, sR R1467, sI 0, sI b1489, sI b1495, sI b1501, sR b1503, sI 2]) rfl ?_
          refine XS.iload X1588.here hx rfl (hb hby at_302) rfl ?_
          refine XS.ifNo X1588.here hx rfl (hb hby at_304) rfl ((if0 _ _).trans (feq (show ¬ (b1501 = (0 : Int32)) from q1595)).1) ?_
          refine XS.aload X1588.here hx rfl (hb hby at_307) rfl rfl ?_
          refine XS.iload X1588.here hx rfl (hb hby at_309) rfl ?_
          refine XS.iload X1588.here hx rfl (hb hby at_311) rfl ?_
          show Sg p e below (T1588.setTop (mkF m 313 #[sI p0, sI p1, sI p2, sI p3, sI p4, sI p5, sI a, sI b, sI c, sI r1335, sI r1338, sI r1341, sR b1344, sR b1386, sR b1401, sR R1467, sI 0, sI b1489, sI b1495, sI b1501, sR b1503, sI 2] [(.int c), (.int (2 : Int32)), (.ref b1503)])) _
          exact st1604 _ k)
        have N1607 := Fr.snoc X1604 N1591 g_b1503
        have Z1608 : n0 ≤ h1604.size := Nat.le_trans Z1592 (Keep.of_wr W1604).1
        have K1609 : Keep h0 h1604 [] := K1593.wr W1604 (Or.inr sz_b1503)
        have O1610 : Old Z n0 h1604 := O1594.wr W1604 g_b1503
        have f1611 := (f1603.other W1604 (Nat.ne_of_lt (Nat.lt_of_lt_of_le A1467.lt (Nat.le_of_eq g1503.symm))))
        obtain ⟨cl1612, Ar1612, -, S1612, N1612, -, -⟩ := id f1611
        obtain ⟨cl1613, Ar1613, -, S1613, N1613, H1613, -⟩ := id f1611
        have hin1613 : ¬ ((0 : Int32) < 0 ∨ cl1613.slots.size ≤ ((0 : Int32)).toNatClampNeg) := inb_of S1613 ⟨by decide, by decide⟩
        obtain ⟨cl1614, Ar1614, -, S1614, N1614, H1614, -⟩ := id v1605
        have hin1614 : ¬ ((0 : Int32) < 0 ∨ cl1614.slots.size ≤ ((0 : Int32)).toNatClampNeg) := inb_of S1614 ⟨by decide, by decide⟩
        obtain ⟨cl1615, Ar1615, -, S1615, N1615, H1615, -⟩ := id f1611
        have hin1615 : ¬ ((1 : Int32) < 0 ∨ cl1615.slots.size ≤ ((1 : Int32)).toNatClampNeg) := inb_of S1615 ⟨by decide, by decide⟩
        obtain ⟨cl1616, Ar1616, -, S1616, N1616, H1616, -⟩ := id v1605
        have hin1616 : ¬ ((1 : Int32) < 0 ∨ cl1616.slots.size ≤ ((1 : Int32)).toNatClampNeg) := inb_of S1616 ⟨by decide, by decide⟩
        obtain ⟨cl1617, Ar1617, -, S1617, N1617, H1617, -⟩ := id f1611
        have hin1617 : ¬ ((2 : Int32) < 0 ∨ cl1617.slots.size ≤ ((2 : Int32)).toNatClampNeg) := inb_of S1617 ⟨by decide, by decide⟩
        obtain ⟨cl1618, Ar1618, -, S1618, N1618, H1618, -⟩ := id v1605
        have hin1618 : ¬ ((2 : Int32) < 0 ∨ cl1618.slots.size ≤ ((2 : Int32)).toNatClampNeg) := inb_of S1618 ⟨by decide, by decide⟩
        obtain ⟨fs1619, hr1619, hrun1619, hended1619, hW1619, hsame1619⟩ := X1604.leave (v := some (.int (1 : Int32))) (fun h => by rw [Bd.returns] at h; cases h)
        refine ⟨_, _, pre0 _ (P1606 _ ?_), hrun1619, hended1619, _, _, rfl, ?_, ⟨⟨_, rfl⟩, hW1619, hsame1619.mono (Nat.le_of_ble_eq_true rfl) (Nat.le_of_ble_eq_true rfl)⟩⟩
        · show Sg p e below (T1604.setTop (mkF m 314 #[sI p0, sI p1, sI p2, sI p3, sI p4, sI p5, sI a, sI b, sI c, sI r1335, sI r1338, sI r1341, sR b1344, sR b1386, sR b1401, sR R1467, sI 0, sI b1489, sI b1495, sI b1501, sR b1503, sI 2] [])) _
          refine XS.iinc X1604.here hx rfl (hb hby at_314) rfl (l' := #[sI p0, sI p1, sI p2, sI p3, sI p4, sI p5, sI a, sI b, sI c, sI r1335, sI r1338, sI r1341, sR b1344, sR b1386, sR b1401, sR R1467, sI 0, sI b1489, sI b1495, sI b1501, sR b1503, sI 3]) rfl ?_
          refine XS.iload X1604.here hx rfl (hb hby at_317) rfl ?_
          refine XS.iload X1604.here hx rfl (hb hby at_319) rfl ?_
          refine XS.ifYes X1604.here hx rfl (pc0 := 321) (pc' := 328) rfl (hb hby at_321) rfl ((if0 _ _).trans (feq (show ¬ ((3 : Int32) = (0 : Int32)) from (by decide))).2) (by decide) (by decide) ?_
          refine XS.iconst X1604.here hx rfl (hb hby at_328) ?_
          refine XS.icmpYes X1604.here hx rfl (pc0 := 329) (pc' := 334) rfl (hb hby at_329) rfl (teq (show (0 : Int32) = (0 : Int32) from (by decide))).1 (by decide) (by decide) ?_
          refine XS.aload X1604.here hx rfl (hb hby at_334) rfl rfl ?_
          show Sg p e below (T1604.setTop (mkF m 336 #[sI p0, sI p1, sI p2, sI p3, sI p4, sI p5, sI a, sI b, sI c, sI r1335, sI r1338, sI r1341, sR b1344, sR b1386, sR b1401, sR R1467, sI 0, sI b1489, sI b1495, sI b1501, sR b1503, sI 3] [(.ref R1467)])) _
          refine X1604.arraylength hx (by rw [e1604]; exact Ar1612.1) (State.isArrayOf_alike hZ.alike Ar1612.2.1) (g := (mkF m 336 #[sI p0, sI p1, sI p2, sI p3, sI p4, sI p5, sI a, sI b, sI c, sI r1335, sI r1338, sI r1341, sR b1344, sR b1386, sR b1401, sR R1467, sI 0, sI b1489, sI b1495, sI b1501, sR b1503, sI 3] [(.ref R1467)])) rfl rfl (hb hby at_336) _ ?_
          rw [len_of S1612 N1612]
          show Sg p e below (T1604.setTop (mkF m 337 #[sI p0, sI p1, sI p2, sI p3, sI p4, sI p5, sI a, sI b, sI c, sI r1335, sI r1338, sI r1341, sR b1344, sR b1386, sR b1401, sR R1467, sI 0, sI b1489, sI b1495, sI b1501, sR b1503, sI 3] [(.int (3 : Int32))])) _
          refine XS.iload X1604.here hx rfl (hb hby at_337) rfl ?_
          refine XS.icmpYes X1604.here hx rfl (pc0 := 339) (pc' := 344) rfl (hb hby at_339) rfl (teq (show (3 : Int32) = (3 : Int32) from (by decide))).1 (by decide) (by decide) ?_
          refine XS.iload X1604.here hx rfl (hb hby at_344) rfl ?_
          refine XS.ifNo X1604.here hx rfl (hb hby at_346) rfl ((if0 _ _).trans (tlt (show (0 : Int32) < (3 : Int32) from (by decide))).2.2.2) ?_
          refine XS.aload X1604.here hx rfl (hb hby at_349) rfl rfl ?_
          refine XS.iconst X1604.here hx rfl (hb hby at_351) ?_
          show Sg p e below (T1604.setTop (mkF m 352 #[sI p0, sI p1, sI p2, sI p3, sI p4, sI p5, sI a, sI b, sI c, sI r1335, sI r1338, sI r1341, sR b1344, sR b1386, sR b1401, sR R1467, sI 0, sI b1489, sI b1495, sI b1501, sR b1503, sI 3] [(.int (0 : Int32)), (.ref R1467)])) _
          refine X1604.iaload hx (j := (0 : Int32)) (v := (.int a)) (by rw [e1604]; exact Ar1613.1) (State.isArrayOf_alike hZ.alike Ar1613.2.1) Ar1613.2.2 hin1613 (H1613.at hin1613 rfl) (g := (mkF m 352 #[sI p0, sI p1, sI p2, sI p3, sI p4, sI p5, sI a, sI b, sI c, sI r1335, sI r1338, sI r1341, sR b1344, sR b1386, sR b1401, sR R1467, sI 0, sI b1489, sI b1495, sI b1501, sR b1503, sI 3] [(.int (0 : Int32)), (.ref R1467)])) rfl rfl (hb hby at_352) _ ?_
          show Sg p e below (T1604.setTop (mkF m 353 #[sI p0, sI p1, sI p2, sI p3, sI p4, sI p5, sI a, sI b, sI c, sI r1335, sI r1338, sI r1341, sR b1344, sR b1386, sR b1401, sR R1467, sI 0, sI b1489, sI b1495, sI b1501, sR b1503, sI 3] [(.int a)])) _
          refine XS.aload X1604.here hx rfl (hb hby at_353) rfl rfl ?_
          refine XS.iconst X1604.here hx rfl (hb hby at_355) ?_
          show Sg p e below (T1604.setTop (mkF m 356 #[sI p0, sI p1, sI p2, sI p3, sI p4, sI p5, sI a, sI b, sI c, sI r1335, sI r1338, sI r1341, sR b1344, sR b1386, sR b1401, sR R1467, sI 0, sI b1489, sI b1495, sI b1501, sR b1503, sI 3] [(.int (0 : Int32)), (.ref b1503), (.int a)])) _
          refine X1604.iaload hx (j := (0 : Int32)) (v := (.int a)) (by rw [e1604]; exact Ar1614.1) (State.isArrayOf_alike hZ.alike Ar1614.2.1) Ar1614.2.2 hin1614 (H1614.at hin1614 rfl) (g := (mkF m 356 #[sI p0, sI p1, sI p2, sI p3, sI p4, sI p5, sI a, sI b, sI c, sI r1335, sI r1338, sI r1341, sR b1344, sR b1386, sR b1401, sR R1467, sI 0, sI b1489, sI b1495, sI b1501, sR b1503, sI 3] [(.int (0 : Int32)), (.ref b1503), (.int a)])) rfl rfl (hb hby at_356) _ ?_
          show Sg p e below (T1604.setTop (mkF m 357 #[sI p0, sI p1, sI p2, sI p3, sI p4, sI p5, sI a, sI b, sI c, sI r1335, sI r1338, sI r1341, sR b1344, sR b1386, sR b1401, sR R1467, sI 0, sI b1489, sI b1495, sI b1501, sR b1503, sI 3] [(.int a), (.int a)])) _
          refine XS.icmpYes X1604.here hx rfl (pc0 := 357) (pc' := 362) rfl (hb hby at_357) rfl (teq (show a = a from (rfl : a = a))).1 (by decide) (by decide) ?_
          refine XS.iload X1604.here hx rfl (hb hby at_362) rfl ?_
          refine XS.iconst X1604.here hx rfl (hb hby at_364) ?_
          refine XS.icmpNo X1604.here hx rfl (hb hby at_365) rfl (tlt (show (1 : Int32) < (3 : Int32) from (by decide))).2.2.2 ?_
          refine XS.aload X1604.here hx rfl (hb hby at_368) rfl rfl ?_
          refine XS.iconst X1604.here hx rfl (hb hby at_370) ?_
          show Sg p e below (T1604.setTop (mkF m 371 #[sI p0, sI p1, sI p2, sI p3, sI p4, sI p5, sI a, sI b, sI c, sI r1335, sI r1338, sI r1341, sR b1344, sR b1386, sR b1401, sR R1467, sI 0, sI b1489, sI b1495, sI b1501, sR b1503, sI 3] [(.int (1 : Int32)), (.ref R1467)])) _
          refine X1604.iaload hx (j := (1 : Int32)) (v := (.int b)) (by rw [e1604]; exact Ar1615.1) (State.isArrayOf_alike hZ.alike Ar1615.2.1) Ar1615.2.2 hin1615 (H1615.at hin1615 rfl) (g := (mkF m 371 #[sI p0, sI p1, sI p2, sI p3, sI p4, sI p5, sI a, sI b, sI c, sI r1335, sI r1338, sI r1341, sR b1344, sR b1386, sR b1401, sR R1467, sI 0, sI b1489, sI b1495, sI b1501, sR b1503, sI 3] [(.int (1 : Int32)), (.ref R1467)])) rfl rfl (hb hby at_371) _ ?_
          show Sg p e below (T1604.setTop (mkF m 372 #[sI p0, sI p1, sI p2, sI p3, sI p4, sI p5, sI a, sI b, sI c, sI r1335, sI r1338, sI r1341, sR b1344, sR b1386, sR b1401, sR R1467, sI 0, sI b1489, sI b1495, sI b1501, sR b1503, sI 3] [(.int b)])) _
          refine XS.aload X1604.here hx rfl (hb hby at_372) rfl rfl ?_
          refine XS.iconst X1604.here hx rfl (hb hby at_374) ?_
          show Sg p e below (T1604.setTop (mkF m 375 #[sI p0, sI p1, sI p2, sI p3, sI p4, sI p5, sI a, sI b, sI c, sI r1335, sI r1338, sI r1341, sR b1344, sR b1386, sR b1401, sR R1467, sI 0, sI b1489, sI b1495, sI b1501, sR b1503, sI 3] [(.int (1 : Int32)), (.ref b1503), (.int b)])) _
          refine X1604.iaload hx (j := (1 : Int32)) (v := (.int b)) (by rw [e1604]; exact Ar1616.1) (State.isArrayOf_alike hZ.alike Ar1616.2.1) Ar1616.2.2 hin1616 (H1616.at hin1616 rfl) (g := (mkF m 375 #[sI p0, sI p1, sI p2, sI p3, sI p4, sI p5, sI a, sI b, sI c, sI r1335, sI r1338, sI r1341, sR b1344, sR b1386, sR b1401, sR R1467, sI 0, sI b1489, sI b1495, sI b1501, sR b1503, sI 3] [(.int (1 : Int32)), (.ref b1503), (.int b)])) rfl rfl (hb hby at_375) _ ?_
          show Sg p e below (T1604.setTop (mkF m 376 #[sI p0, sI p1, sI p2, sI p3, sI p4, sI p5, sI a, sI b, sI c, sI r1335, sI r1338, sI r1341, sR b1344, sR b1386, sR b1401, sR R1467, sI 0, sI b1489, sI b1495, sI b1501, sR b1503, sI 3] [(.int b), (.int b)])) _
          refine XS.icmpYes X1604.here hx rfl (pc0 := 376) (pc' := 381) rfl (hb hby at_376) rfl (teq (show b = b from (rfl : b = b))).1 (by decide) (by decide) ?_
          refine XS.iload X1604.here hx rfl (hb hby at_381) rfl ?_
          refine XS.iconst X1604.here hx rfl (hb hby at_383) ?_
          refine XS.icmpNo X1604.here hx rfl (hb hby at_384) rfl (tlt (show (2 : Int32) < (3 : Int32) from (by decide))).2.2.2 ?_
          refine XS.aload X1604.here hx rfl (hb hby at_387) rfl rfl ?_
          refine XS.iconst X1604.here hx rfl (hb hby at_389) ?_
          show Sg p e below (T1604.setTop (mkF m 390 #[sI p0, sI p1, sI p2, sI p3, sI p4, sI p5, sI a, sI b, sI c, sI r1335, sI r1338, sI r1341, sR b1344, sR b1386, sR b1401, sR R1467, sI 0, sI b1489, sI b1495, sI b1501, sR b1503, sI 3] [(.int (2 : Int32)), (.ref R1467)])) _
          refine X1604.iaload hx (j := (2 : Int32)) (v := (.int c)) (by rw [e1604]; exact Ar1617.1) (State.isArrayOf_alike hZ.alike Ar1617.2.1) Ar1617.2.2 hin1617 (H1617.at hin1617 rfl) (g := (mkF m 390 #[sI p0, sI p1, sI p2, sI p3, sI p4, sI p5, sI a, sI b, sI c, sI r1335, sI r1338, sI r1341, sR b1344, sR b1386, sR b1401, sR R1467, sI 0, sI b1489, sI b1495, sI b1501, sR b1503, sI 3] [(.int (2 : Int32)), (.ref R1467)])) rfl rfl (hb hby at_390) _ ?_
          show Sg p e below (T1604.setTop (mkF m 391 #[sI p0, sI p1, sI p2, sI p3, sI p4, sI p5, sI a, sI b, sI c, sI r1335, sI r1338, sI r1341, sR b1344, sR b1386, sR b1401, sR R1467, sI 0, sI b1489, sI b1495, sI b1501, sR b1503, sI 3] [(.int c)])) _
          refine XS.aload X1604.here hx rfl (hb hby at_391) rfl rfl ?_
          refine XS.iconst X1604.here hx rfl (hb hby at_393) ?_
          show Sg p e below (T1604.setTop (mkF m 394 #[sI p0, sI p1, sI p2, sI p3, sI p4, sI p5, sI a, sI b, sI c, sI r1335, sI r1338, sI r1341, sR b1344, sR b1386, sR b1401, sR R1467, sI 0, sI b1489, sI b1495, sI b1501, sR b1503, sI 3] [(.int (2 : Int32)), (.ref b1503), (.int c)])) _
          refine X1604.iaload hx (j := (2 : Int32)) (v := (.int c)) (by rw [e1604]; exact Ar1618.1) (State.isArrayOf_alike hZ.alike Ar1618.2.1) Ar1618.2.2 hin1618 (H1618.at hin1618 rfl) (g := (mkF m 394 #[sI p0, sI p1, sI p2, sI p3, sI p4, sI p5, sI a, sI b, sI c, sI r1335, sI r1338, sI r1341, sR b1344, sR b1386, sR b1401, sR R1467, sI 0, sI b1489, sI b1495, sI b1501, sR b1503, sI 3] [(.int (2 : Int32)), (.ref b1503), (.int c)])) rfl rfl (hb hby at_394) _ ?_
          show Sg p e below (T1604.setTop (mkF m 395 #[sI p0, sI p1, sI p2, sI p3, sI p4, sI p5, sI a, sI b, sI c, sI r1335, sI r1338, sI r1341, sR b1344, sR b1386, sR b1401, sR R1467, sI 0, sI b1489, sI b1495, sI b1501, sR b1503, sI 3] [(.int c), (.int c)])) _
          refine XS.icmpYes X1604.here hx rfl (pc0 := 395) (pc' := 400) rfl (hb hby at_395) rfl (teq (show c = c from (rfl : c = c))).1 (by decide) (by decide) ?_
          refine XS.iconst X1604.here hx rfl (hb hby at_400) ?_
          show Sg p e below (T1604.setTop (mkF m 401 #[sI p0, sI p1, sI p2, sI p3, sI p4, sI p5, sI a, sI b, sI c, sI r1335, sI r1338, sI r1341, sR b1344, sR b1386, sR b1401, sR R1467, sI 0, sI b1489, sI b1495, sI b1501, sR b1503, sI 3] [(.int (1 : Int32))])) _
          exact retN X1604 hx (t := .boolean) Bd.returns (by simp) (hb hby at_401) hr1619
        · show Q_law  h0 n0 _ T1604.heap _
          rw [e1604]
          exact ⟨rfl, N1607⟩
set_option maxRecDepth 65536 in
set_option maxHeartbeats 40000000 in
theorem comes_1 {Post : Tables → Env → Array Value → State → Outcome → State → Prop} (hpost : ∀ tb e args s v u, (limb_1_1.after args s (.returned v) u = true ∧ limb_1_2.after args s (.returned v) u = true ∧ True) → FrameEnd s (.returned v) u (Jvm.fieldLocs frame_1_writes args s ++ Jvm.arrayLocs frame_1_arrays args s ++ Jvm.staticLocs frame_1_statics s) 40 128 → Post tb e args s (.returned v) u) :
    ArmFor flags0 classFile x code maxLocals ret World_1 tables_1 room_1 Calls_1 rest_1 Pre_1 Post := by
  intro l hfl _ _ p e ha hc hk s m args below hf hA hF happ hP
  obtain ⟨hcalls, hrest, hpre⟩ := hP
  obtain ⟨-, -, -, hnamed, -, -, -, hat⟩ := (Spec.applies_iff hf).mp happ
  obtain ⟨hg, hn⟩ := and_e (Cond.before_iff.mp (show (Jvm.Cond.and given_1 narrow_1).before args s = true from hpre))
  obtain ⟨hcnt, hg0⟩ := and_e hg
  obtain ⟨ga0, hg1⟩ := and_e hg0
  obtain ⟨ga1, hg2⟩ := and_e hg1
  obtain ⟨ga2, hg3⟩ := and_e hg2
  obtain ⟨ga3, hg4⟩ := and_e hg3
  obtain ⟨ga4, hg5⟩ := and_e hg4
  obtain ⟨w0, w1, w2, w3, w4, w5, rfl⟩ : ∃ w0 w1 w2 w3 w4 w5 : Value, args = #[w0, w1, w2, w3, w4, w5] := by
    have hs : args.size = 6 := by simpa [Cond.value, given_1] using hcnt
    obtain ⟨L⟩ := args
    match L, hs with
    | [w0, w1, w2, w3, w4, w5], _ => exact ⟨w0, w1, w2, w3, w4, w5, rfl⟩
  have hw := fun d (hd : d ∈ tables_1) => atoms_spec (ws := Jvm.Cond.code x code maxLocals ret :: tables_1) hat d (List.mem_cons_of_mem _ hd)
  have hfit : Fit s := fun {y c} hc i hi => by
    obtain ⟨ha, rfl⟩ := Array.getElem?_eq_some_iff.mp hc
    have q := List.all_eq_true.mp ((Array.all_eq_true_iff_forall_mem.mp hF) _ (Array.getElem_mem ha)) i (List.mem_range.mpr hi)
    simpa [Array.getElem?_eq_getElem hi] using q
  obtain ⟨i0, ei0⟩ := is_v ga0
  obtain rfl : w0 = (.int i0) := Option.some.inj ei0
  obtain ⟨i1, ei1⟩ := is_v ga1
  obtain rfl : w1 = (.int i1) := Option.some.inj ei1
  obtain ⟨i2, ei2⟩ := is_v ga2
  obtain rfl : w2 = (.int i2) := Option.some.inj ei2
  obtain ⟨i3, ei3⟩ := is_v ga3
  obtain rfl : w3 = (.int i3) := Option.some.inj ei3
  obtain ⟨i4, ei4⟩ := is_v ga4
  obtain rfl : w4 = (.int i4) := Option.some.inj ei4
  obtain ⟨i5, ei5⟩ := is_v hg5
  obtain rfl : w5 = (.int i5) := Option.some.inj ei5
  obtain ⟨n, o, h1, h2, h3, _, L, rfl, ⟨rfl, N⟩, hq⟩ := rm_law l s _ hw tables_1 i0 i1 i2 i3 i4 i5  s.heap s.heap.size (Nat.le_refl _) (Old.start s)  p e ha hc hk s m _ below hf ((Spec.applies_iff_loose hf).mp happ).1 ⟨rfl, State.Warmed39.refl s, rfl⟩ trivial
  refine ⟨n, _, h1, h2, h3, hpost _ _ _ _ _ _ ⟨Cond.after_iff.mpr rfl, Cond.after_iff.mpr (eq_i res_at (Term.int_eval (1)) rfl), trivial⟩ ⟨hq.1, hq.2.1, (hq.2.2.sift fun y hy => Or.inr (N y hy)).mono (Nat.le_of_ble_eq_true rfl) (Nat.le_of_ble_eq_true rfl)⟩⟩
theorem main_1_1 : Claimed_1_1 := comes_1 fun _ _ _ _ _ _ h hF => ⟨h.1, hF⟩
theorem main_1_2 : Claimed_1_2 := comes_1 fun _ _ _ _ _ _ h hF => ⟨h.2.1, hF⟩
end Jvm.Pilot.@@N@@
namespace Jvm.Pilot.@@N@@
open Jvm Jvm.ClassFile Sem Op Lib Jvm.Free Jvm.Stand Jvm.Pilot.@@N@@.Jvm.D
/-! MADE BY PROGRAM (witnessworld.py) out of the Statement's table words and the real class files: 19 classes; the members and pool entries that the words name. The judged class is class 1, her method 2. -/
namespace start1
open Jvm.ClassFile
def u (s : String) : CpInfo := .utf8 (stringToUtf16 s)
/-- a pool by its gaps: so many unusable entries, then the entry; so many at the end -/
def gap : Nat → List CpInfo → List CpInfo
  | 0, r => r
  | n + 1, r => .unusable :: gap n r
def poolList (es : List (Nat × CpInfo)) (last : Nat) : List CpInfo := es.foldr (fun e r => gap e.1 (e.2 :: r)) (gap last [])
def pool (es : List (Nat × CpInfo)) (last : Nat) : Array CpInfo := ⟨poolList es last⟩
def fileOf (pool : Array CpInfo) (this : Nat) (attrs : Array Attribute := #[]) (ms : Array MethodInfo := #[]) (fl : Nat := 33) (sup : Nat := 0) (ifs : Array Nat := #[]) (fds : Array FieldInfo := #[]) : ClassFile where
  minorVersion := 0
  majorVersion := 65
  constantPool := pool
  accessFlags := fl
  thisClass := this
  superClass := sup
  interfaces := ifs
  fields := fds
  methods := ms
  attributes := attrs
def plain (name : String) (sup : Option ClassId) : Class where
  name := name
  kind := .ordinary
  loader := none
  accessFlags := 33
  super := sup
  interfaces := #[]
  cf := none
  fields := #[]
  methods := #[]
  instanceTypes := #[]
  staticTypes := #[]
  resolved := #[]
  callSites := []
  init := .initialized
  statics := none
  mirror := none

def pool0 : Array CpInfo := pool [(5, u "<init>"), (0, u "()V"), (1, .class_ 10), (1, u "java/lang/Object")] 113

def k0c0 : Code := { maxStack := 0, maxLocals := 1, code := object_method_1_code, exceptionTable := #[], attributes := #[] }
def k0m0 : Method := { name := "<init>", desc := "()V", sig := { parameters := [], returnType := none }, accessFlags := 1, code := some k0c0 }
/-- java/lang/Object -/
def k0 : Class := { plain "java/lang/Object" none with
  accessFlags := 33
  interfaces := #[]
  cf := some (fileOf pool0 8 #[] #[{ accessFlags := 1, nameIndex := 5, descriptorIndex := 6, attributes := #[] }] 33 0 #[] #[])
  fields := #[]
  methods := #[k0m0]
  instanceTypes := #[]
  staticTypes := #[]
  resolved := Array.replicate 124 none
  statics := none }

def pool1 : Array CpInfo := pool [(2, .class_ 4), (0, .nameAndType 5 6), (0, u "java/lang/Object"), (0, u "<init>"), (0, u "()V"), (0, .integer 1073741823), (0, .methodref 9 10), (0, .class_ 11), (0, .nameAndType 12 13), (0, u "com/example/whittle/whittle/engine/MeetRemovePinLaw"), (0, u "pick"), (0, u "(IIIIII)I"), (0, .class_ 15), (0, u "[I"), (0, .class_ 17), (0, u "com/example/whittle/whittle/engine/WordSets"), (0, .methodref 16 19), (0, .nameAndType 5 20), (0, u "([[I)V"), (0, .class_ 22), (0, u "com/example/whittle/whittle/engine/WordSets$Meet"), (0, .methodref 21 3), (0, .methodref 21 25), (0, .nameAndType 26 27), (0, u "start"), (0, u "(Lcom/example/whittle/whittle/engine/WordSets;I)V"), (0, .methodref 21 29), (0, .nameAndType 30 31), (0, u "remove"), (0, u "(I)V"), (0, .methodref 21 33), (0, .nameAndType 34 35), (0, u "members"), (0, u "()[I"), (0, .methodref 21 37), (0, .nameAndType 38 39), (0, u "isEmpty"), (0, u "()Z"), (3, u "law"), (0, u "(IIIIII)Z")] 6

def k1m0 : Method := { name := "<init>", desc := "()V", sig := { parameters := [], returnType := none }, accessFlags := 1, code := none }
def k1c1 : Code := { maxStack := 3, maxLocals := 8, code := method_2_code, exceptionTable := #[], attributes := #[] }
def k1m1 : Method := { name := "pick", desc := "(IIIIII)I", sig := { parameters := [.int, .int, .int, .int, .int, .int], returnType := some .int }, accessFlags := 10, code := some k1c1 }
def k1c2 : Code := { maxStack := 7, maxLocals := 22, code := code, exceptionTable := #[], attributes := #[] }
def k1m2 : Method := { name := "law", desc := "(IIIIII)Z", sig := { parameters := [.int, .int, .int, .int, .int, .int], returnType := some .boolean }, accessFlags := 9, code := some k1c2 }
/-- com/example/whittle/whittle/engine/MeetRemovePinLaw -/
def k1 : Class := { plain "com/example/whittle/whittle/engine/MeetRemovePinLaw" (some 0) with
  accessFlags := 49
  interfaces := #[]
  cf := some (fileOf pool1 9 #[] #[{ accessFlags := 1, nameIndex := 5, descriptorIndex := 6, attributes := #[] }, { accessFlags := 10, nameIndex := 12, descriptorIndex := 13, attributes := #[] }, { accessFlags := 9, nameIndex := 43, descriptorIndex := 44, attributes := #[] }] 49 2 #[] #[])
  fields := #[]
  methods := #[k1m0, k1m1, k1m2]
  instanceTypes := #[]
  staticTypes := #[]
  resolved := Array.replicate 51 none
  statics := none }

def pool2 : Array CpInfo := pool [(1, .methodref 2 3), (0, .class_ 4), (0, .nameAndType 5 6), (0, u "java/lang/Object"), (0, u "<init>"), (0, u "()V"), (0, .class_ 8), (0, u "[I"), (0, .fieldref 10 11), (0, .class_ 12), (0, .nameAndType 13 14), (0, u "com/example/whittle/whittle/engine/WordSets"), (0, u "places"), (0, u "[[I"), (0, .class_ 16), (0, u "[J"), (0, .fieldref 10 18), (0, .nameAndType 19 20), (0, u "words"), (0, u "[[J"), (10, u "members"), (0, u "([I[JI)[I"), (0, .methodref 34 35), (0, .class_ 36), (0, .nameAndType 37 38), (0, u "java/lang/Long"), (0, u "bitCount"), (0, u "(J)I"), (0, .methodref 34 40), (0, .nameAndType 41 38), (0, u "numberOfTrailingZeros"), (0, u "([[I)V"), (10, .class_ 54), (0, u "com/example/whittle/whittle/engine/WordSets$Meet")] 2

def k2c0 : Code := { maxStack := 8, maxLocals := 9, code := prog_22_method_1_code, exceptionTable := #[], attributes := #[] }
def k2m0 : Method := { name := "<init>", desc := "([[I)V", sig := { parameters := [(.array (.array .int))], returnType := none }, accessFlags := 0, code := some k2c0 }
def k2c1 : Code := { maxStack := 6, maxLocals := 9, code := prog_22_method_4_code, exceptionTable := #[], attributes := #[] }
def k2m1 : Method := { name := "members", desc := "([I[JI)[I", sig := { parameters := [(.array .int), (.array .long), .int], returnType := some (.array .int) }, accessFlags := 10, code := some k2c1 }
/-- com/example/whittle/whittle/engine/WordSets -/
def k2 : Class := { plain "com/example/whittle/whittle/engine/WordSets" (some 0) with
  accessFlags := 48
  interfaces := #[]
  cf := some (fileOf pool2 10 #[.nestMembers #[53]] #[{ accessFlags := 0, nameIndex := 5, descriptorIndex := 42, attributes := #[] }, { accessFlags := 10, nameIndex := 31, descriptorIndex := 32, attributes := #[] }] 48 2 #[] #[{ accessFlags := 18, nameIndex := 13, descriptorIndex := 14, attributes := #[] }, { accessFlags := 18, nameIndex := 19, descriptorIndex := 20, attributes := #[] }])
  fields := #[{ name := "places", type := (.array (.array .int)), accessFlags := 18, slot := 0, constantValue := 0 }, { name := "words", type := (.array (.array .long)), accessFlags := 18, slot := 1, constantValue := 0 }]
  methods := #[k2m0, k2m1]
  instanceTypes := #[(.array (.array .int)), (.array (.array .long))]
  staticTypes := #[]
  resolved := Array.replicate 57 none
  statics := none }

def pool3 : Array CpInfo := pool [(1, .methodref 2 3), (0, .class_ 4), (0, .nameAndType 5 6), (0, u "java/lang/Object"), (0, u "<init>"), (0, u "()V"), (0, .fieldref 8 9), (0, .class_ 10), (0, .nameAndType 11 12), (0, u "com/example/whittle/whittle/engine/WordSets$Meet"), (0, u "places"), (0, u "[I"), (0, .fieldref 8 14), (0, .nameAndType 15 16), (0, u "words"), (0, u "[J"), (0, .fieldref 18 19), (0, .class_ 20), (0, .nameAndType 11 21), (0, u "com/example/whittle/whittle/engine/WordSets"), (0, u "[[I"), (0, .fieldref 18 23), (0, .nameAndType 15 24), (0, u "[[J"), (0, .fieldref 8 26), (0, .nameAndType 27 28), (0, u "count"), (0, u "I"), (0, .methodref 30 31), (0, .class_ 32), (0, .nameAndType 33 34), (0, u "java/util/Arrays"), (0, u "binarySearch"), (0, u "([IIII)I"), (0, .long 18446744073709551615), (1, .methodref 18 38), (0, .nameAndType 39 40), (0, u "members"), (0, u "([I[JI)[I"), (2, u "start"), (0, u "(Lcom/example/whittle/whittle/engine/WordSets;I)V"), (4, u "remove"), (0, u "(I)V"), (0, u "isEmpty"), (0, u "()Z"), (0, u "()[I")] 5

def k3c0 : Code := { maxStack := 2, maxLocals := 1, code := prog_23_method_1_code, exceptionTable := #[], attributes := #[] }
def k3m0 : Method := { name := "<init>", desc := "()V", sig := { parameters := [], returnType := none }, accessFlags := 0, code := some k3c0 }
def k3c1 : Code := { maxStack := 5, maxLocals := 6, code := prog_23_method_2_code, exceptionTable := #[], attributes := #[] }
def k3m1 : Method := { name := "start", desc := "(Lcom/example/whittle/whittle/engine/WordSets;I)V", sig := { parameters := [(.object "com/example/whittle/whittle/engine/WordSets"), .int], returnType := none }, accessFlags := 0, code := some k3c1 }
def k3c2 : Code := { maxStack := 8, maxLocals := 3, code := prog_23_method_4_code, exceptionTable := #[], attributes := #[] }
def k3m2 : Method := { name := "remove", desc := "(I)V", sig := { parameters := [.int], returnType := none }, accessFlags := 0, code := some k3c2 }
def k3c3 : Code := { maxStack := 4, maxLocals := 2, code := prog_23_method_5_code, exceptionTable := #[], attributes := #[] }
def k3m3 : Method := { name := "isEmpty", desc := "()Z", sig := { parameters := [], returnType := some .boolean }, accessFlags := 0, code := some k3c3 }
def k3c4 : Code := { maxStack := 3, maxLocals := 1, code := prog_23_method_6_code, exceptionTable := #[], attributes := #[] }
def k3m4 : Method := { name := "members", desc := "()[I", sig := { parameters := [], returnType := some (.array .int) }, accessFlags := 0, code := some k3c4 }
/-- com/example/whittle/whittle/engine/WordSets$Meet -/
def k3 : Class := { plain "com/example/whittle/whittle/engine/WordSets$Meet" (some 0) with
  accessFlags := 48
  interfaces := #[]
  cf := some (fileOf pool3 8 #[.nestHost 18] #[{ accessFlags := 0, nameIndex := 5, descriptorIndex := 6, attributes := #[] }, { accessFlags := 0, nameIndex := 43, descriptorIndex := 44, attributes := #[] }, { accessFlags := 0, nameIndex := 49, descriptorIndex := 50, attributes := #[] }, { accessFlags := 0, nameIndex := 51, descriptorIndex := 52, attributes := #[] }, { accessFlags := 0, nameIndex := 39, descriptorIndex := 53, attributes := #[] }] 48 2 #[] #[{ accessFlags := 2, nameIndex := 11, descriptorIndex := 12, attributes := #[] }, { accessFlags := 2, nameIndex := 15, descriptorIndex := 16, attributes := #[] }, { accessFlags := 2, nameIndex := 27, descriptorIndex := 28, attributes := #[] }])
  fields := #[{ name := "places", type := (.array .int), accessFlags := 2, slot := 0, constantValue := 0 }, { name := "words", type := (.array .long), accessFlags := 2, slot := 1, constantValue := 0 }, { name := "count", type := .int, accessFlags := 2, slot := 2, constantValue := 0 }]
  methods := #[k3m0, k3m1, k3m2, k3m3, k3m4]
  instanceTypes := #[(.array .int), (.array .long), .int]
  staticTypes := #[]
  resolved := Array.replicate 59 none
  statics := none }

def pool4 : Array CpInfo := pool [(2, .class_ 4), (1, u "java/lang/Object"), (0, u "<init>"), (0, u "()V"), (6, .methodref 14 15), (0, .class_ 16), (0, .nameAndType 17 18), (0, u "java/util/Arrays"), (0, u "rangeCheck"), (0, u "(III)V"), (55, .class_ 76), (1, u "java/util/Arrays$NaturalOrder"), (36, .class_ 115), (1, u "java/util/Arrays$LegacyMergeSort"), (1, u "Z"), (89, u "binarySearch0"), (1, .methodref 14 210), (0, .nameAndType 207 211), (0, u "([IIII)I"), (163, .class_ 376), (0, u "java/util/Arrays$ArrayList"), (68, u "$assertionsDisabled"), (269, u "MIN_ARRAY_SORT_GRAN"), (0, u "I"), (2, u "INSERTIONSORT_THRESHOLD"), (74, u "binarySearch"), (180, .class_ 976), (0, u "java/util/Arrays$ArrayItr")] 52

def k4m0 : Method := { name := "<init>", desc := "()V", sig := { parameters := [], returnType := none }, accessFlags := 2, code := none }
def k4c1 : Code := { maxStack := 4, maxLocals := 3, code := jdk_65_method_30_code, exceptionTable := #[], attributes := #[] }
def k4m1 : Method := { name := "rangeCheck", desc := "(III)V", sig := { parameters := [.int, .int, .int], returnType := none }, accessFlags := 8, code := some k4c1 }
def k4c2 : Code := { maxStack := 4, maxLocals := 4, code := jdk_65_method_58_code, exceptionTable := #[], attributes := #[] }
def k4m2 : Method := { name := "binarySearch", desc := "([IIII)I", sig := { parameters := [(.array .int), .int, .int, .int], returnType := some .int }, accessFlags := 9, code := some k4c2 }
def k4c3 : Code := { maxStack := 2, maxLocals := 8, code := jdk_65_method_59_code, exceptionTable := #[], attributes := #[] }
def k4m3 : Method := { name := "binarySearch0", desc := "([IIII)I", sig := { parameters := [(.array .int), .int, .int, .int], returnType := some .int }, accessFlags := 10, code := some k4c3 }
/-- java/util/Arrays -/
def k4 : Class := { plain "java/util/Arrays" (some 0) with
  accessFlags := 49
  interfaces := #[]
  cf := some (fileOf pool4 14 #[.nestMembers #[975, 375, 113, 74]] #[{ accessFlags := 2, nameIndex := 5, descriptorIndex := 6, attributes := #[] }, { accessFlags := 8, nameIndex := 17, descriptorIndex := 18, attributes := #[] }, { accessFlags := 9, nameIndex := 794, descriptorIndex := 211, attributes := #[] }, { accessFlags := 10, nameIndex := 207, descriptorIndex := 211, attributes := #[] }] 49 2 #[] #[{ accessFlags := 26, nameIndex := 715, descriptorIndex := 716, attributes := #[] }, { accessFlags := 26, nameIndex := 719, descriptorIndex := 716, attributes := #[] }, { accessFlags := 4120, nameIndex := 445, descriptorIndex := 117, attributes := #[] }])
  fields := #[{ name := "MIN_ARRAY_SORT_GRAN", type := .int, accessFlags := 26, slot := 0, constantValue := 0 }, { name := "INSERTIONSORT_THRESHOLD", type := .int, accessFlags := 26, slot := 1, constantValue := 0 }, { name := "$assertionsDisabled", type := .boolean, accessFlags := 4120, slot := 2, constantValue := 0 }]
  methods := #[k4m0, k4m1, k4m2, k4m3]
  instanceTypes := #[]
  staticTypes := #[.int, .int, .boolean]
  resolved := Array.replicate 1029 none
  statics := none }

def pool5 : Array CpInfo := pool [(1, .class_ 2), (0, u "java/io/Serializable"), (0, .class_ 4), (0, u "java/lang/Object")] 2

/-- java/io/Serializable -/
def k5 : Class := { plain "java/io/Serializable" (some 0) with
  accessFlags := 1537
  interfaces := #[]
  cf := some (fileOf pool5 1 #[] #[] 1537 3 #[] #[])
  fields := #[]
  methods := #[]
  instanceTypes := #[]
  staticTypes := #[]
  resolved := Array.replicate 7 none
  statics := none }

def pool6 : Array CpInfo := pool [(2, .class_ 4), (1, u "java/lang/Object"), (0, u "<init>"), (0, u "()V"), (1, .class_ 10), (1, u "java/lang/Number"), (2, .class_ 14), (0, u "java/io/Serializable"), (0, u "serialVersionUID"), (0, u "J")] 20

def k6m0 : Method := { name := "<init>", desc := "()V", sig := { parameters := [], returnType := none }, accessFlags := 1, code := none }
/-- java/lang/Number -/
def k6 : Class := { plain "java/lang/Number" (some 0) with
  accessFlags := 1057
  interfaces := #[5]
  cf := some (fileOf pool6 8 #[] #[{ accessFlags := 1, nameIndex := 5, descriptorIndex := 6, attributes := #[] }] 1057 2 #[13] #[{ accessFlags := 26, nameIndex := 15, descriptorIndex := 16, attributes := #[] }])
  fields := #[{ name := "serialVersionUID", type := .long, accessFlags := 26, slot := 0, constantValue := 0 }]
  methods := #[k6m0]
  instanceTypes := #[]
  staticTypes := #[.long]
  resolved := Array.replicate 37 none
  statics := none }

def pool7 : Array CpInfo := pool [(1, .class_ 2), (0, u "java/lang/Comparable"), (0, .class_ 4), (0, u "java/lang/Object")] 7

/-- java/lang/Comparable -/
def k7 : Class := { plain "java/lang/Comparable" (some 0) with
  accessFlags := 1537
  interfaces := #[]
  cf := some (fileOf pool7 1 #[] #[] 1537 3 #[] #[])
  fields := #[]
  methods := #[]
  instanceTypes := #[]
  staticTypes := #[]
  resolved := Array.replicate 12 none
  statics := none }

def pool8 : Array CpInfo := pool [(1, .class_ 2), (0, u "java/lang/constant/Constable"), (0, .class_ 4), (0, u "java/lang/Object")] 6

/-- java/lang/constant/Constable -/
def k8 : Class := { plain "java/lang/constant/Constable" (some 0) with
  accessFlags := 1537
  interfaces := #[]
  cf := some (fileOf pool8 1 #[] #[] 1537 3 #[] #[])
  fields := #[]
  methods := #[]
  instanceTypes := #[]
  staticTypes := #[]
  resolved := Array.replicate 11 none
  statics := none }

def pool9 : Array CpInfo := pool [(1, .class_ 2), (0, u "java/lang/constant/ConstantDesc"), (0, .class_ 4), (0, u "java/lang/Object")] 32

/-- java/lang/constant/ConstantDesc -/
def k9 : Class := { plain "java/lang/constant/ConstantDesc" (some 0) with
  accessFlags := 1537
  interfaces := #[]
  cf := some (fileOf pool9 1 #[] #[] 1537 3 #[] #[])
  fields := #[]
  methods := #[]
  instanceTypes := #[]
  staticTypes := #[]
  resolved := Array.replicate 37 none
  statics := none }

def pool10 : Array CpInfo := pool [(1, .class_ 2), (0, u "java/lang/Long"), (15, .class_ 20), (1, u "java/lang/Integer"), (80, u "(J)I"), (133, .class_ 237), (1, u "java/lang/Long$LongCache"), (33, .class_ 272), (0, u "java/lang/Number"), (2, u "value"), (0, u "J"), (33, u "(I)I"), (0, .methodref 18 312), (0, .nameAndType 313 310), (0, u "numberOfTrailingZeros"), (0, .long 6148914691236517205), (1, .long 3689348814741910323), (1, .long 1085102592571150095), (42, u "TYPE"), (0, u "Ljava/lang/Class;"), (0, .class_ 364), (0, u "java/lang/Comparable"), (0, .class_ 366), (0, u "java/lang/constant/Constable"), (0, .class_ 368), (0, u "java/lang/constant/ConstantDesc"), (0, u "MIN_VALUE"), (1, u "MAX_VALUE"), (4, u "SIZE"), (0, u "I"), (1, u "BYTES"), (1, u "serialVersionUID"), (94, u "bitCount")] 47

def k10c0 : Code := { maxStack := 4, maxLocals := 3, code := jdk_35_method_49_code, exceptionTable := #[], attributes := #[] }
def k10m0 : Method := { name := "numberOfTrailingZeros", desc := "(J)I", sig := { parameters := [.long], returnType := some .int }, accessFlags := 9, code := some k10c0 }
def k10c1 : Code := { maxStack := 6, maxLocals := 2, code := jdk_35_method_50_code, exceptionTable := #[], attributes := #[] }
def k10m1 : Method := { name := "bitCount", desc := "(J)I", sig := { parameters := [.long], returnType := some .int }, accessFlags := 9, code := some k10c1 }
/-- java/lang/Long -/
def k10 : Class := { plain "java/lang/Long" (some 6) with
  accessFlags := 49
  interfaces := #[7, 8, 9]
  cf := some (fileOf pool10 1 #[.nestMembers #[235]] #[{ accessFlags := 9, nameIndex := 313, descriptorIndex := 101, attributes := #[] }, { accessFlags := 9, nameIndex := 476, descriptorIndex := 101, attributes := #[] }] 49 271 #[363, 365, 367] #[{ accessFlags := 25, nameIndex := 369, descriptorIndex := 276, attributes := #[] }, { accessFlags := 25, nameIndex := 371, descriptorIndex := 276, attributes := #[] }, { accessFlags := 25, nameIndex := 361, descriptorIndex := 362, attributes := #[] }, { accessFlags := 18, nameIndex := 275, descriptorIndex := 276, attributes := #[] }, { accessFlags := 25, nameIndex := 376, descriptorIndex := 377, attributes := #[] }, { accessFlags := 25, nameIndex := 379, descriptorIndex := 377, attributes := #[] }, { accessFlags := 26, nameIndex := 381, descriptorIndex := 276, attributes := #[] }])
  fields := #[{ name := "MIN_VALUE", type := .long, accessFlags := 25, slot := 0, constantValue := 0 }, { name := "MAX_VALUE", type := .long, accessFlags := 25, slot := 1, constantValue := 0 }, { name := "TYPE", type := (.object "java/lang/Class"), accessFlags := 25, slot := 2, constantValue := 0 }, { name := "value", type := .long, accessFlags := 18, slot := 0, constantValue := 0 }, { name := "SIZE", type := .int, accessFlags := 25, slot := 3, constantValue := 0 }, { name := "BYTES", type := .int, accessFlags := 25, slot := 4, constantValue := 0 }, { name := "serialVersionUID", type := .long, accessFlags := 26, slot := 5, constantValue := 0 }]
  methods := #[k10m0, k10m1]
  instanceTypes := #[.long]
  staticTypes := #[.long, .long, (.object "java/lang/Class"), .int, .int, .long]
  resolved := Array.replicate 524 none
  statics := none }

def pool11 : Array CpInfo := pool [(1, .class_ 2), (0, u "java/lang/Integer"), (16, u "digits"), (0, u "[C"), (33, u "(I)I"), (30, u "DigitOnes"), (0, u "[B"), (2, u "DigitTens"), (99, .class_ 190), (0, u "java/lang/Integer$IntegerCache"), (3, u "I"), (8, .class_ 204), (0, u "java/lang/Number"), (2, u "value"), (56, .integer 65536), (37, u "TYPE"), (0, u "Ljava/lang/Class;"), (0, .class_ 305), (0, u "java/lang/Comparable"), (0, .class_ 307), (0, u "java/lang/constant/Constable"), (0, .class_ 309), (0, u "java/lang/constant/ConstantDesc"), (0, u "MIN_VALUE"), (1, u "MAX_VALUE"), (3, u "SIZE"), (1, u "BYTES"), (1, u "serialVersionUID"), (0, u "J"), (84, u "numberOfTrailingZeros")] 46

def k11c0 : Code := { maxStack := 3, maxLocals := 2, code := jdk_33_method_48_code, exceptionTable := #[], attributes := #[] }
def k11m0 : Method := { name := "numberOfTrailingZeros", desc := "(I)I", sig := { parameters := [.int], returnType := some .int }, accessFlags := 9, code := some k11c0 }
/-- java/lang/Integer -/
def k11 : Class := { plain "java/lang/Integer" (some 6) with
  accessFlags := 49
  interfaces := #[7, 8, 9]
  cf := some (fileOf pool11 1 #[.nestMembers #[189]] #[{ accessFlags := 9, nameIndex := 406, descriptorIndex := 54, attributes := #[] }] 49 203 #[304, 306, 308] #[{ accessFlags := 25, nameIndex := 310, descriptorIndex := 194, attributes := #[] }, { accessFlags := 25, nameIndex := 312, descriptorIndex := 194, attributes := #[] }, { accessFlags := 25, nameIndex := 302, descriptorIndex := 303, attributes := #[] }, { accessFlags := 24, nameIndex := 19, descriptorIndex := 20, attributes := #[] }, { accessFlags := 24, nameIndex := 89, descriptorIndex := 86, attributes := #[] }, { accessFlags := 24, nameIndex := 85, descriptorIndex := 86, attributes := #[] }, { accessFlags := 18, nameIndex := 207, descriptorIndex := 194, attributes := #[] }, { accessFlags := 25, nameIndex := 316, descriptorIndex := 194, attributes := #[] }, { accessFlags := 25, nameIndex := 318, descriptorIndex := 194, attributes := #[] }, { accessFlags := 26, nameIndex := 320, descriptorIndex := 321, attributes := #[] }])
  fields := #[{ name := "MIN_VALUE", type := .int, accessFlags := 25, slot := 0, constantValue := 0 }, { name := "MAX_VALUE", type := .int, accessFlags := 25, slot := 1, constantValue := 0 }, { name := "TYPE", type := (.object "java/lang/Class"), accessFlags := 25, slot := 2, constantValue := 0 }, { name := "digits", type := (.array .char), accessFlags := 24, slot := 3, constantValue := 0 }, { name := "DigitTens", type := (.array .byte), accessFlags := 24, slot := 4, constantValue := 0 }, { name := "DigitOnes", type := (.array .byte), accessFlags := 24, slot := 5, constantValue := 0 }, { name := "value", type := .int, accessFlags := 18, slot := 0, constantValue := 0 }, { name := "SIZE", type := .int, accessFlags := 25, slot := 6, constantValue := 0 }, { name := "BYTES", type := .int, accessFlags := 25, slot := 7, constantValue := 0 }, { name := "serialVersionUID", type := .long, accessFlags := 26, slot := 8, constantValue := 0 }]
  methods := #[k11m0]
  instanceTypes := #[.int]
  staticTypes := #[.int, .int, (.object "java/lang/Class"), (.array .char), (.array .byte), (.array .byte), .int, .int, .long]
  resolved := Array.replicate 453 none
  statics := none }

def pool12 : Array CpInfo := pool [(1, u "java/lang/Cloneable"), (0, .class_ 1), (0, u "java/lang/Object"), (0, .class_ 3)] 3

/-- java/lang/Cloneable -/
def k12 : Class := { plain "java/lang/Cloneable" (some 0) with
  accessFlags := 1537
  interfaces := #[]
  cf := some (fileOf pool12 2 #[] #[] 1537 4 #[] #[])
  fields := #[]
  methods := #[]
  instanceTypes := #[]
  staticTypes := #[]
  resolved := Array.replicate 8 none
  statics := none }

/-- the primitive byte -/
def k13 : Class := { plain "byte" none with kind := .primitive 'B', accessFlags := 0x411 }
/-- [B -/
def k14 : Class := { plain "[B" (some 0) with kind := .array 13 .byte, interfaces := #[12, 5], accessFlags := 1041 }

/-- the primitive int -/
def k15 : Class := { plain "int" none with kind := .primitive 'I', accessFlags := 0x411 }
/-- [I -/
def k16 : Class := { plain "[I" (some 0) with kind := .array 15 .int, interfaces := #[12, 5], accessFlags := 1041 }

/-- the primitive long -/
def k17 : Class := { plain "long" none with kind := .primitive 'J', accessFlags := 0x411 }
/-- [J -/
def k18 : Class := { plain "[J" (some 0) with kind := .array 17 .long, interfaces := #[12, 5], accessFlags := 1041 }

/-- [[I -/
def k19 : Class := { plain "[[I" (some 0) with kind := .array 16 (.array .int), interfaces := #[12, 5], accessFlags := 1041 }
/-- [[J -/
def k20 : Class := { plain "[[J" (some 0) with kind := .array 18 (.array .long), interfaces := #[12, 5], accessFlags := 1041 }
def heap : Heap := #[]
def classes : Array Class := #[k0, k1, k2, k3, k4, k5, k6, k7, k8, k9, k10, k11, k12, k13, k14, k15, k16, k17, k18, k19, k20]
def interned : List (Array UInt16 × Addr) := []
def slotsUsed : Nat := 0
def theMethod : MethodId := ⟨1, 2⟩
def args0 : Array Value := #[.int 1, .int 2, .int 3, .int 4, .int 5, .int 6]
def aboutOver (below : List Frame) : State where
  vm := { classes := classes, interned := interned.toArray }
  heap := heap
  slotsUsed := slotsUsed
  threads := #[{ frames := .invoking theMethod args0 :: below }]
def below0 : List Frame := [.native { method := ⟨0, 0⟩, args := #[] }]
def about1 : State := aboutOver below0
def p0 : Program := .bare "" "" ""
def e0 : Env := launch0.env 0 0 0
theorem w_frames : about1.frames = Frame.invoking theMethod args0 :: below0 := rfl
set_option maxRecDepth 65536 in
theorem w_args : argsFit about1.vm theMethod args0 = true := by decide +kernel
set_option maxRecDepth 65536 in
theorem w_heap : heapFits about1 = true := by decide +kernel
set_option maxRecDepth 65536 in
theorem w_runnable : about1.curStatus? = some .runnable := by decide +kernel
set_option maxRecDepth 65536 in
theorem w_alone : about1.alone = true := by decide +kernel
set_option maxRecDepth 65536 in
theorem w_named : about1.methodNamed? x = some theMethod := by decide +kernel
set_option maxRecDepth 65536 in
theorem w_hears : about1.hears theMethod below0 = true := by decide +kernel
set_option maxRecDepth 65536 in
theorem w_ripe : about1.ripe theMethod args0 below0 = true := by decide +kernel
theorem w_running : about1.status = .running := rfl
set_option maxRecDepth 65536 in
theorem w_room : about1.hasRoom e0.platform room_1 = true :=
  launch0.hasRoom_least _ room_1 (by decide +kernel) (by decide +kernel) (by decide +kernel) (by decide +kernel) (by decide +kernel) (by decide +kernel)
theorem allAtoms_all (ts : List Jvm.Cond) (a : Array Jvm.Value) (st : Jvm.State) : (allAtoms ts).before a st = ts.all (fun c => c.before a st) := by
  induction ts with
  | nil => rfl
  | cons c t ih =>
    show (Jvm.Cond.and c (allAtoms t)).before a st = _
    rw [Jvm.Cond.before_and, ih, List.all_cons]
def words1 : List Jvm.Cond := Jvm.Cond.code x code maxLocals ret :: tables_1
/-- a 'code' word, met by the world's own term for the bytes: nothing is compared byte by byte -/
theorem code_word {y : MethodName} {bytes : ByteArray} {mx : Nat} {rt : Option FieldType} {a : Array Value} {s : State} {m : MethodId} {meth : Method} {c : Code} (h1 : s.methodNamed? y = some m) (h2 : s.vm.method? m = some meth) (h3 : meth.code = some c) (h4 : c.code = bytes)
    (h5 : (c.maxLocals == mx && c.exceptionTable.isEmpty && decide (c.maxStack ≤ mostOperands) && decide (meth.sig.returnType = rt) && !meth.locks && decide (parseMethodDescriptor y.desc = some meth.sig)) = true) : (Jvm.Cond.code y bytes mx rt).before a s = true := by
  simp only [Bool.and_eq_true, beq_iff_eq, Bool.not_eq_true', decide_eq_true_eq] at h5
  obtain ⟨⟨⟨⟨⟨g1, g2⟩, g3⟩, g4⟩, g5⟩, g6⟩ := h5
  simp [Cond.before, Cond.holds, Cond.value, h1, h2, h3, h4, g1, g2, g3, g4, g5, g6]
def isCode : Jvm.Cond → Bool
  | .code _ _ _ _ => true
  | _ => false
theorem all_split {L : List Jvm.Cond} {P : Jvm.Cond → Bool} (h1 : L.all (fun c => isCode c || P c) = true) (h2 : ∀ c ∈ L.filter isCode, P c = true) : L.all P = true := by
  refine List.all_eq_true.mpr fun c hc => ?_
  have h := List.all_eq_true.mp h1 c hc
  rcases Bool.eq_false_or_eq_true (isCode c) with hi | hi
  · exact h2 c (List.mem_filter.mpr ⟨hc, hi⟩)
  · simpa [hi] using h
set_option maxRecDepth 65536 in
theorem w_c0 : (Jvm.Cond.code x code maxLocals ret).before args0 about1 = true := code_word (m := ⟨1, 2⟩) (meth := k1m2) (c := k1c2) (by decide +kernel) rfl rfl rfl (by decide +kernel)
set_option maxRecDepth 65536 in
theorem w_c1 : (Jvm.Cond.code ({ cls := "com/example/whittle/whittle/engine/MeetRemovePinLaw", name := "pick", desc := "(IIIIII)I" } : Jvm.MethodName) method_2_code (8 : Nat) (Option.some Jvm.ClassFile.FieldType.int)).before args0 about1 = true := code_word (m := ⟨1, 1⟩) (meth := k1m1) (c := k1c1) (by decide +kernel) rfl rfl rfl (by decide +kernel)
set_option maxRecDepth 65536 in
theorem w_c2 : (Jvm.Cond.code ({ cls := "com/example/whittle/whittle/engine/WordSets", name := "<init>", desc := "([[I)V" } : Jvm.MethodName) prog_22_method_1_code (9 : Nat) (Option.none : Option Jvm.ClassFile.FieldType)).before args0 about1 = true := code_word (m := ⟨2, 0⟩) (meth := k2m0) (c := k2c0) (by decide +kernel) rfl rfl rfl (by decide +kernel)
set_option maxRecDepth 65536 in
theorem w_c3 : (Jvm.Cond.code ({ cls := "java/lang/Object", name := "<init>", desc := "()V" } : Jvm.MethodName) object_method_1_code (1 : Nat) (Option.none : Option Jvm.ClassFile.FieldType)).before args0 about1 = true := code_word (m := ⟨0, 0⟩) (meth := k0m0) (c := k0c0) (by decide +kernel) rfl rfl rfl (by decide +kernel)
set_option maxRecDepth 65536 in
theorem w_c4 : (Jvm.Cond.code ({ cls := "com/example/whittle/whittle/engine/WordSets$Meet", name := "<init>", desc := "()V" } : Jvm.MethodName) prog_23_method_1_code (1 : Nat) (Option.none : Option Jvm.ClassFile.FieldType)).before args0 about1 = true := code_word (m := ⟨3, 0⟩) (meth := k3m0) (c := k3c0) (by decide +kernel) rfl rfl rfl (by decide +kernel)
set_option maxRecDepth 65536 in
theorem w_c5 : (Jvm.Cond.code ({ cls := "com/example/whittle/whittle/engine/WordSets$Meet", name := "start", desc := "(Lcom/example/whittle/whittle/engine/WordSets;I)V" } : Jvm.MethodName) prog_23_method_2_code (6 : Nat) (Option.none : Option Jvm.ClassFile.FieldType)).before args0 about1 = true := code_word (m := ⟨3, 1⟩) (meth := k3m1) (c := k3c1) (by decide +kernel) rfl rfl rfl (by decide +kernel)
set_option maxRecDepth 65536 in
theorem w_c6 : (Jvm.Cond.code ({ cls := "com/example/whittle/whittle/engine/WordSets$Meet", name := "remove", desc := "(I)V" } : Jvm.MethodName) prog_23_method_4_code (3 : Nat) (Option.none : Option Jvm.ClassFile.FieldType)).before args0 about1 = true := code_word (m := ⟨3, 2⟩) (meth := k3m2) (c := k3c2) (by decide +kernel) rfl rfl rfl (by decide +kernel)
set_option maxRecDepth 65536 in
theorem w_c7 : (Jvm.Cond.code ({ cls := "java/util/Arrays", name := "binarySearch", desc := "([IIII)I" } : Jvm.MethodName) jdk_65_method_58_code (4 : Nat) (Option.some Jvm.ClassFile.FieldType.int)).before args0 about1 = true := code_word (m := ⟨4, 2⟩) (meth := k4m2) (c := k4c2) (by decide +kernel) rfl rfl rfl (by decide +kernel)
set_option maxRecDepth 65536 in
theorem w_c8 : (Jvm.Cond.code ({ cls := "java/util/Arrays", name := "rangeCheck", desc := "(III)V" } : Jvm.MethodName) jdk_65_method_30_code (3 : Nat) (Option.none : Option Jvm.ClassFile.FieldType)).before args0 about1 = true := code_word (m := ⟨4, 1⟩) (meth := k4m1) (c := k4c1) (by decide +kernel) rfl rfl rfl (by decide +kernel)
set_option maxRecDepth 65536 in
theorem w_c9 : (Jvm.Cond.code ({ cls := "java/util/Arrays", name := "binarySearch0", desc := "([IIII)I" } : Jvm.MethodName) jdk_65_method_59_code (8 : Nat) (Option.some Jvm.ClassFile.FieldType.int)).before args0 about1 = true := code_word (m := ⟨4, 3⟩) (meth := k4m3) (c := k4c3) (by decide +kernel) rfl rfl rfl (by decide +kernel)
set_option maxRecDepth 65536 in
theorem w_c10 : (Jvm.Cond.code ({ cls := "com/example/whittle/whittle/engine/WordSets$Meet", name := "members", desc := "()[I" } : Jvm.MethodName) prog_23_method_6_code (1 : Nat) (Option.some (Jvm.ClassFile.FieldType.array Jvm.ClassFile.FieldType.int))).before args0 about1 = true := code_word (m := ⟨3, 4⟩) (meth := k3m4) (c := k3c4) (by decide +kernel) rfl rfl rfl (by decide +kernel)
set_option maxRecDepth 65536 in
theorem w_c11 : (Jvm.Cond.code ({ cls := "com/example/whittle/whittle/engine/WordSets", name := "members", desc := "([I[JI)[I" } : Jvm.MethodName) prog_22_method_4_code (9 : Nat) (Option.some (Jvm.ClassFile.FieldType.array Jvm.ClassFile.FieldType.int))).before args0 about1 = true := code_word (m := ⟨2, 1⟩) (meth := k2m1) (c := k2c1) (by decide +kernel) rfl rfl rfl (by decide +kernel)
set_option maxRecDepth 65536 in
theorem w_c12 : (Jvm.Cond.code ({ cls := "java/lang/Long", name := "bitCount", desc := "(J)I" } : Jvm.MethodName) jdk_35_method_50_code (2 : Nat) (Option.some Jvm.ClassFile.FieldType.int)).before args0 about1 = true := code_word (m := ⟨10, 1⟩) (meth := k10m1) (c := k10c1) (by decide +kernel) rfl rfl rfl (by decide +kernel)
set_option maxRecDepth 65536 in
theorem w_c13 : (Jvm.Cond.code ({ cls := "java/lang/Long", name := "numberOfTrailingZeros", desc := "(J)I" } : Jvm.MethodName) jdk_35_method_49_code (3 : Nat) (Option.some Jvm.ClassFile.FieldType.int)).before args0 about1 = true := code_word (m := ⟨10, 0⟩) (meth := k10m0) (c := k10c0) (by decide +kernel) rfl rfl rfl (by decide +kernel)
set_option maxRecDepth 65536 in
theorem w_c14 : (Jvm.Cond.code ({ cls := "java/lang/Integer", name := "numberOfTrailingZeros", desc := "(I)I" } : Jvm.MethodName) jdk_33_method_48_code (2 : Nat) (Option.some Jvm.ClassFile.FieldType.int)).before args0 about1 = true := code_word (m := ⟨11, 0⟩) (meth := k11m0) (c := k11c0) (by decide +kernel) rfl rfl rfl (by decide +kernel)
set_option maxRecDepth 65536 in
theorem w_c15 : (Jvm.Cond.code ({ cls := "com/example/whittle/whittle/engine/WordSets$Meet", name := "isEmpty", desc := "()Z" } : Jvm.MethodName) prog_23_method_5_code (2 : Nat) (Option.some Jvm.ClassFile.FieldType.boolean)).before args0 about1 = true := code_word (m := ⟨3, 3⟩) (meth := k3m3) (c := k3c3) (by decide +kernel) rfl rfl rfl (by decide +kernel)
def codes1 : List Jvm.Cond := [Jvm.Cond.code x code maxLocals ret, Jvm.Cond.code ({ cls := "com/example/whittle/whittle/engine/MeetRemovePinLaw", name := "pick", desc := "(IIIIII)I" } : Jvm.MethodName) method_2_code (8 : Nat) (Option.some Jvm.ClassFile.FieldType.int), Jvm.Cond.code ({ cls := "com/example/whittle/whittle/engine/WordSets", name := "<init>", desc := "([[I)V" } : Jvm.MethodName) prog_22_method_1_code (9 : Nat) (Option.none : Option Jvm.ClassFile.FieldType), Jvm.Cond.code ({ cls := "java/lang/Object", name := "<init>", desc := "()V" } : Jvm.MethodName) object_method_1_code (1 : Nat) (Option.none : Option Jvm.ClassFile.FieldType), Jvm.Cond.code ({ cls := "com/example/whittle/whittle/engine/WordSets$Meet", name := "<init>", desc := "()V" } : Jvm.MethodName) prog_23_method_1_code (1 : Nat) (Option.none : Option Jvm.ClassFile.FieldType), Jvm.Cond.code ({ cls := "com/example/whittle/whittle/engine/WordSets$Meet", name := "start", desc := "(Lcom/example/whittle/whittle/engine/WordSets;I)V" } : Jvm.MethodName) prog_23_method_2_code (6 : Nat) (Option.none : Option Jvm.ClassFile.FieldType), Jvm.Cond.code ({ cls := "com/example/whittle/whittle/engine/WordSets$Meet", name := "remove", desc := "(I)V" } : Jvm.MethodName) prog_23_method_4_code (3 : Nat) (Option.none : Option Jvm.ClassFile.FieldType), Jvm.Cond.code ({ cls := "java/util/Arrays", name := "binarySearch", desc := "([IIII)I" } : Jvm.MethodName) jdk_65_method_58_code (4 : Nat) (Option.some Jvm.ClassFile.FieldType.int), Jvm.Cond.code ({ cls := "java/util/Arrays", name := "rangeCheck", desc := "(III)V" } : Jvm.MethodName) jdk_65_method_30_code (3 : Nat) (Option.none : Option Jvm.ClassFile.FieldType), Jvm.Cond.code ({ cls := "java/util/Arrays", name := "binarySearch0", desc := "([IIII)I" } : Jvm.MethodName) jdk_65_method_59_code (8 : Nat) (Option.some Jvm.ClassFile.FieldType.int), Jvm.Cond.code ({ cls := "com/example/whittle/whittle/engine/WordSets$Meet", name := "members", desc := "()[I" } : Jvm.MethodName) prog_23_method_6_code (1 : Nat) (Option.some (Jvm.ClassFile.FieldType.array Jvm.ClassFile.FieldType.int)), Jvm.Cond.code ({ cls := "com/example/whittle/whittle/engine/WordSets", name := "members", desc := "([I[JI)[I" } : Jvm.MethodName) prog_22_method_4_code (9 : Nat) (Option.some (Jvm.ClassFile.FieldType.array Jvm.ClassFile.FieldType.int)), Jvm.Cond.code ({ cls := "java/lang/Long", name := "bitCount", desc := "(J)I" } : Jvm.MethodName) jdk_35_method_50_code (2 : Nat) (Option.some Jvm.ClassFile.FieldType.int), Jvm.Cond.code ({ cls := "java/lang/Long", name := "numberOfTrailingZeros", desc := "(J)I" } : Jvm.MethodName) jdk_35_method_49_code (3 : Nat) (Option.some Jvm.ClassFile.FieldType.int), Jvm.Cond.code ({ cls := "java/lang/Integer", name := "numberOfTrailingZeros", desc := "(I)I" } : Jvm.MethodName) jdk_33_method_48_code (2 : Nat) (Option.some Jvm.ClassFile.FieldType.int), Jvm.Cond.code ({ cls := "com/example/whittle/whittle/engine/WordSets$Meet", name := "isEmpty", desc := "()Z" } : Jvm.MethodName) prog_23_method_5_code (2 : Nat) (Option.some Jvm.ClassFile.FieldType.boolean)]
set_option maxRecDepth 65536 in
theorem codes_eq : words1.filter isCode = codes1 := rfl
theorem w_codes : ∀ c ∈ words1.filter isCode, c.before args0 about1 = true := by
  rw [codes_eq]
  intro c hc
  simp only [codes1, List.mem_cons, List.not_mem_nil, or_false] at hc
  rcases hc with rfl | rfl | rfl | rfl | rfl | rfl | rfl | rfl | rfl | rfl | rfl | rfl | rfl | rfl | rfl | rfl
  · exact w_c0
  · exact w_c1
  · exact w_c2
  · exact w_c3
  · exact w_c4
  · exact w_c5
  · exact w_c6
  · exact w_c7
  · exact w_c8
  · exact w_c9
  · exact w_c10
  · exact w_c11
  · exact w_c12
  · exact w_c13
  · exact w_c14
  · exact w_c15
set_option maxRecDepth 65536 in
theorem w_t1 : (words1.take 24).all (fun c => isCode c || c.before args0 about1) = true := by decide +kernel
set_option maxRecDepth 65536 in
theorem w_t2 : ((words1.drop 24).take 24).all (fun c => isCode c || c.before args0 about1) = true := by decide +kernel
set_option maxRecDepth 65536 in
theorem w_t3 : (((words1.drop 24).drop 24).take 24).all (fun c => isCode c || c.before args0 about1) = true := by decide +kernel
set_option maxRecDepth 65536 in
theorem w_t4 : (((words1.drop 24).drop 24).drop 24).all (fun c => isCode c || c.before args0 about1) = true := by decide +kernel
theorem w_tables : (allAtoms (Jvm.Cond.code x code maxLocals ret :: tables_1)).before args0 about1 = true := by
  rw [allAtoms_all]
  show words1.all (fun c => c.before args0 about1) = true
  refine all_split ?_ w_codes
  rw [← List.take_append_drop 24 words1, List.all_append, w_t1, ← List.take_append_drop 24 (words1.drop 24), List.all_append, w_t2, ← List.take_append_drop 24 ((words1.drop 24).drop 24), List.all_append, w_t3, w_t4]
  rfl
set_option maxRecDepth 65536 in
theorem w_case : (Jvm.Cond.and given_1 narrow_1).before args0 about1 = true := by decide +kernel
theorem w_applies : (headSpec (Jvm.Cond.code x code maxLocals ret :: tables_1) room_1).applies x e0.platform about1 = true :=
  (Spec.applies_iff w_frames).mpr ⟨w_running, w_runnable, w_alone, w_named, w_hears, w_ripe, w_room, w_tables⟩
theorem atStart : AtStart classFile x code maxLocals ret World_1 tables_1 room_1 Calls_1 rest_1 Pre_1 launch0 p0 e0 about1 theMethod args0 below0 :=
  ⟨lists_1, trivial, launch0.admits_env _ _ _, launch0.least_env, fairChoices_fair.cas, fairChoices_fair.clock, w_frames, w_args, w_heap, w_applies, trivial, trivial, w_case⟩
end start1
theorem witness_1 : WitnessClaimed_1 := ⟨start1.p0, start1.e0, start1.about1, start1.theMethod, start1.args0, start1.below0, start1.atStart⟩
end Jvm.Pilot.@@N@@
