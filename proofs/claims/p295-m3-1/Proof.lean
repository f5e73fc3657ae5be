import JvmDerived
import JvmDerived.Pilot.@@N@@Statement
import JvmDerived.Pilot.@@N@@Code
set_option linter.unusedVariables false
set_option linter.unusedSimpArgs false
namespace Jvm.RoadKit
open Sem ClassFile Op Lib Jvm.Stand Jvm.Free Jvm.LawKit
section New
variable {p : Program} {l : Launch} {e : Env} {R : Room} {s : State} {m : MethodId} {args : Array Value} {below : List Frame} {meth : Method} {c : Code} {T : State} {locs : List Loc} {cells slots : Nat}
theorem retI (X : Stand p l e R s m args below meth c T locs cells slots) (hx : p.tables.exec = Jvm.exec) {pc : Nat} {Ls : Array Slot} {z : Int32} {rest : List Value} (hret : meth.sig.returnType = some .int) (hd : decode c.code pc = .ok (.ireturn, 1)) {fs : List Frame}
    (hl : ∀ (f : JFrame) (acts : List Action), f.method = m → f.locked = none → f.entered = [] → (doReturn e (T.setTop f) acts (some (.int z))).1 = T.setFrames fs) : Steps p.tables e below (T.setTop (mkF m pc Ls (.int z :: rest))) (T.setFrames fs) :=
  retOut X hx hret rfl (Or.inl ⟨rfl, Or.inl rfl, _, rfl⟩) hd hl
theorem fitsRef {C : String} {v : Value} (h : v.isRef = true) : fits (.object C) v = true := by
  rcases ref_cases h with rfl | ⟨_, rfl⟩ <;> rfl
end New
end Jvm.RoadKit
namespace Jvm.Pilot.@@N@@
open Jvm Jvm.ClassFile Sem Op Lib Jvm.Free Jvm.Stand Jvm.LawKit Jvm.RoadKit Bundle Jvm.Pilot.@@N@@.Jvm.D
theorem own_hw {P : Jvm.Cond → Prop} (hw : ∀ d ∈ tables_1, P d) (i : Nat) {d : Jvm.Cond} (h : tables_1[i]? = some d) : P d := hw d (List.mem_of_getElem? h)
abbrev Sg (p : Program) (e : Env) (below : List Frame) (S T : State) : Prop := Steps p.tables e below S T
abbrev Rg (p : Program) (e : Env) (below : List Frame) (A B : State) : Prop := ∀ t, Steps p.tables e below A t → Steps p.tables e below B t
abbrev sI (x : Int32) : Slot := .val (.int x)
abbrev sR (a : Addr) : Slot := .val (.ref a)
abbrev sU : Slot := .unset
abbrev sM : String := "com/example/whittle/whittle/engine/WordSets$Meet"
abbrev sW : String := "com/example/whittle/whittle/engine/WordSets"
theorem own_inb {N : Int32} {n k : Nat} (hN : N = Int32.ofNat n) (hk : k < n) (hb : n ≤ 3) : ¬ (Int32.ofNat k) < 0 ∧ Int32.ofNat k < N := by
  subst hN
  have t : ∀ n : Fin 4, ∀ k : Fin 4, k.val < n.val → ¬ (Int32.ofNat k.val) < 0 ∧ Int32.ofNat k.val < Int32.ofNat n.val := by decide +kernel
  exact t ⟨n, by omega⟩ ⟨k, by omega⟩ hk
def own_sh (x : Int32) : Int32 := (x.toUInt32 >>> ((6 : Int32) &&& 31).toUInt32).toInt32
def own_bit (x : Int32) : Int64 := (1 : Int64) <<< (x &&& 0x3f).toInt64
def own_pl : List Int32 → List Int32
  | [] => []
  | [a] => [own_sh a]
  | [a, b] => if own_sh b = own_sh a then [own_sh a] else [own_sh a, own_sh b]
  | a :: b :: c :: _ => if own_sh b = own_sh a then (if own_sh c = own_sh b then [own_sh a] else [own_sh a, own_sh c]) else (if own_sh c = own_sh b then [own_sh a, own_sh b] else [own_sh a, own_sh b, own_sh c])
def own_wl : List Int32 → List Int64
  | [] => []
  | [a] => [0 ||| own_bit a]
  | [a, b] => if own_sh b = own_sh a then [(0 ||| own_bit a) ||| own_bit b] else [0 ||| own_bit a, 0 ||| own_bit b]
  | a :: b :: c :: _ => if own_sh b = own_sh a then (if own_sh c = own_sh b then [((0 ||| own_bit a) ||| own_bit b) ||| own_bit c] else [(0 ||| own_bit a) ||| own_bit b, 0 ||| own_bit c]) else (if own_sh c = own_sh b then [0 ||| own_bit a, (0 ||| own_bit b) ||| own_bit c] else [0 ||| own_bit a, 0 ||| own_bit b, 0 ||| own_bit c])
def own_found (pl : List Int32) (key r : Int32) : Prop := (∃ i, i < pl.length ∧ r = Int32.ofNat i ∧ pl[i]? = some key) ∨ (r < 0 ∧ key ∉ pl)
def own_rem : List Int32 → List Int64 → Int32 → List Int64
  | p :: ps, w :: ws, m => (if p = own_sh m then w &&& (own_bit m ^^^ (-1)) else w) :: own_rem ps ws m
  | _, ws, _ => ws
theorem own_cons {α : Type} {us : List α} : (1 ≤ us.length → ∃ u0 ur, us = u0 :: ur) ∧ (2 ≤ us.length → ∃ u0 u1 ur, us = u0 :: u1 :: ur) ∧ (3 ≤ us.length → ∃ u0 u1 u2 ur, us = u0 :: u1 :: u2 :: ur) := by
  refine ⟨?_, ?_, ?_⟩
  · rcases us with _ | ⟨a, us⟩ <;> intro h
    · simp at h
    · exact ⟨_, _, rfl⟩
  · rcases us with _ | ⟨a, _ | ⟨b, us⟩⟩ <;> intro h
    · simp at h
    · simp at h
    · exact ⟨_, _, _, rfl⟩
  · rcases us with _ | ⟨a, _ | ⟨b, _ | ⟨c, us⟩⟩⟩ <;> intro h
    · simp at h
    · simp at h
    · simp at h
    · exact ⟨_, _, _, _, rfl⟩
theorem own_lenlt {M : Int32} {n k : Nat} (hM : M = Int32.ofNat n) (hn : n ≤ 3) (hk : k ≤ 3) : M < Int32.ofNat k ↔ n < k := by
  subst hM
  have t : ∀ n : Fin 4, ∀ k : Fin 4, (Int32.ofNat n.val < Int32.ofNat k.val ↔ n.val < k.val) := by decide +kernel
  exact t ⟨n, by omega⟩ ⟨k, by omega⟩
theorem own_fits_arr {t : FieldType} {a : Addr} : fits (.array t) (.ref a) = true := rfl
theorem own_eq3 {a b : Int32} (h1 : ¬ a < b) (h2 : ¬ b < a) : a = b := by
  rw [Int32.lt_iff_toInt_lt] at h1 h2
  exact Int32.toInt_inj.mp (by omega)
theorem own_p2 {a b : Int32} (h : [a, b].Pairwise (· < ·)) : a < b := by simpa using h
theorem own_p3 {a b c : Int32} (h : [a, b, c].Pairwise (· < ·)) : a < b ∧ b < c := by
  simp only [List.pairwise_cons, List.mem_cons, List.not_mem_nil, or_false] at h
  exact ⟨h.1 b (Or.inl rfl), h.2.1 c rfl⟩
theorem own_small : ∀ n : Fin 4, ¬ (Int32.ofNat n.val) < 0 := by decide +kernel
theorem own_lle {pl ur : List Int32} (hm : (pl ++ ur).length ≤ 3) : pl.length ≤ 3 := by simp at hm; omega
theorem own_nneg {cn : Int32} {n : Nat} (hc : cn = Int32.ofNat n) (h : n ≤ 3) : ¬ cn < (0 : Int32) := by subst hc; exact own_small ⟨n, by omega⟩
theorem own_nlt {M cn : Int32} {pl ur : List Int32} (hM : M = Int32.ofNat (pl ++ ur).length) (hc : cn = Int32.ofNat pl.length) (hm : (pl ++ ur).length ≤ 3) : ¬ M < cn := by
  subst hc
  rw [own_lenlt hM hm (own_lle hm)]; simp
theorem own_len0 {α : Type} {l : List α} (h : l.length = 0) : l = [] := List.length_eq_zero_iff.mp h
theorem own_len1 {α : Type} {l : List α} (h : l.length = 1) : ∃ a, l = [a] := List.length_eq_one_iff.mp h
theorem own_len2 {α : Type} {l : List α} (h : l.length = 2) : ∃ a b, l = [a, b] := by
  match l, h with
  | [a, b], _ => exact ⟨a, b, rfl⟩
theorem own_len3 {α : Type} {l : List α} (h : l.length = 3) : ∃ a b c, l = [a, b, c] := by
  match l, h with
  | [a, b, c], _ => exact ⟨a, b, c, rfl⟩
theorem own_hM2 {M : Int32} {pl ur : List Int32} {wv vr : List Int64} (hM : M = Int32.ofNat (pl ++ ur).length) (hl : wv.length = pl.length) (hv : vr.length = ur.length) : M = Int32.ofNat (wv ++ vr).length := by
  rw [hM, List.length_append, List.length_append, hl, hv]
theorem own_hm2 {pl ur : List Int32} {wv vr : List Int64} (hm : (pl ++ ur).length ≤ 3) (hl : wv.length = pl.length) (hv : vr.length = ur.length) : (wv ++ vr).length ≤ 3 := by
  rw [List.length_append] at hm ⊢; omega
theorem own_rem_none {m : Int32} : ∀ {pl : List Int32} {ws : List Int64}, own_sh m ∉ pl → own_rem pl ws m = ws
  | [], ws, _ => by cases ws <;> rfl
  | p :: ps, [], _ => rfl
  | p :: ps, w :: ws, h => by
    rw [own_rem, if_neg (fun e => h (by rw [e]; exact List.mem_cons_self)), own_rem_none (fun z => h (List.mem_cons_of_mem _ z))]
def own_emp : List Int64 → Int32
  | [] => 1
  | y :: ys => if y = 0 then own_emp ys else 0
theorem mvMN {Z s : State} {a0 args : Array Value} {own host : String} {index : Nat} {y : MethodName} (hZ : Z.Warmed39 s.vm) (w : (Cond.methodLinkNest own index y host).before a0 Z = true) : (Cond.methodLinkNest own index y host).before args s = true := (Cond.methodLinkNest_wide hZ w :)
def own_lo (x : Int32) : Int32 := x &&& 0x3f
def own_w (g : List Int32) : Int64 := g.foldl (fun w x => w ||| own_bit x) 0
def own_Ok (p : Int32) (g : List Int32) : Prop := (∀ x ∈ g, own_sh x = p) ∧ g.Pairwise (fun a b => own_lo a < own_lo b)
def own_Rep : List Int32 → List Int64 → List (List Int32) → Prop
  | [], [], [] => True
  | p :: ps, w :: ws, g :: gs => w = own_w g ∧ own_Ok p g ∧ own_Rep ps ws gs
  | _, _, _ => False
theorem own_rep0 {gs : List (List Int32)} (h : own_Rep [] [] gs) : gs = [] := by
  match gs, h with
  | [], _ => rfl
theorem own_rep1 {x : Int32} {y : Int64} {gs : List (List Int32)} (h : own_Rep [x] [y] gs) : ∃ g0, gs = [g0] ∧ y = own_w g0 ∧ own_Ok x g0 := by
  match gs, h with
  | [g0], ⟨h1, h2, _⟩ => exact ⟨g0, rfl, h1, h2⟩
theorem own_rep2 {x x1 : Int32} {y y1 : Int64} {gs : List (List Int32)} (h : own_Rep [x, x1] [y, y1] gs) : ∃ g0 g1, gs = [g0, g1] ∧ y = own_w g0 ∧ own_Ok x g0 ∧ y1 = own_w g1 ∧ own_Ok x1 g1 := by
  match gs, h with
  | [g0, g1], ⟨h1, h2, h3, h4, _⟩ => exact ⟨g0, g1, rfl, h1, h2, h3, h4⟩
theorem own_rep3 {x x1 x2 : Int32} {y y1 y2 : Int64} {gs : List (List Int32)} (h : own_Rep [x, x1, x2] [y, y1, y2] gs) : ∃ g0 g1 g2, gs = [g0, g1, g2] ∧ y = own_w g0 ∧ own_Ok x g0 ∧ y1 = own_w g1 ∧ own_Ok x1 g1 ∧ y2 = own_w g2 ∧ own_Ok x2 g2 := by
  match gs, h with
  | [g0, g1, g2], ⟨h1, h2, h3, h4, h5, h6, _⟩ => exact ⟨g0, g1, g2, rfl, h1, h2, h3, h4, h5, h6⟩
theorem own_bc0 {y : Int64} (h : y = 0) : JP.Long_bitCount_J.val y = 0 := by subst h; decide +kernel
def own_bcN (n : Nat) : Nat :=
  let a := (2 ^ 64 - ((n >>> 1) &&& 6148914691236517205) + n) % 2 ^ 64
  let b := ((a &&& 3689348814741910323) + ((a >>> 2) &&& 3689348814741910323)) % 2 ^ 64
  let c := ((b + (b >>> 4)) % 2 ^ 64) &&& 1085102592571150095
  let d := (c + (c >>> 8)) % 2 ^ 64
  let e := (d + (d >>> 16)) % 2 ^ 64
  let f := (e + (e >>> 32)) % 2 ^ 64
  f % 2 ^ 32 &&& 127
theorem own_u1 (x : Int64) : (XT.ushrL x 1).toBitVec = x.toBitVec >>> 1 := rfl
theorem own_u2 (x : Int64) : (XT.ushrL x 2).toBitVec = x.toBitVec >>> 2 := rfl
theorem own_u4 (x : Int64) : (XT.ushrL x 4).toBitVec = x.toBitVec >>> 4 := rfl
theorem own_u8 (x : Int64) : (XT.ushrL x 8).toBitVec = x.toBitVec >>> 8 := rfl
theorem own_u16 (x : Int64) : (XT.ushrL x 16).toBitVec = x.toBitVec >>> 16 := rfl
theorem own_u32 (x : Int64) : (XT.ushrL x 32).toBitVec = x.toBitVec >>> 32 := rfl
theorem own_ci (z : Int64) : (Int64.toInt32 z).toBitVec.toNat = z.toBitVec.toNat % 2 ^ 32 := by
  rw [Int64.toBitVec_toInt32, BitVec.signExtend_eq_setWidth_of_le _ (by decide), BitVec.toNat_setWidth]
theorem own_bcv (y : Int64) : (JP.Long_bitCount_J.val y).toBitVec.toNat = own_bcN y.toBitVec.toNat := by
  have k1 : (6148914691236517205 : Int64).toBitVec.toNat = 6148914691236517205 := rfl
  have k2 : (3689348814741910323 : Int64).toBitVec.toNat = 3689348814741910323 := rfl
  have k3 : (1085102592571150095 : Int64).toBitVec.toNat = 1085102592571150095 := rfl
  have k4 : (127 : Int32).toBitVec.toNat = 127 := rfl
  unfold JP.Long_bitCount_J.val
  simp only [Int32.toBitVec_and, BitVec.toNat_and, own_ci, Int64.toBitVec_add, BitVec.toNat_add, Int64.toBitVec_and, Int64.toBitVec_sub, BitVec.toNat_sub, own_u1, own_u2, own_u4, own_u8, own_u16, own_u32, BitVec.toNat_ushiftRight, k1, k2, k3, k4, own_bcN]
theorem own_low {w : Int64} {i q : Nat} (h : w.toBitVec.toNat = 2 ^ i * (2 * q + 1)) : JP.Long_numberOfTrailingZeros_J.val w = Int32.ofNat i ∧ (w &&& (w - 1)).toBitVec.toNat = 2 ^ i * (2 * q) ∧ ¬ w = 0 := by
  have hp := Nat.two_pow_pos i
  have hL : JM.Low w.toBitVec.toNat i := by
    constructor
    · rw [h, Nat.mul_mod_right]
    · rw [h, Nat.mul_div_cancel_left _ hp]; omega
  have h1 : 1 ≤ w.toBitVec.toNat := by rw [h]; exact Nat.mul_pos hp (by omega)
  refine ⟨JM.ntz64 hL, ?_, ?_⟩
  · have e1 : (w - 1).toBitVec.toNat = w.toBitVec.toNat - 1 := by
      rw [Int64.toBitVec_sub, BitVec.toNat_sub]
      have : (1 : Int64).toBitVec.toNat = 1 := rfl
      rw [this]
      have := w.toBitVec.isLt
      omega
    rw [Int64.toBitVec_and, BitVec.toNat_and, e1, h]
    have e2 : 2 ^ i * (2 * q + 1) - 1 = 2 ^ i * (2 * q) + (2 ^ i - 1) := by rw [Nat.mul_add]; omega
    rw [e2]
    apply Nat.eq_of_testBit_eq
    intro j
    have a1 := Nat.testBit_two_pow_mul_add (2 * q + 1) (i := i) (b := 0) hp j
    have a2 := Nat.testBit_two_pow_mul_add (2 * q) (i := i) (b := 2 ^ i - 1) (by omega) j
    have a3 := Nat.testBit_two_pow_mul_add (2 * q) (i := i) (b := 0) hp j
    rw [Nat.add_zero] at a1 a3
    rw [Nat.testBit_and, a1, a2, a3]
    by_cases u : j < i
    · simp [u]
    · rw [if_neg u, if_neg u]
      cases hd : j - i with
      | zero => simp
      | succ d =>
        rw [Nat.testBit_succ, Nat.testBit_succ, show (2 * q + 1) / 2 = q from by omega, show 2 * q / 2 = q from by omega]
        simp
        intro _; omega
  · intro e
    rw [e] at h1
    exact absurd h1 (by decide)
theorem own_s2 {i j : Nat} (h : i < j) : 2 ^ i ||| 2 ^ j = 2 ^ i + 2 ^ j := by
  rw [Nat.or_comm, Nat.add_comm]
  have := Nat.two_pow_add_eq_or_of_lt (i := j) (b := 2 ^ i) (Nat.pow_lt_pow_right (by decide) h) 1
  rw [Nat.mul_one] at this; exact this.symm
theorem own_s3 {i j k : Nat} (h : i < j) (h' : j < k) : 2 ^ i + 2 ^ j ||| 2 ^ k = 2 ^ i + 2 ^ j + 2 ^ k := by
  rw [Nat.or_comm, Nat.add_comm _ (2 ^ k)]
  have a : 2 ^ i < 2 ^ j := Nat.pow_lt_pow_right (by decide) h
  have b : 2 ^ (j + 1) ≤ 2 ^ k := Nat.pow_le_pow_right (by decide) h'
  rw [Nat.pow_succ] at b
  have := Nat.two_pow_add_eq_or_of_lt (i := k) (b := 2 ^ i + 2 ^ j) (by omega) 1
  rw [Nat.mul_one] at this; exact this.symm
def own_B (i : Fin 64) : Int64 := (1 : Int64) <<< (Int64.ofNat i.1)
theorem own_Bn : ∀ i : Fin 64, (own_B i).toBitVec.toNat = 2 ^ i.1 := by decide +kernel
set_option maxRecDepth 100000 in
theorem own_bN1 : ∀ i : Fin 64, own_bcN (2 ^ i.1) = 1 := by decide +kernel
set_option maxRecDepth 100000 in
theorem own_bN2 : ∀ i : Fin 64, ∀ j : Fin 64, i < j → own_bcN (2 ^ i.1 + 2 ^ j.1) = 2 := by decide +kernel
set_option maxRecDepth 100000 in
theorem own_bN3 : ∀ i : Fin 64, ∀ j : Fin 64, i < j → ∀ k : Fin 64, j < k → own_bcN (2 ^ i.1 + 2 ^ j.1 + 2 ^ k.1) = 3 := by decide +kernel
theorem own_n1 (i : Fin 64) : ((0 : Int64) ||| own_B i).toBitVec.toNat = 2 ^ i.1 := by
  rw [Int64.toBitVec_or, BitVec.toNat_or, own_Bn, show (0 : Int64).toBitVec.toNat = 0 from rfl, Nat.zero_or]
theorem own_n2 {i j : Fin 64} (h : i < j) : ((0 : Int64) ||| own_B i ||| own_B j).toBitVec.toNat = 2 ^ i.1 + 2 ^ j.1 := by
  rw [Int64.toBitVec_or, BitVec.toNat_or, own_n1, own_Bn, own_s2 h]
theorem own_n3 {i j k : Fin 64} (h : i < j) (h' : j < k) : ((0 : Int64) ||| own_B i ||| own_B j ||| own_B k).toBitVec.toNat = 2 ^ i.1 + 2 ^ j.1 + 2 ^ k.1 := by
  rw [Int64.toBitVec_or, BitVec.toNat_or, own_n2 h, own_Bn, own_s3 h h']
theorem own_pw {i j : Nat} (h : i < j) : 2 ^ j = 2 ^ i * (2 * 2 ^ (j - i - 1)) := by
  rw [← Nat.pow_succ', ← Nat.pow_add]; congr 1; omega
def own_fact (w w' : Int64) (i : Fin 64) (n : Int32) : Prop := JP.Long_bitCount_J.val w = n ∧ ¬ w = 0 ∧ JP.Long_numberOfTrailingZeros_J.val w = Int32.ofNat i.1 ∧ w &&& (w - 1) = w'
theorem own_mkf {w w' : Int64} {i : Fin 64} {n : Int32} {q : Nat} (hb : own_bcN w.toBitVec.toNat = n.toBitVec.toNat) (h : w.toBitVec.toNat = 2 ^ i.1 * (2 * q + 1)) (h' : w'.toBitVec.toNat = 2 ^ i.1 * (2 * q)) : own_fact w w' i n := by
  obtain ⟨a, b, c⟩ := own_low h
  refine ⟨Int32.toBitVec_inj.mp (BitVec.eq_of_toNat_eq ?_), c, a, Int64.toBitVec_inj.mp (BitVec.eq_of_toNat_eq ?_)⟩
  · rw [own_bcv, hb]
  · rw [b, h']
theorem own_k1 (i : Fin 64) : own_fact (0 ||| own_B i) 0 i 1 := by
  refine own_mkf (q := 0) ?_ ?_ ?_
  · rw [own_n1, own_bN1]; rfl
  · rw [own_n1]; omega
  · simp
theorem own_k2 (i j : Fin 64) (h : i < j) : own_fact (0 ||| own_B i ||| own_B j) (0 ||| own_B j) i 2 := by
  refine own_mkf (q := 2 ^ (j.1 - i.1 - 1)) ?_ ?_ ?_
  · rw [own_n2 h, own_bN2 i j h]; rfl
  · rw [own_n2 h, own_pw h, Nat.mul_add]; omega
  · rw [own_n1]; exact own_pw h
theorem own_k3 (i j : Fin 64) (h : i < j) (k : Fin 64) (h' : j < k) : own_fact (0 ||| own_B i ||| own_B j ||| own_B k) (0 ||| own_B j ||| own_B k) i 3 := by
  have h2 : i < k := Nat.lt_trans h h'
  refine own_mkf (q := 2 ^ (j.1 - i.1 - 1) + 2 ^ (k.1 - i.1 - 1)) ?_ ?_ ?_
  · rw [own_n3 h h', own_bN3 i j h k h']; rfl
  · rw [own_n3 h h', own_pw h, own_pw h2, Nat.mul_add, Nat.mul_add, Nat.mul_add]; omega
  · rw [own_n2 h', Nat.mul_add, Nat.mul_add, ← own_pw h, ← own_pw h2]
theorem own_t64 : ∀ i : Fin 64, (Int32.ofNat i.1).toInt64 = Int64.ofNat i.1 := by decide +kernel
theorem own_fin (x : Int32) : ∃ i : Fin 64, own_lo x = Int32.ofNat i.1 ∧ own_bit x = own_B i := by
  have hb : (x &&& 0x3f).toBitVec.toNat < 64 := by
    rw [Int32.toBitVec_and, BitVec.toNat_and]
    exact Nat.lt_of_le_of_lt Nat.and_le_right (by decide)
  have e : x &&& 0x3f = Int32.ofNat (x &&& 0x3f).toBitVec.toNat := by
    apply Int32.toBitVec_inj.mp
    simp
  refine ⟨⟨_, hb⟩, e, ?_⟩
  unfold own_bit own_B
  rw [← own_t64 ⟨_, hb⟩]
  show (1 : Int64) <<< (x &&& 0x3f).toInt64 = (1 : Int64) <<< (Int32.ofNat (x &&& 0x3f).toBitVec.toNat).toInt64
  rw [← e]
theorem own_flt : ∀ i : Fin 64, ∀ j : Fin 64, Int32.ofNat i.1 < Int32.ofNat j.1 → i < j := by decide +kernel
theorem own_join (a : Int32) : (own_sh a <<< ((6 : Int32) &&& 31)) ||| own_lo a = a := by
  apply Int32.toBitVec_inj.mp
  have t : ∀ i : Fin 32, (63#32 : BitVec 32).getLsbD i.1 = decide (i.1 < 6) := by decide
  have e1 : (own_sh a <<< ((6 : Int32) &&& 31)).toBitVec = (a.toBitVec >>> 6) <<< 6 := rfl
  have e2 : (own_lo a).toBitVec = a.toBitVec &&& 63#32 := rfl
  rw [Int32.toBitVec_or, e1, e2]
  apply BitVec.eq_of_getLsbD_eq
  intro i hi
  simp only [BitVec.getLsbD_or, BitVec.getLsbD_shiftLeft, BitVec.getLsbD_ushiftRight, BitVec.getLsbD_and]
  rw [t ⟨i, hi⟩]
  by_cases q : i < 6
  · simp [q]
  · simp [q, hi, show 6 + (i - 6) = i by omega]
theorem own_f1 {p a : Int32} {y : Int64} (hw : y = own_w [a]) (ho : own_Ok p [a]) : JP.Long_bitCount_J.val y = 1 ∧ ¬ y = 0 ∧ JP.Long_numberOfTrailingZeros_J.val y = own_lo a ∧ (p <<< ((6 : Int32) &&& 31)) ||| own_lo a = a ∧ ∃ y' : Int64, y' = y &&& (y - (1 : Int64)) ∧ y' = own_w [] ∧ own_Ok p [] := by
  obtain ⟨i0, l0, b0⟩ := own_fin a
  have hp := ho.2
  have hs := ho.1 a (by simp)
  have hy : y = 0 ||| own_B i0 := by rw [hw, ← b0]; rfl
  rw [hy]
  obtain ⟨r1, r2, r3, r4⟩ := own_k1 i0
  refine ⟨r1, r2, by rw [l0]; exact r3, by rw [← hs]; exact own_join a, _, rfl, ?_, fun x hx => ho.1 x (List.mem_cons_of_mem _ hx), (List.pairwise_cons.mp ho.2).2⟩
  rw [r4]; rfl
theorem own_f2 {p a b : Int32} {y : Int64} (hw : y = own_w [a, b]) (ho : own_Ok p [a, b]) : JP.Long_bitCount_J.val y = 2 ∧ ¬ y = 0 ∧ JP.Long_numberOfTrailingZeros_J.val y = own_lo a ∧ (p <<< ((6 : Int32) &&& 31)) ||| own_lo a = a ∧ ∃ y' : Int64, y' = y &&& (y - (1 : Int64)) ∧ y' = own_w [b] ∧ own_Ok p [b] := by
  obtain ⟨i0, l0, b0⟩ := own_fin a
  obtain ⟨i1, l1, b1⟩ := own_fin b
  have hp := ho.2
  have hs := ho.1 a (by simp)
  simp only [List.pairwise_cons, List.mem_cons, List.not_mem_nil, or_false] at hp
  have o0 := own_flt i0 i1 (by rw [← l0, ← l1]; exact hp.1 b rfl)
  have hy : y = 0 ||| own_B i0 ||| own_B i1 := by rw [hw, ← b0, ← b1]; rfl
  rw [hy]
  obtain ⟨r1, r2, r3, r4⟩ := own_k2 i0 i1 o0
  refine ⟨r1, r2, by rw [l0]; exact r3, by rw [← hs]; exact own_join a, _, rfl, ?_, fun x hx => ho.1 x (List.mem_cons_of_mem _ hx), (List.pairwise_cons.mp ho.2).2⟩
  rw [r4, ← b1]; rfl
theorem own_f3 {p a b c : Int32} {y : Int64} (hw : y = own_w [a, b, c]) (ho : own_Ok p [a, b, c]) : JP.Long_bitCount_J.val y = 3 ∧ ¬ y = 0 ∧ JP.Long_numberOfTrailingZeros_J.val y = own_lo a ∧ (p <<< ((6 : Int32) &&& 31)) ||| own_lo a = a ∧ ∃ y' : Int64, y' = y &&& (y - (1 : Int64)) ∧ y' = own_w [b, c] ∧ own_Ok p [b, c] := by
  obtain ⟨i0, l0, b0⟩ := own_fin a
  obtain ⟨i1, l1, b1⟩ := own_fin b
  obtain ⟨i2, l2, b2⟩ := own_fin c
  have hp := ho.2
  have hs := ho.1 a (by simp)
  simp only [List.pairwise_cons, List.mem_cons, List.not_mem_nil, or_false] at hp
  have o0 := own_flt i0 i1 (by rw [← l0, ← l1]; exact hp.1 b (Or.inl rfl))
  have o1 := own_flt i1 i2 (by rw [← l1, ← l2]; exact hp.2.1 c rfl)
  have hy : y = 0 ||| own_B i0 ||| own_B i1 ||| own_B i2 := by rw [hw, ← b0, ← b1, ← b2]; rfl
  rw [hy]
  obtain ⟨r1, r2, r3, r4⟩ := own_k3 i0 i1 o0 i2 o1
  refine ⟨r1, r2, by rw [l0]; exact r3, by rw [← hs]; exact own_join a, _, rfl, ?_, fun x hx => ho.1 x (List.mem_cons_of_mem _ hx), (List.pairwise_cons.mp ho.2).2⟩
  rw [r4, ← b1, ← b2]; rfl
theorem own_padl (out : List Int32) : ∀ i, ((out ++ [0]).map Value.int).getD i (.int (0 : Int32)) = (out.map Value.int).getD i (.int (0 : Int32)) := by
  have e : (out ++ [0]).map Value.int = out.map Value.int ++ List.replicate 1 (.int (0 : Int32)) := by simp
  rw [e]; exact pad_rep _ _ 1
theorem own_setl (out : List Int32) (z : Int32) : ((out ++ [0]).map Value.int).set out.length (.int z) = (out ++ [z]).map Value.int := by simp
theorem own_ltl (out : List Int32) : out.length < ((out ++ [0]).map Value.int).length := by simp
theorem own_s4 : ∀ n : Fin 4, ∀ k : Fin 4, k < n → (¬ (Int32.ofNat k.val) < 0 ∧ Int32.ofNat k.val < Int32.ofNat n.val) ∧ (Int32.ofNat k.val).toNatClampNeg = k.val := by decide +kernel
theorem own_inb2 {N nx : Int32} {tot : Nat} {out : List Int32} (hN : N = Int32.ofNat tot) (ht : tot ≤ 3) (hnx : nx = Int32.ofNat out.length) (hlt : out.length < tot) : ¬ nx < 0 ∧ nx < N := by
  subst hN hnx; exact (own_s4 ⟨tot, by omega⟩ ⟨out.length, by omega⟩ hlt).1
theorem own_nxn {nx : Int32} {tot : Nat} {out : List Int32} (hnx : nx = Int32.ofNat out.length) (ht : tot ≤ 3) (hlt : out.length < tot) : nx.toNatClampNeg = out.length := by
  subst hnx; exact (own_s4 ⟨tot, by omega⟩ ⟨out.length, by omega⟩ hlt).2
theorem own_nxs {nx x : Int32} {out : List Int32} (h : nx = Int32.ofNat out.length) : nx + (1 : Int32) = Int32.ofNat (out ++ [x]).length := by
  subst h; rw [List.length_append, Int32.ofNat_add]; rfl
theorem own_c4 : ∀ n : Fin 4, (Int32.ofNat n.val).toNatClampNeg ≤ 3 := by decide +kernel
theorem own_capN {N : Int32} {t : Nat} (h : N = Int32.ofNat t) (ht : t ≤ 3) : N.toNatClampNeg ≤ 3 := by subst h; exact own_c4 ⟨t, by omega⟩
theorem own_sum1 (a : Nat) : (0 : Int32) + Int32.ofNat a = Int32.ofNat a := by simp
theorem own_sum2 (a b : Nat) : (0 : Int32) + Int32.ofNat a + Int32.ofNat b = Int32.ofNat (a + b) := by simp [Int32.ofNat_add]
theorem own_sum3 (a b c : Nat) : (0 : Int32) + Int32.ofNat a + Int32.ofNat b + Int32.ofNat c = Int32.ofNat (a + b + c) := by simp [Int32.ofNat_add]
theorem own_fb {p : Int32} {y : Int64} {g : List Int32} (hw : y = own_w g) (ho : own_Ok p g) (h : g.length ≤ 3) : JP.Long_bitCount_J.val y = Int32.ofNat g.length := by
  match g, hw, ho, h with
  | [], hw, _, _ => exact own_bc0 hw
  | [a], hw, ho, _ => exact (own_f1 hw ho).1
  | [a, b], hw, ho, _ => exact (own_f2 hw ho).1
  | [a, b, c], hw, ho, _ => exact (own_f3 hw ho).1
theorem own_clr : ∀ i : Fin 64, ∀ j : Fin 64, own_B i &&& (own_B j ^^^ (-1)) = if i = j then 0 else own_B i := by decide +kernel
theorem own_dist (a b c : Int64) : (a ||| b) &&& c = (a &&& c) ||| (b &&& c) := by
  apply Int64.toBitVec_inj.mp
  simp only [Int64.toBitVec_and, Int64.toBitVec_or]
  apply BitVec.eq_of_getLsbD_eq
  intro i hi
  simp only [BitVec.getLsbD_and, BitVec.getLsbD_or]
  cases a.toBitVec.getLsbD i <;> cases b.toBitVec.getLsbD i <;> cases c.toBitVec.getLsbD i <;> rfl
theorem own_bitclr {x m : Int32} (hs : own_sh x = own_sh m) : own_bit x &&& (own_bit m ^^^ (-1)) = if x = m then 0 else own_bit x := by
  obtain ⟨i, l0, b0⟩ := own_fin x
  obtain ⟨j, l1, b1⟩ := own_fin m
  have t : ∀ i : Fin 64, ∀ j : Fin 64, Int32.ofNat i.1 = Int32.ofNat j.1 → i = j := by decide +kernel
  rw [b0, b1, own_clr]
  by_cases e : i = j
  · have hx : x = m := by rw [← own_join x, ← own_join m, hs, l0, l1, e]
    rw [if_pos e, if_pos hx]
  · have hx : ¬ x = m := fun q => e (t i j (by rw [← l0, ← l1, q]))
    rw [if_neg e, if_neg hx]
theorem own_wrem {m : Int32} : ∀ (g : List Int32) (acc : Int64), (∀ x ∈ g, own_sh x = own_sh m) → (g.foldl (fun w x => w ||| own_bit x) acc) &&& (own_bit m ^^^ (-1)) = (g.filter (fun x => decide (¬ x = m))).foldl (fun w x => w ||| own_bit x) (acc &&& (own_bit m ^^^ (-1)))
  | [], acc, _ => rfl
  | x :: g, acc, h => by
    have hx := own_bitclr (h x List.mem_cons_self)
    rw [List.foldl_cons, own_wrem g _ (fun y hy => h y (List.mem_cons_of_mem _ hy)), own_dist, hx]
    by_cases e : x = m
    · have z : ∀ q : Int64, q ||| 0 = q := fun q => by simp
      rw [if_pos e, z, List.filter_cons_of_neg (by simp [e])]
    · rw [if_neg e, List.filter_cons_of_pos (by simp [e]), List.foldl_cons]
theorem own_w0 (m : Int32) : (0 : Int64) &&& (own_bit m ^^^ (-1)) = 0 := by simp
theorem own_rem_rep {m : Int32} : ∀ {pl : List Int32} {wv : List Int64} {gs : List (List Int32)}, own_Rep pl wv gs → own_Rep pl (own_rem pl wv m) (gs.map (List.filter (fun x => decide (¬ x = m))))
  | [], [], [], _ => trivial
  | p :: ps, w :: ws, g :: gs, ⟨h1, h2, h3⟩ => by
    refine ⟨?_, ⟨fun x hx => h2.1 x (List.mem_filter.mp hx).1, h2.2.filter _⟩, own_rem_rep h3⟩
    by_cases e : p = own_sh m
    · rw [if_pos e, h1]
      have := own_wrem (m := m) g 0 (fun x hx => (h2.1 x hx).trans e)
      rw [own_w0] at this
      exact this
    · rw [if_neg e, h1, List.filter_eq_self.mpr]
      intro x hx
      simp only [decide_eq_true_eq]
      exact fun q => e (by rw [← h2.1 x hx, q])
theorem own_rem_len {m : Int32} : ∀ {pl : List Int32} {wv : List Int64}, (own_rem pl wv m).length = wv.length
  | [], wv => by cases wv <;> rfl
  | p :: ps, [] => rfl
  | p :: ps, w :: ws => by rw [own_rem, List.length_cons, List.length_cons, own_rem_len]
theorem own_fl {P : Int32 → Bool} : ∀ gs : List (List Int32), (gs.map (List.filter P)).flatten = gs.flatten.filter P
  | [] => rfl
  | g :: gs => by rw [List.map_cons, List.flatten_cons, List.flatten_cons, List.filter_append, own_fl gs]
theorem own_capf {P : Int32 → Bool} {gs : List (List Int32)} (h : ∀ g ∈ gs, g.length + gs.length ≤ 4) : ∀ g ∈ gs.map (List.filter P), g.length + (gs.map (List.filter P)).length ≤ 4 := by
  intro g hg
  obtain ⟨g0, h0, rfl⟩ := List.mem_map.mp hg
  have := h g0 h0
  have := List.length_filter_le P g0
  rw [List.length_map]; omega
theorem own_empz : ∀ {pl : List Int32} {wv : List Int64} {gs : List (List Int32)}, own_Rep pl wv gs → (∀ g ∈ gs, g.length ≤ 3) → own_emp wv = if gs.flatten = [] then 1 else 0
  | [], [], [], _, _ => rfl
  | p :: ps, w :: ws, g :: gs, ⟨h1, h2, h3⟩, hc => by
    have hg := hc g List.mem_cons_self
    have ih := own_empz h3 (fun y hy => hc y (List.mem_cons_of_mem _ hy))
    rw [own_emp]
    match g, h1, h2, hg with
    | [], h1, _, _ => rw [if_pos (show w = 0 from h1), ih]; rfl
    | [a], h1, h2, _ => rw [if_neg (own_f1 h1 h2).2.1, if_neg (by simp)]
    | [a, b], h1, h2, _ => rw [if_neg (own_f2 h1 h2).2.1, if_neg (by simp)]
    | [a, b, c], h1, h2, _ => rw [if_neg (own_f3 h1 h2).2.1, if_neg (by simp)]
theorem own_nz {pl : List Int32} {wv : List Int64} {gs : List (List Int32)} : own_Rep pl wv gs → (∀ g ∈ gs, g.length ≤ 3 ∧ ¬ g = []) → ∀ y ∈ wv, ¬ y = (0 : Int64) := by
  induction pl generalizing wv gs with
  | nil =>
    intro h _
    match wv, gs, h with
    | [], [], _ => exact fun y hy => nomatch hy
  | cons p ps ih =>
    intro h hc
    match wv, gs, h with
    | w :: ws, g :: gs, ⟨h1, h2, h3⟩ =>
      intro y hy
      rcases List.mem_cons.mp hy with rfl | hy
      · have hg := hc g List.mem_cons_self
        match g, h1, h2, hg with
        | [], _, _, hg => exact absurd rfl hg.2
        | [a], h1, h2, _ => exact (own_f1 h1 h2).2.1
        | [a, b], h1, h2, _ => exact (own_f2 h1 h2).2.1
        | [a, b, c], h1, h2, _ => exact (own_f3 h1 h2).2.1
      · exact ih h3 (fun z hz => hc z (List.mem_cons_of_mem _ hz)) y hy
theorem own_pos {x : Int32} (h : 0 ≤ x) : x.toInt = (x.toBitVec.toNat : Int) ∧ x.toBitVec.toNat < 2 ^ 31 := by
  rw [Int32.le_iff_toInt_le] at h
  have e0 : (0 : Int32).toInt = 0 := rfl
  rw [e0] at h
  have e : x.toInt = x.toBitVec.toInt := rfl
  rw [e, BitVec.toInt_eq_toNat_cond] at h ⊢
  have := x.toBitVec.isLt
  split at h
  · rename_i q; rw [if_pos q]; exact ⟨rfl, by omega⟩
  · omega
theorem own_shn (x : Int32) : (own_sh x).toBitVec.toNat = x.toBitVec.toNat / 64 := by
  have e : (own_sh x).toBitVec = x.toBitVec >>> 6 := rfl
  rw [e, BitVec.toNat_ushiftRight, Nat.shiftRight_eq_div_pow]
theorem own_lon (x : Int32) : (own_lo x).toBitVec.toNat = x.toBitVec.toNat % 64 := by
  have e : (own_lo x).toBitVec = x.toBitVec &&& 63#32 := rfl
  rw [e, BitVec.toNat_and]
  exact Nat.and_two_pow_sub_one_eq_mod _ 6
theorem own_small2 {x : Int32} (h : x.toBitVec.toNat < 2 ^ 31) : x.toInt = (x.toBitVec.toNat : Int) := by
  have e : x.toInt = x.toBitVec.toInt := rfl
  rw [e, BitVec.toInt_eq_toNat_cond, if_pos (by omega)]
theorem own_shlo {a b : Int32} (h0 : 0 ≤ a) (h : a < b) : (own_sh b = own_sh a → own_lo a < own_lo b) ∧ (¬ own_sh b = own_sh a → own_sh a < own_sh b) := by
  have hb : 0 ≤ b := by rw [Int32.le_iff_toInt_le] at *; rw [Int32.lt_iff_toInt_lt] at h; omega
  obtain ⟨a1, a2⟩ := own_pos h0
  obtain ⟨b1, b2⟩ := own_pos hb
  rw [Int32.lt_iff_toInt_lt, a1, b1] at h
  have sa := own_shn a; have sb := own_shn b; have la := own_lon a; have lb := own_lon b
  constructor
  · intro e
    rw [Int32.lt_iff_toInt_lt, own_small2 (by omega), own_small2 (by omega)]
    have : (own_sh b).toBitVec.toNat = (own_sh a).toBitVec.toNat := by rw [e]
    omega
  · intro e
    rw [Int32.lt_iff_toInt_lt, own_small2 (by omega), own_small2 (by omega)]
    have : ¬ b.toBitVec.toNat / 64 = a.toBitVec.toNat / 64 := fun q => e (Int32.toBitVec_inj.mp (BitVec.eq_of_toNat_eq (by omega)))
    omega
def own_gs (a b c : Int32) : List (List Int32) := if own_sh b = own_sh a then (if own_sh c = own_sh b then [[a, b, c]] else [[a, b], [c]]) else (if own_sh c = own_sh b then [[a], [b, c]] else [[a], [b], [c]])
theorem own_okk {p : Int32} {g : List Int32} (h1 : ∀ x ∈ g, own_sh x = p) (h2 : g.Pairwise (fun a b => own_lo a < own_lo b)) : own_Ok p g := ⟨h1, h2⟩
theorem own_init {a b c : Int32} (h0 : 0 ≤ a) (h1 : a < b) (h2 : b < c) : own_Rep (own_pl [a, b, c]) (own_wl [a, b, c]) (own_gs a b c) ∧ (own_gs a b c).flatten = [a, b, c] ∧ (∀ g ∈ own_gs a b c, g.length + (own_gs a b c).length ≤ 4) ∧ (∀ g ∈ own_gs a b c, g.length ≤ 3 ∧ ¬ g = []) ∧ (own_pl [a, b, c]).Pairwise (· < ·) ∧ (own_wl [a, b, c]).length = (own_pl [a, b, c]).length ∧ 0 < (own_pl [a, b, c]).length ∧ (own_pl [a, b, c]).length ≤ 3 := by
  have hb : 0 ≤ b := by rw [Int32.le_iff_toInt_le] at *; rw [Int32.lt_iff_toInt_lt] at h1; omega
  have hac : a < c := by rw [Int32.lt_iff_toInt_lt] at *; omega
  obtain ⟨l1, s1⟩ := own_shlo h0 h1
  obtain ⟨l2, s2⟩ := own_shlo hb h2
  obtain ⟨l3, s3⟩ := own_shlo h0 hac
  by_cases e1 : own_sh b = own_sh a
  · by_cases e2 : own_sh c = own_sh b
    · rw [show own_pl [a, b, c] = [own_sh a] from (if_pos e1).trans (if_pos e2), show own_wl [a, b, c] = [((0 ||| own_bit a) ||| own_bit b) ||| own_bit c] from (if_pos e1).trans (if_pos e2), show own_gs a b c = [[a, b, c]] from (if_pos e1).trans (if_pos e2)]
      exact ⟨⟨rfl, own_okk (by simp [e1, e2]) (by simp [l1 e1, l2 e2, l3 (e2.trans e1)]), trivial⟩, by simp, by simp, by simp, by simp, by simp, by simp, by simp⟩
    · have e3 : ¬ own_sh c = own_sh a := fun q => e2 (q.trans e1.symm)
      rw [show own_pl [a, b, c] = [own_sh a, own_sh c] from (if_pos e1).trans (if_neg e2), show own_wl [a, b, c] = [(0 ||| own_bit a) ||| own_bit b, 0 ||| own_bit c] from (if_pos e1).trans (if_neg e2), show own_gs a b c = [[a, b], [c]] from (if_pos e1).trans (if_neg e2)]
      exact ⟨⟨rfl, own_okk (by simp [e1]) (by simp [l1 e1]), rfl, own_okk (by simp) (by simp), trivial⟩, by simp, by simp, by simp, by simp [s3 e3], by simp, by simp, by simp⟩
  · by_cases e2 : own_sh c = own_sh b
    · rw [show own_pl [a, b, c] = [own_sh a, own_sh b] from (if_neg e1).trans (if_pos e2), show own_wl [a, b, c] = [0 ||| own_bit a, (0 ||| own_bit b) ||| own_bit c] from (if_neg e1).trans (if_pos e2), show own_gs a b c = [[a], [b, c]] from (if_neg e1).trans (if_pos e2)]
      exact ⟨⟨rfl, own_okk (by simp) (by simp), rfl, own_okk (by simp [e2]) (by simp [l2 e2]), trivial⟩, by simp, by simp, by simp, by simp [s1 e1], by simp, by simp, by simp⟩
    · have s12 := s1 e1; have s23 := s2 e2
      have s13 : own_sh a < own_sh c := by rw [Int32.lt_iff_toInt_lt] at *; omega
      rw [show own_pl [a, b, c] = [own_sh a, own_sh b, own_sh c] from (if_neg e1).trans (if_neg e2), show own_wl [a, b, c] = [0 ||| own_bit a, 0 ||| own_bit b, 0 ||| own_bit c] from (if_neg e1).trans (if_neg e2), show own_gs a b c = [[a], [b], [c]] from (if_neg e1).trans (if_neg e2)]
      exact ⟨⟨rfl, own_okk (by simp) (by simp), rfl, own_okk (by simp) (by simp), rfl, own_okk (by simp) (by simp), trivial⟩, by simp, by simp, by simp, by simp [s12, s13, s23], by simp, by simp, by simp⟩
theorem own_andn (x y : Int32) : (x &&& y).toBitVec.toNat ≤ y.toBitVec.toNat := by
  rw [Int32.toBitVec_and, BitVec.toNat_and]; exact Nat.and_le_right
theorem own_rng3 {p0 g1 g2 a b c : Int32} (ha : a = p0 &&& (1073741823 : Int32)) (h2 : g1.toBitVec.toNat ≤ 268435455) (h3 : g2.toBitVec.toNat ≤ 268435455) (hb : b = a + (1 : Int32) + g1) (hc : c = b + (1 : Int32) + g2) : 0 ≤ a ∧ a < b ∧ b < c := by
  have h1 := own_andn p0 1073741823
  rw [← ha] at h1
  have e1 : (1073741823 : Int32).toBitVec.toNat = 1073741823 := rfl
  have e3 : (1 : Int32).toBitVec.toNat = 1 := rfl
  rw [e1] at h1
  have b1 : b.toBitVec.toNat = a.toBitVec.toNat + 1 + g1.toBitVec.toNat := by
    rw [hb, Int32.toBitVec_add, Int32.toBitVec_add, BitVec.toNat_add, BitVec.toNat_add, e3]; omega
  have c1 : c.toBitVec.toNat = b.toBitVec.toNat + 1 + g2.toBitVec.toNat := by
    rw [hc, Int32.toBitVec_add, Int32.toBitVec_add, BitVec.toNat_add, BitVec.toNat_add, e3]; omega
  have za : (0 : Int32).toInt = 0 := rfl
  refine ⟨?_, ?_, ?_⟩
  · rw [Int32.le_iff_toInt_le, own_small2 (x := a) (by omega), za]; omega
  · rw [Int32.lt_iff_toInt_lt, own_small2 (x := a) (by omega), own_small2 (x := b) (by omega)]; omega
  · rw [Int32.lt_iff_toInt_lt, own_small2 (x := b) (by omega), own_small2 (x := c) (by omega)]; omega
def own_xs (n a b c : Int32) : List Int32 := if n = 0 then [] else if n = 1 then [a] else if n = 2 then [a, b] else [a, b, c]
theorem own_n4 {n p : Int32} (h : n = p &&& (3 : Int32)) : n = 0 ∨ n = 1 ∨ n = 2 ∨ n = 3 := by
  have h1 := own_andn p 3
  rw [← h] at h1
  have e : (3 : Int32).toBitVec.toNat = 3 := rfl
  rw [e] at h1
  have t : n = Int32.ofNat n.toBitVec.toNat := by
    apply Int32.toBitVec_inj.mp
    simp
  have k4 : ∀ k : Fin 4, Int32.ofNat k.1 = 0 ∨ Int32.ofNat k.1 = 1 ∨ Int32.ofNat k.1 = 2 ∨ Int32.ofNat k.1 = 3 := by decide +kernel
  rw [t]
  exact k4 ⟨n.toBitVec.toNat, by omega⟩
theorem own_fx (x r1 r2 : Int32) (L : List Int32) : (((x :: L).filter (fun x => decide (¬ x = r1))).filter (fun x => decide (¬ x = r2))) = (if (¬ x = r1 ∧ ¬ x = r2) then [x] else []) ++ ((L.filter (fun x => decide (¬ x = r1))).filter (fun x => decide (¬ x = r2))) := by
  by_cases h1 : x = r1
  · rw [List.filter_cons_of_neg (by simp [h1]), if_neg (fun z => z.1 h1)]; rfl
  · by_cases h2 : x = r2
    · rw [List.filter_cons_of_pos (by simp [h1]), List.filter_cons_of_neg (by simp [h2]), if_neg (fun z => z.2 h2)]; rfl
    · rw [List.filter_cons_of_pos (by simp [h1]), List.filter_cons_of_pos (by simp [h2]), if_pos ⟨h1, h2⟩]; rfl
theorem own_ifa {p q : Prop} [Decidable p] [Decidable q] {L : List Int32} (h : p) : (if p ∧ q then L else []) = if q then L else [] := by
  by_cases z : q
  · rw [if_pos z, if_pos ⟨h, z⟩]
  · rw [if_neg z, if_neg (fun y => z y.2)]
theorem own_ifn {p q : Prop} [Decidable p] [Decidable q] {L : List Int32} (h : ¬ p) : (if p ∧ q then L else []) = [] := if_neg (fun y => h y.1)
theorem own_m3 {n p a b c r1 r2 : Int32} (hn : n = p &&& (3 : Int32)) : ((own_xs n a b c).filter (fun x => decide (¬ x = r1))).filter (fun x => decide (¬ x = r2)) = (if (¬ n < (1 : Int32) ∧ ¬ a = r1 ∧ ¬ a = r2) then [a] else []) ++ ((if (¬ n < (2 : Int32) ∧ ¬ b = r1 ∧ ¬ b = r2) then [b] else []) ++ (if (¬ n < (3 : Int32) ∧ ¬ c = r1 ∧ ¬ c = r2) then [c] else [])) := by
  rcases own_n4 hn with h | h | h | h <;> clear hn <;> subst h
  · rw [own_ifn (p := ¬ (0 : Int32) < (1 : Int32)) (by decide), own_ifn (p := ¬ (0 : Int32) < (2 : Int32)) (by decide), own_ifn (p := ¬ (0 : Int32) < (3 : Int32)) (by decide), show own_xs 0 a b c = [] from if_pos rfl]; rfl
  · rw [own_ifa (p := ¬ (1 : Int32) < (1 : Int32)) (by decide), own_ifn (p := ¬ (1 : Int32) < (2 : Int32)) (by decide), own_ifn (p := ¬ (1 : Int32) < (3 : Int32)) (by decide), show own_xs 1 a b c = [a] from (if_neg (by decide)).trans (if_pos rfl), own_fx]; rfl
  · rw [own_ifa (p := ¬ (2 : Int32) < (1 : Int32)) (by decide), own_ifa (p := ¬ (2 : Int32) < (2 : Int32)) (by decide), own_ifn (p := ¬ (2 : Int32) < (3 : Int32)) (by decide), show own_xs 2 a b c = [a, b] from (if_neg (by decide)).trans ((if_neg (by decide)).trans (if_pos rfl)), own_fx, own_fx]; rfl
  · rw [own_ifa (p := ¬ (3 : Int32) < (1 : Int32)) (by decide), own_ifa (p := ¬ (3 : Int32) < (2 : Int32)) (by decide), own_ifa (p := ¬ (3 : Int32) < (3 : Int32)) (by decide), show own_xs 3 a b c = [a, b, c] from (if_neg (by decide)).trans ((if_neg (by decide)).trans (if_neg (by decide))), own_fx, own_fx, own_fx, List.filter_nil, List.filter_nil, List.append_nil]
def own_Good (xs : List Int32) : Prop := ∃ gs : List (List Int32), own_Rep (own_pl xs) (own_wl xs) gs ∧ gs.flatten = xs ∧ (∀ g ∈ gs, g.length + gs.length ≤ 4) ∧ (∀ g ∈ gs, g.length ≤ 3 ∧ ¬ g = []) ∧ (own_pl xs).Pairwise (· < ·) ∧ (own_wl xs).length = (own_pl xs).length ∧ (own_pl xs).length ≤ 3
theorem own_good0 : own_Good [] := ⟨[], trivial, rfl, (fun g hg => nomatch hg), (fun g hg => nomatch hg), List.Pairwise.nil, rfl, Nat.zero_le _⟩
theorem own_good1 (a : Int32) : own_Good [a] := by
  refine ⟨[[a]], ⟨rfl, own_okk (by simp) (by simp), trivial⟩, by simp, by simp, by simp, ?_, rfl, ?_⟩
  · show [own_sh a].Pairwise (· < ·)
    simp
  · show [own_sh a].length ≤ 3
    simp
theorem own_good2 {a b : Int32} (h0 : 0 ≤ a) (h1 : a < b) : own_Good [a, b] := by
  obtain ⟨l1, s1⟩ := own_shlo h0 h1
  unfold own_Good
  by_cases e1 : own_sh b = own_sh a
  · rw [show own_pl [a, b] = [own_sh a] from if_pos e1, show own_wl [a, b] = [(0 ||| own_bit a) ||| own_bit b] from if_pos e1]
    exact ⟨[[a, b]], ⟨rfl, own_okk (by simp [e1]) (by simp [l1 e1]), trivial⟩, by simp, by simp, by simp, by simp, by simp, by simp⟩
  · rw [show own_pl [a, b] = [own_sh a, own_sh b] from if_neg e1, show own_wl [a, b] = [0 ||| own_bit a, 0 ||| own_bit b] from if_neg e1]
    exact ⟨[[a], [b]], ⟨rfl, own_okk (by simp) (by simp), rfl, own_okk (by simp) (by simp), trivial⟩, by simp, by simp, by simp, by simp [s1 e1], by simp, by simp⟩
theorem own_pll {n a b c : Int32} : (own_pl (own_xs n a b c)).length ≤ (own_pl [a, b, c]).length := by
  have i0 : 0 < (own_pl [a, b, c]).length := by
    show 0 < (ite _ (ite _ _ _) (ite _ _ _) : List Int32).length
    split <;> split <;> simp
  unfold own_xs
  split
  · exact Nat.zero_le _
  · split
    · exact i0
    · split
      · show (ite _ _ _ : List Int32).length ≤ (ite _ (ite _ _ _) (ite _ _ _) : List Int32).length
        by_cases e1 : own_sh b = own_sh a
        · rw [if_pos e1, if_pos e1]; split <;> simp
        · rw [if_neg e1, if_neg e1]; split <;> simp
      · exact Nat.le_refl _
theorem own_goodx {n a b c : Int32} {ys : List Int32} (hx : ys = own_xs n a b c) (h0 : 0 ≤ a) (h1 : a < b) (h2 : b < c) : own_Good ys ∧ (own_pl ys).length ≤ (own_pl [a, b, c]).length ∧ ys.length ≤ 3 := by
  subst hx
  refine ⟨?_, own_pll, ?_⟩
  · unfold own_xs
    split
    · exact own_good0
    · split
      · exact own_good1 a
      · split
        · exact own_good2 h0 h1
        · obtain ⟨iR, iF, iC, iG, iP, iL, i0, i3⟩ := own_init h0 h1 h2
          exact ⟨_, iR, iF, iC, iG, iP, iL, i3⟩
  · unfold own_xs
    split
    · simp
    · split
      · simp
      · split <;> simp
theorem own_dl {α β : Type} {p u : List α} {q v : List β} (hle : p.length ≤ u.length) (hq : q.length = p.length) (hv : v.length = u.length) : (p ++ u.drop p.length).length = u.length ∧ (v.drop p.length).length = (u.drop p.length).length := by
  rw [List.length_append, List.length_drop, List.length_drop, hv]
  exact ⟨by omega, rfl⟩
theorem own_k3f {f n k a r1 r2 : Int32} (h : f = (if n < k then (0 : Int32) else (if a = r1 then (0 : Int32) else (if a = r2 then (0 : Int32) else (1 : Int32))))) : (¬ f = (0 : Int32) → (¬ n < k ∧ ¬ a = r1 ∧ ¬ a = r2)) ∧ (f = (0 : Int32) → ¬ (¬ n < k ∧ ¬ a = r1 ∧ ¬ a = r2)) := by
  subst h
  by_cases h1 : n < k <;> by_cases h2 : a = r1 <;> by_cases h3 : a = r2 <;> simp [h1, h2, h3]
theorem dp22_1_40 : decode prog_22_method_1_code 40 = .ok (.iload 5, 2) := by decide +kernel
theorem dp22_1_42 : decode prog_22_method_1_code 42 = .ok (.aload_n 3, 1) := by decide +kernel
theorem dp22_1_43 : decode prog_22_method_1_code 43 = .ok (.arraylength, 1) := by decide +kernel
theorem dp22_1_44 : decode prog_22_method_1_code 44 = .ok (.if_icmp .ge 36, 3) := by decide +kernel
theorem dp22_1_47 : decode prog_22_method_1_code 47 = .ok (.iload 5, 2) := by decide +kernel
theorem dp22_1_49 : decode prog_22_method_1_code 49 = .ok (.ifCond .eq 22, 3) := by decide +kernel
theorem dp22_1_52 : decode prog_22_method_1_code 52 = .ok (.aload_n 3, 1) := by decide +kernel
theorem dp22_1_53 : decode prog_22_method_1_code 53 = .ok (.iload 5, 2) := by decide +kernel
theorem dp22_1_55 : decode prog_22_method_1_code 55 = .ok (.iaload, 1) := by decide +kernel
theorem dp22_1_56 : decode prog_22_method_1_code 56 = .ok (.bipush 6, 2) := by decide +kernel
theorem dp22_1_58 : decode prog_22_method_1_code 58 = .ok (.iushr, 1) := by decide +kernel
theorem dp22_1_59 : decode prog_22_method_1_code 59 = .ok (.aload_n 3, 1) := by decide +kernel
theorem dp22_1_60 : decode prog_22_method_1_code 60 = .ok (.iload 5, 2) := by decide +kernel
theorem dp22_1_62 : decode prog_22_method_1_code 62 = .ok (.iconst 1, 1) := by decide +kernel
theorem dp22_1_63 : decode prog_22_method_1_code 63 = .ok (.isub, 1) := by decide +kernel
theorem dp22_1_64 : decode prog_22_method_1_code 64 = .ok (.iaload, 1) := by decide +kernel
theorem dp22_1_65 : decode prog_22_method_1_code 65 = .ok (.bipush 6, 2) := by decide +kernel
theorem dp22_1_67 : decode prog_22_method_1_code 67 = .ok (.iushr, 1) := by decide +kernel
theorem dp22_1_68 : decode prog_22_method_1_code 68 = .ok (.if_icmp .eq 6, 3) := by decide +kernel
theorem dp22_1_71 : decode prog_22_method_1_code 71 = .ok (.iinc 4 1, 3) := by decide +kernel
theorem dp22_1_74 : decode prog_22_method_1_code 74 = .ok (.iinc 5 1, 3) := by decide +kernel
theorem dp22_1_77 : decode prog_22_method_1_code 77 = .ok (.goto (-37), 3) := by decide +kernel
set_option maxRecDepth 65536 in
set_option maxHeartbeats 40000000 in
theorem pc_t1n {p : Program} {l : Launch} {e : Env} {R : Room} {s : State} {m : MethodId} {args : Array Value} {below : List Frame} {meth : Method} {c : Code} {T0 : State} {locs : List Loc} {cells slots : Nat} {Z : State} {a0 : Array Value} {h0 : Heap} {n0 : Nat} (a1 l1 mb : Addr) (kM : ClassId) (sv N cn iv x x' : Int32) (vs : List Value) (g6 g7 g8 : Slot) (X0 : Stand p l e R s m args below meth c T0 locs cells slots) (hx : p.tables.exec = Jvm.exec) (hZ : Z.Warmed39 s.vm) (hw : ∀ d ∈ tables_1, d.before a0 Z = true) (hby : c.code = prog_22_method_1_code) (hml : c.maxLocals = 9) (hown : s.vm.findClass "com/example/whittle/whittle/engine/WordSets" = some m.cls) (e0 : T0.heap = h0) (N0 : Fr n0 locs) (Z0 : n0 ≤ h0.size) (hcc : cells + 0 ≤ R.cells) (hcs : slots + 0 ≤ R.slots) (hfr : 0 ≤ R.frames) (hlo : 0 ≤ R.locals) (AM : Arv Z h0 mb kM .int N vs (.int (0 : Int32))) (hlt : iv < N) (h1 : ¬ iv < 0 ∧ iv < N) (e1 : vs.getD iv.toNatClampNeg (.int (0 : Int32)) = .int x) (hz : ¬ iv = (0 : Int32)) (h2 : ¬ (iv - (1 : Int32)) < 0 ∧ (iv - (1 : Int32)) < N) (e2 : vs.getD (iv - (1 : Int32)).toNatClampNeg (.int (0 : Int32)) = .int x') (hd : ¬ own_sh x = own_sh x') :
    ∃ (T' : State) (h' : Heap) (locs' : List Loc), Stand p l e R s m args below meth c T' locs' (cells + 0) (slots + 0) ∧ T'.heap = h' ∧ Fr n0 locs' ∧ Keep h0 h' [] ∧ ∀ t, Sg p e below (T'.setTop (mkF m 40 #[sR a1, sR l1, sI sv, sR mb, .val (.int (cn + (1 : Int32))), .val (.int (iv + (1 : Int32))), g6, g7, g8] [])) t → Sg p e below (T0.setTop (mkF m 40 #[sR a1, sR l1, sI sv, sR mb, sI cn, sI iv, g6, g7, g8] [])) t := by
  have P0 : ∀ t, Sg p e below (T0.setTop (mkF m 40 #[sR a1, sR l1, sI sv, sR mb, sI cn, sI iv, g6, g7, g8] [])) t → Sg p e below (T0.setTop (mkF m 40 #[sR a1, sR l1, sI sv, sR mb, sI cn, sI iv, g6, g7, g8] [])) t := fun t k => k
  obtain ⟨cl1, Ar1, -, S1, N1, -, -⟩ := id AM
  obtain ⟨cl2, Ar2, -, S2, N2, H2, -⟩ := id AM
  have hin2 : ¬ (iv < 0 ∨ cl2.slots.size ≤ (iv).toNatClampNeg) := inb_of S2 h1
  obtain ⟨cl3, Ar3, -, S3, N3, H3, -⟩ := id AM
  have hin3 : ¬ ((iv - (1 : Int32)) < 0 ∨ cl3.slots.size ≤ ((iv - (1 : Int32))).toNatClampNeg) := inb_of S3 h2
  have P4 : ∀ t, Sg p e below (T0.setTop (mkF m 40 #[sR a1, sR l1, sI sv, sR mb, .val (.int (cn + (1 : Int32))), .val (.int (iv + (1 : Int32))), g6, g7, g8] [])) t → Sg p e below (T0.setTop (mkF m 40 #[sR a1, sR l1, sI sv, sR mb, sI cn, sI iv, g6, g7, g8] [])) t := fun t k => P0 t (by
    refine XS.iload X0.here hx rfl (hb hby dp22_1_40) rfl ?_
    refine XS.aloadN X0.here hx rfl (hb hby dp22_1_42) rfl rfl ?_
    show Sg p e below (T0.setTop (mkF m 43 #[sR a1, sR l1, sI sv, sR mb, sI cn, sI iv, g6, g7, g8] [(.ref mb), (.int iv)])) _
    refine X0.arraylength hx (by rw [e0]; exact Ar1.1) (State.isArrayOf_alike hZ.alike Ar1.2.1) (g := (mkF m 43 #[sR a1, sR l1, sI sv, sR mb, sI cn, sI iv, g6, g7, g8] [(.ref mb), (.int iv)])) rfl rfl (hb hby dp22_1_43) _ ?_
    rw [len_of S1 N1]
    show Sg p e below (T0.setTop (mkF m 44 #[sR a1, sR l1, sI sv, sR mb, sI cn, sI iv, g6, g7, g8] [(.int N), (.int iv)])) _
    refine XS.icmpNo X0.here hx rfl (hb hby dp22_1_44) rfl (tlt (show iv < N from hlt)).2.1 ?_
    refine XS.iload X0.here hx rfl (hb hby dp22_1_47) rfl ?_
    refine XS.ifNo X0.here hx rfl (hb hby dp22_1_49) rfl ((if0 _ _).trans (feq (show ¬ (iv = (0 : Int32)) from hz)).1) ?_
    refine XS.aloadN X0.here hx rfl (hb hby dp22_1_52) rfl rfl ?_
    refine XS.iload X0.here hx rfl (hb hby dp22_1_53) rfl ?_
    show Sg p e below (T0.setTop (mkF m 55 #[sR a1, sR l1, sI sv, sR mb, sI cn, sI iv, g6, g7, g8] [(.int iv), (.ref mb)])) _
    refine X0.iaload hx (j := iv) (v := (.int x)) (by rw [e0]; exact Ar2.1) (State.isArrayOf_alike hZ.alike Ar2.2.1) Ar2.2.2 hin2 (H2.at hin2 e1) (g := (mkF m 55 #[sR a1, sR l1, sI sv, sR mb, sI cn, sI iv, g6, g7, g8] [(.int iv), (.ref mb)])) rfl rfl (hb hby dp22_1_55) _ ?_
    show Sg p e below (T0.setTop (mkF m 56 #[sR a1, sR l1, sI sv, sR mb, sI cn, sI iv, g6, g7, g8] [(.int x)])) _
    refine XS.bipush X0.here hx rfl (hb hby dp22_1_56) ?_
    refine XS.iushr X0.here hx rfl (hb hby dp22_1_58) rfl ?_
    refine XS.aloadN X0.here hx rfl (hb hby dp22_1_59) rfl rfl ?_
    refine XS.iload X0.here hx rfl (hb hby dp22_1_60) rfl ?_
    refine XS.iconst X0.here hx rfl (hb hby dp22_1_62) ?_
    refine XS.isub X0.here hx rfl (hb hby dp22_1_63) rfl ?_
    show Sg p e below (T0.setTop (mkF m 64 #[sR a1, sR l1, sI sv, sR mb, sI cn, sI iv, g6, g7, g8] [(.int (iv - (1 : Int32))), (.ref mb), (.int ((x.toUInt32 >>> ((6 : Int32) &&& 31).toUInt32).toInt32))])) _
    refine X0.iaload hx (j := (iv - (1 : Int32))) (v := (.int x')) (by rw [e0]; exact Ar3.1) (State.isArrayOf_alike hZ.alike Ar3.2.1) Ar3.2.2 hin3 (H3.at hin3 e2) (g := (mkF m 64 #[sR a1, sR l1, sI sv, sR mb, sI cn, sI iv, g6, g7, g8] [(.int (iv - (1 : Int32))), (.ref mb), (.int ((x.toUInt32 >>> ((6 : Int32) &&& 31).toUInt32).toInt32))])) rfl rfl (hb hby dp22_1_64) _ ?_
    show Sg p e below (T0.setTop (mkF m 65 #[sR a1, sR l1, sI sv, sR mb, sI cn, sI iv, g6, g7, g8] [(.int x'), (.int ((x.toUInt32 >>> ((6 : Int32) &&& 31).toUInt32).toInt32))])) _
    refine XS.bipush X0.here hx rfl (hb hby dp22_1_65) ?_
    refine XS.iushr X0.here hx rfl (hb hby dp22_1_67) rfl ?_
    refine XS.icmpNo X0.here hx rfl (hb hby dp22_1_68) rfl (feq (show ¬ (((x.toUInt32 >>> ((6 : Int32) &&& 31).toUInt32).toInt32) = ((x'.toUInt32 >>> ((6 : Int32) &&& 31).toUInt32).toInt32)) from hd)).1 ?_
    refine XS.iinc X0.here hx rfl (hb hby dp22_1_71) rfl (l' := #[sR a1, sR l1, sI sv, sR mb, .val (.int (cn + (1 : Int32))), sI iv, g6, g7, g8]) rfl ?_
    refine XS.iinc X0.here hx rfl (hb hby dp22_1_74) rfl (l' := #[sR a1, sR l1, sI sv, sR mb, .val (.int (cn + (1 : Int32))), .val (.int (iv + (1 : Int32))), g6, g7, g8]) rfl ?_
    refine XS.goto X0.here hx rfl (pc0 := 77) (pc' := 40) rfl (hb hby dp22_1_77) (by decide) (by decide) ?_
    show Sg p e below (T0.setTop (mkF m 40 #[sR a1, sR l1, sI sv, sR mb, .val (.int (cn + (1 : Int32))), .val (.int (iv + (1 : Int32))), g6, g7, g8] [])) _
    exact k)
  exact ⟨T0, h0, _, X0.more (by omega) (by omega), e0, N0, (Keep.refl h0 []), P4⟩
set_option maxRecDepth 65536 in
set_option maxHeartbeats 40000000 in
theorem pc_t1s {p : Program} {l : Launch} {e : Env} {R : Room} {s : State} {m : MethodId} {args : Array Value} {below : List Frame} {meth : Method} {c : Code} {T0 : State} {locs : List Loc} {cells slots : Nat} {Z : State} {a0 : Array Value} {h0 : Heap} {n0 : Nat} (a1 l1 mb : Addr) (kM : ClassId) (sv N cn iv x x' : Int32) (vs : List Value) (g6 g7 g8 : Slot) (X0 : Stand p l e R s m args below meth c T0 locs cells slots) (hx : p.tables.exec = Jvm.exec) (hZ : Z.Warmed39 s.vm) (hw : ∀ d ∈ tables_1, d.before a0 Z = true) (hby : c.code = prog_22_method_1_code) (hml : c.maxLocals = 9) (hown : s.vm.findClass "com/example/whittle/whittle/engine/WordSets" = some m.cls) (e0 : T0.heap = h0) (N0 : Fr n0 locs) (Z0 : n0 ≤ h0.size) (hcc : cells + 0 ≤ R.cells) (hcs : slots + 0 ≤ R.slots) (hfr : 0 ≤ R.frames) (hlo : 0 ≤ R.locals) (AM : Arv Z h0 mb kM .int N vs (.int (0 : Int32))) (hlt : iv < N) (h1 : ¬ iv < 0 ∧ iv < N) (e1 : vs.getD iv.toNatClampNeg (.int (0 : Int32)) = .int x) (hz : ¬ iv = (0 : Int32)) (h2 : ¬ (iv - (1 : Int32)) < 0 ∧ (iv - (1 : Int32)) < N) (e2 : vs.getD (iv - (1 : Int32)).toNatClampNeg (.int (0 : Int32)) = .int x') (hd : own_sh x = own_sh x') :
    ∃ (T' : State) (h' : Heap) (locs' : List Loc), Stand p l e R s m args below meth c T' locs' (cells + 0) (slots + 0) ∧ T'.heap = h' ∧ Fr n0 locs' ∧ Keep h0 h' [] ∧ ∀ t, Sg p e below (T'.setTop (mkF m 40 #[sR a1, sR l1, sI sv, sR mb, sI cn, .val (.int (iv + (1 : Int32))), g6, g7, g8] [])) t → Sg p e below (T0.setTop (mkF m 40 #[sR a1, sR l1, sI sv, sR mb, sI cn, sI iv, g6, g7, g8] [])) t := by
  have P0 : ∀ t, Sg p e below (T0.setTop (mkF m 40 #[sR a1, sR l1, sI sv, sR mb, sI cn, sI iv, g6, g7, g8] [])) t → Sg p e below (T0.setTop (mkF m 40 #[sR a1, sR l1, sI sv, sR mb, sI cn, sI iv, g6, g7, g8] [])) t := fun t k => k
  obtain ⟨cl5, Ar5, -, S5, N5, -, -⟩ := id AM
  obtain ⟨cl6, Ar6, -, S6, N6, H6, -⟩ := id AM
  have hin6 : ¬ (iv < 0 ∨ cl6.slots.size ≤ (iv).toNatClampNeg) := inb_of S6 h1
  obtain ⟨cl7, Ar7, -, S7, N7, H7, -⟩ := id AM
  have hin7 : ¬ ((iv - (1 : Int32)) < 0 ∨ cl7.slots.size ≤ ((iv - (1 : Int32))).toNatClampNeg) := inb_of S7 h2
  have P8 : ∀ t, Sg p e below (T0.setTop (mkF m 40 #[sR a1, sR l1, sI sv, sR mb, sI cn, .val (.int (iv + (1 : Int32))), g6, g7, g8] [])) t → Sg p e below (T0.setTop (mkF m 40 #[sR a1, sR l1, sI sv, sR mb, sI cn, sI iv, g6, g7, g8] [])) t := fun t k => P0 t (by
    refine XS.iload X0.here hx rfl (hb hby dp22_1_40) rfl ?_
    refine XS.aloadN X0.here hx rfl (hb hby dp22_1_42) rfl rfl ?_
    show Sg p e below (T0.setTop (mkF m 43 #[sR a1, sR l1, sI sv, sR mb, sI cn, sI iv, g6, g7, g8] [(.ref mb), (.int iv)])) _
    refine X0.arraylength hx (by rw [e0]; exact Ar5.1) (State.isArrayOf_alike hZ.alike Ar5.2.1) (g := (mkF m 43 #[sR a1, sR l1, sI sv, sR mb, sI cn, sI iv, g6, g7, g8] [(.ref mb), (.int iv)])) rfl rfl (hb hby dp22_1_43) _ ?_
    rw [len_of S5 N5]
    show Sg p e below (T0.setTop (mkF m 44 #[sR a1, sR l1, sI sv, sR mb, sI cn, sI iv, g6, g7, g8] [(.int N), (.int iv)])) _
    refine XS.icmpNo X0.here hx rfl (hb hby dp22_1_44) rfl (tlt (show iv < N from hlt)).2.1 ?_
    refine XS.iload X0.here hx rfl (hb hby dp22_1_47) rfl ?_
    refine XS.ifNo X0.here hx rfl (hb hby dp22_1_49) rfl ((if0 _ _).trans (feq (show ¬ (iv = (0 : Int32)) from hz)).1) ?_
    refine XS.aloadN X0.here hx rfl (hb hby dp22_1_52) rfl rfl ?_
    refine XS.iload X0.here hx rfl (hb hby dp22_1_53) rfl ?_
    show Sg p e below (T0.setTop (mkF m 55 #[sR a1, sR l1, sI sv, sR mb, sI cn, sI iv, g6, g7, g8] [(.int iv), (.ref mb)])) _
    refine X0.iaload hx (j := iv) (v := (.int x)) (by rw [e0]; exact Ar6.1) (State.isArrayOf_alike hZ.alike Ar6.2.1) Ar6.2.2 hin6 (H6.at hin6 e1) (g := (mkF m 55 #[sR a1, sR l1, sI sv, sR mb, sI cn, sI iv, g6, g7, g8] [(.int iv), (.ref mb)])) rfl rfl (hb hby dp22_1_55) _ ?_
    show Sg p e below (T0.setTop (mkF m 56 #[sR a1, sR l1, sI sv, sR mb, sI cn, sI iv, g6, g7, g8] [(.int x)])) _
    refine XS.bipush X0.here hx rfl (hb hby dp22_1_56) ?_
    refine XS.iushr X0.here hx rfl (hb hby dp22_1_58) rfl ?_
    refine XS.aloadN X0.here hx rfl (hb hby dp22_1_59) rfl rfl ?_
    refine XS.iload X0.here hx rfl (hb hby dp22_1_60) rfl ?_
    refine XS.iconst X0.here hx rfl (hb hby dp22_1_62) ?_
    refine XS.isub X0.here hx rfl (hb hby dp22_1_63) rfl ?_
    show Sg p e below (T0.setTop (mkF m 64 #[sR a1, sR l1, sI sv, sR mb, sI cn, sI iv, g6, g7, g8] [(.int (iv - (1 : Int32))), (.ref mb), (.int ((x.toUInt32 >>> ((6 : Int32) &&& 31).toUInt32).toInt32))])) _
    refine X0.iaload hx (j := (iv - (1 : Int32))) (v := (.int x')) (by rw [e0]; exact Ar7.1) (State.isArrayOf_alike hZ.alike Ar7.2.1) Ar7.2.2 hin7 (H7.at hin7 e2) (g := (mkF m 64 #[sR a1, sR l1, sI sv, sR mb, sI cn, sI iv, g6, g7, g8] [(.int (iv - (1 : Int32))), (.ref mb), (.int ((x.toUInt32 >>> ((6 : Int32) &&& 31).toUInt32).toInt32))])) rfl rfl (hb hby dp22_1_64) _ ?_
    show Sg p e below (T0.setTop (mkF m 65 #[sR a1, sR l1, sI sv, sR mb, sI cn, sI iv, g6, g7, g8] [(.int x'), (.int ((x.toUInt32 >>> ((6 : Int32) &&& 31).toUInt32).toInt32))])) _
    refine XS.bipush X0.here hx rfl (hb hby dp22_1_65) ?_
    refine XS.iushr X0.here hx rfl (hb hby dp22_1_67) rfl ?_
    refine XS.icmpYes X0.here hx rfl (pc0 := 68) (pc' := 74) rfl (hb hby dp22_1_68) rfl (teq (show ((x.toUInt32 >>> ((6 : Int32) &&& 31).toUInt32).toInt32) = ((x'.toUInt32 >>> ((6 : Int32) &&& 31).toUInt32).toInt32) from hd)).1 (by decide) (by decide) ?_
    refine XS.iinc X0.here hx rfl (hb hby dp22_1_74) rfl (l' := #[sR a1, sR l1, sI sv, sR mb, sI cn, .val (.int (iv + (1 : Int32))), g6, g7, g8]) rfl ?_
    refine XS.goto X0.here hx rfl (pc0 := 77) (pc' := 40) rfl (hb hby dp22_1_77) (by decide) (by decide) ?_
    show Sg p e below (T0.setTop (mkF m 40 #[sR a1, sR l1, sI sv, sR mb, sI cn, .val (.int (iv + (1 : Int32))), g6, g7, g8] [])) _
    exact k)
  exact ⟨T0, h0, _, X0.more (by omega) (by omega), e0, N0, (Keep.refl h0 []), P8⟩
theorem dp22_1_98 : decode prog_22_method_1_code 98 = .ok (.iload 8, 2) := by decide +kernel
theorem dp22_1_100 : decode prog_22_method_1_code 100 = .ok (.aload_n 3, 1) := by decide +kernel
theorem dp22_1_101 : decode prog_22_method_1_code 101 = .ok (.arraylength, 1) := by decide +kernel
theorem dp22_1_102 : decode prog_22_method_1_code 102 = .ok (.if_icmp .ge 62, 3) := by decide +kernel
theorem dp22_1_105 : decode prog_22_method_1_code 105 = .ok (.iload 8, 2) := by decide +kernel
theorem dp22_1_107 : decode prog_22_method_1_code 107 = .ok (.ifCond .eq 22, 3) := by decide +kernel
theorem dp22_1_129 : decode prog_22_method_1_code 129 = .ok (.aload 5, 2) := by decide +kernel
theorem dp22_1_131 : decode prog_22_method_1_code 131 = .ok (.iinc 7 1, 3) := by decide +kernel
theorem dp22_1_134 : decode prog_22_method_1_code 134 = .ok (.iload 7, 2) := by decide +kernel
theorem dp22_1_136 : decode prog_22_method_1_code 136 = .ok (.aload_n 3, 1) := by decide +kernel
theorem dp22_1_137 : decode prog_22_method_1_code 137 = .ok (.iload 8, 2) := by decide +kernel
theorem dp22_1_139 : decode prog_22_method_1_code 139 = .ok (.iaload, 1) := by decide +kernel
theorem dp22_1_140 : decode prog_22_method_1_code 140 = .ok (.bipush 6, 2) := by decide +kernel
theorem dp22_1_142 : decode prog_22_method_1_code 142 = .ok (.iushr, 1) := by decide +kernel
theorem dp22_1_143 : decode prog_22_method_1_code 143 = .ok (.iastore, 1) := by decide +kernel
theorem dp22_1_144 : decode prog_22_method_1_code 144 = .ok (.aload 6, 2) := by decide +kernel
theorem dp22_1_146 : decode prog_22_method_1_code 146 = .ok (.iload 7, 2) := by decide +kernel
theorem dp22_1_148 : decode prog_22_method_1_code 148 = .ok (.dup2, 1) := by decide +kernel
theorem dp22_1_149 : decode prog_22_method_1_code 149 = .ok (.laload, 1) := by decide +kernel
theorem dp22_1_150 : decode prog_22_method_1_code 150 = .ok (.lconst 1, 1) := by decide +kernel
theorem dp22_1_151 : decode prog_22_method_1_code 151 = .ok (.aload_n 3, 1) := by decide +kernel
theorem dp22_1_152 : decode prog_22_method_1_code 152 = .ok (.iload 8, 2) := by decide +kernel
theorem dp22_1_154 : decode prog_22_method_1_code 154 = .ok (.iaload, 1) := by decide +kernel
theorem dp22_1_155 : decode prog_22_method_1_code 155 = .ok (.lshl, 1) := by decide +kernel
theorem dp22_1_156 : decode prog_22_method_1_code 156 = .ok (.lor, 1) := by decide +kernel
theorem dp22_1_157 : decode prog_22_method_1_code 157 = .ok (.lastore, 1) := by decide +kernel
theorem dp22_1_158 : decode prog_22_method_1_code 158 = .ok (.iinc 8 1, 3) := by decide +kernel
theorem dp22_1_161 : decode prog_22_method_1_code 161 = .ok (.goto (-63), 3) := by decide +kernel
set_option maxRecDepth 65536 in
set_option maxHeartbeats 40000000 in
theorem pc_t2f {p : Program} {l : Launch} {e : Env} {R : Room} {s : State} {m : MethodId} {args : Array Value} {below : List Frame} {meth : Method} {c : Code} {T0 : State} {locs : List Loc} {cells slots : Nat} {Z : State} {a0 : Array Value} {h0 : Heap} {n0 : Nat} (a1 l1 mb P W : Addr) (kM kP kW : ClassId) (sv N M cn x : Int32) (y : Int64) (vs vp vw : List Value) (X0 : Stand p l e R s m args below meth c T0 locs cells slots) (hx : p.tables.exec = Jvm.exec) (hZ : Z.Warmed39 s.vm) (hw : ∀ d ∈ tables_1, d.before a0 Z = true) (hby : c.code = prog_22_method_1_code) (hml : c.maxLocals = 9) (hown : s.vm.findClass "com/example/whittle/whittle/engine/WordSets" = some m.cls) (e0 : T0.heap = h0) (N0 : Fr n0 locs) (Z0 : n0 ≤ h0.size) (hcc : cells + 0 ≤ R.cells) (hcs : slots + 0 ≤ R.slots) (hfr : 0 ≤ R.frames) (hlo : 0 ≤ R.locals) (AM : Arv Z h0 mb kM .int N vs (.int (0 : Int32))) (hlt : (0 : Int32) < N) (h1 : ¬ (0 : Int32) < 0 ∧ (0 : Int32) < N) (e1 : vs.getD (0 : Int32).toNatClampNeg (.int (0 : Int32)) = .int x) (g_P : n0 ≤ P) (g_W : n0 ≤ W) (nMP : mb ≠ P) (nPW : P ≠ W) (AP : Arv Z h0 P kP .int M vp (.int (0 : Int32))) (AW : Arv Z h0 W kW .long M vw (.long (0 : Int64))) (hin : ¬ (0 : Int32) < 0 ∧ (0 : Int32) < M) (hk : (0 : Int32).toNatClampNeg = 0) (hlp : 0 < vp.length) (hlw : 0 < vw.length) (ew : vw.getD (0 : Int32).toNatClampNeg (.long (0 : Int64)) = .long y) :
    ∃ (T' : State) (h' : Heap) (locs' : List Loc), Stand p l e R s m args below meth c T' locs' (cells + 0) (slots + 0) ∧ T'.heap = h' ∧ Fr n0 locs' ∧ Keep h0 h' [P, W] ∧ Arv Z h' P kP .int M (vp.set 0 (.int (own_sh x))) (.int (0 : Int32)) ∧ Arv Z h' W kW .long M (vw.set 0 (.long (y ||| own_bit x))) (.long (0 : Int64)) ∧ ∀ t, Sg p e below (T'.setTop (mkF m 98 #[sR a1, sR l1, sI sv, sR mb, sI cn, sR P, sR W, sI 0, sI 1] [])) t → Sg p e below (T0.setTop (mkF m 98 #[sR a1, sR l1, sI sv, sR mb, sI cn, sR P, sR W, sI (-1), sI 0] [])) t := by
  have P0 : ∀ t, Sg p e below (T0.setTop (mkF m 98 #[sR a1, sR l1, sI sv, sR mb, sI cn, sR P, sR W, sI (-1), sI 0] [])) t → Sg p e below (T0.setTop (mkF m 98 #[sR a1, sR l1, sI sv, sR mb, sI cn, sR P, sR W, sI (-1), sI 0] [])) t := fun t k => k
  obtain ⟨cl9, Ar9, -, S9, N9, -, -⟩ := id AM
  obtain ⟨cl10, Ar10, -, S10, N10, H10, -⟩ := id AM
  have hin10 : ¬ ((0 : Int32) < 0 ∨ cl10.slots.size ≤ ((0 : Int32)).toNatClampNeg) := inb_of S10 h1
  obtain ⟨cl11, Ar11, q11, S11, N11, H11, G11⟩ := id AP
  obtain ⟨T11, h11, X11, e11, W11, st11⟩ := stI X0 hx hZ e0 Ar11 (j := (0 : Int32)) (inb_of S11 hin) (g := (mkF m 143 #[sR a1, sR l1, sI sv, sR mb, sI cn, sR P, sR W, sI 0, sI 0] [(.int ((x.toUInt32 >>> ((6 : Int32) &&& 31).toUInt32).toInt32)), (.int (0 : Int32)), (.ref P)])) rfl rfl (hb hby dp22_1_143)
  have v12 : Arv Z h11 P kP .int M (vp.set 0 (.int ((x.toUInt32 >>> ((6 : Int32) &&& 31).toUInt32).toInt32))) (.int (0 : Int32)) := Arv.set Ar11 q11 S11 N11 H11 G11 rfl W11 0 hk hlp
  have P13 : ∀ t, Sg p e below (T11.setTop (mkF m 144 #[sR a1, sR l1, sI sv, sR mb, sI cn, sR P, sR W, sI 0, sI 0] [])) t → Sg p e below (T0.setTop (mkF m 98 #[sR a1, sR l1, sI sv, sR mb, sI cn, sR P, sR W, sI (-1), sI 0] [])) t := fun t k => P0 t (by
    refine XS.iload X0.here hx rfl (hb hby dp22_1_98) rfl ?_
    refine XS.aloadN X0.here hx rfl (hb hby dp22_1_100) rfl rfl ?_
    show Sg p e below (T0.setTop (mkF m 101 #[sR a1, sR l1, sI sv, sR mb, sI cn, sR P, sR W, sI (-1), sI 0] [(.ref mb), (.int (0 : Int32))])) _
    refine X0.arraylength hx (by rw [e0]; exact Ar9.1) (State.isArrayOf_alike hZ.alike Ar9.2.1) (g := (mkF m 101 #[sR a1, sR l1, sI sv, sR mb, sI cn, sR P, sR W, sI (-1), sI 0] [(.ref mb), (.int (0 : Int32))])) rfl rfl (hb hby dp22_1_101) _ ?_
    rw [len_of S9 N9]
    show Sg p e below (T0.setTop (mkF m 102 #[sR a1, sR l1, sI sv, sR mb, sI cn, sR P, sR W, sI (-1), sI 0] [(.int N), (.int (0 : Int32))])) _
    refine XS.icmpNo X0.here hx rfl (hb hby dp22_1_102) rfl (tlt (show (0 : Int32) < N from hlt)).2.1 ?_
    refine XS.iload X0.here hx rfl (hb hby dp22_1_105) rfl ?_
    refine XS.ifYes X0.here hx rfl (pc0 := 107) (pc' := 129) rfl (hb hby dp22_1_107) rfl ((if0 _ _).trans (teq (show (0 : Int32) = (0 : Int32) from (by decide))).1) (by decide) (by decide) ?_
    refine XS.aload X0.here hx rfl (hb hby dp22_1_129) rfl rfl ?_
    refine XS.iinc X0.here hx rfl (hb hby dp22_1_131) rfl (l' := #[sR a1, sR l1, sI sv, sR mb, sI cn, sR P, sR W, sI 0, sI 0]) rfl ?_
    refine XS.iload X0.here hx rfl (hb hby dp22_1_134) rfl ?_
    refine XS.aloadN X0.here hx rfl (hb hby dp22_1_136) rfl rfl ?_
    refine XS.iload X0.here hx rfl (hb hby dp22_1_137) rfl ?_
    show Sg p e below (T0.setTop (mkF m 139 #[sR a1, sR l1, sI sv, sR mb, sI cn, sR P, sR W, sI 0, sI 0] [(.int (0 : Int32)), (.ref mb), (.int (0 : Int32)), (.ref P)])) _
    refine X0.iaload hx (j := (0 : Int32)) (v := (.int x)) (by rw [e0]; exact Ar10.1) (State.isArrayOf_alike hZ.alike Ar10.2.1) Ar10.2.2 hin10 (H10.at hin10 e1) (g := (mkF m 139 #[sR a1, sR l1, sI sv, sR mb, sI cn, sR P, sR W, sI 0, sI 0] [(.int (0 : Int32)), (.ref mb), (.int (0 : Int32)), (.ref P)])) rfl rfl (hb hby dp22_1_139) _ ?_
    show Sg p e below (T0.setTop (mkF m 140 #[sR a1, sR l1, sI sv, sR mb, sI cn, sR P, sR W, sI 0, sI 0] [(.int x), (.int (0 : Int32)), (.ref P)])) _
    refine XS.bipush X0.here hx rfl (hb hby dp22_1_140) ?_
    refine XS.iushr X0.here hx rfl (hb hby dp22_1_142) rfl ?_
    show Sg p e below (T0.setTop (mkF m 143 #[sR a1, sR l1, sI sv, sR mb, sI cn, sR P, sR W, sI 0, sI 0] [(.int ((x.toUInt32 >>> ((6 : Int32) &&& 31).toUInt32).toInt32)), (.int (0 : Int32)), (.ref P)])) _
    exact st11 _ k)
  have N14 := Fr.snoc X11 N0 g_P
  have Z15 : n0 ≤ h11.size := Nat.le_trans Z0 (Keep.of_wr W11).1
  have K16 : Keep h0 h11 [P, W] := (Keep.refl h0 [P, W]).wr W11 (Or.inl (List.mem_of_getElem? (i := 0) rfl))
  have f17 := (AW.other W11 (Ne.symm nPW))
  obtain ⟨cl18, Ar18, -, S18, N18, H18, -⟩ := id f17
  have hin18 : ¬ ((0 : Int32) < 0 ∨ cl18.slots.size ≤ ((0 : Int32)).toNatClampNeg) := inb_of S18 hin
  have f19 := (AM.other W11 nMP)
  obtain ⟨cl20, Ar20, -, S20, N20, H20, -⟩ := id f19
  have hin20 : ¬ ((0 : Int32) < 0 ∨ cl20.slots.size ≤ ((0 : Int32)).toNatClampNeg) := inb_of S20 h1
  obtain ⟨cl21, Ar21, q21, S21, N21, H21, G21⟩ := id f17
  obtain ⟨T21, h21, X21, e21, W21, st21⟩ := stJ X11 hx hZ e11 Ar21 (j := (0 : Int32)) (inb_of S21 hin) (g := (mkF m 157 #[sR a1, sR l1, sI sv, sR mb, sI cn, sR P, sR W, sI 0, sI 0] [(.long (y ||| ((1 : Int64) <<< (x &&& 0x3f).toInt64))), (.int (0 : Int32)), (.ref W)])) rfl rfl (hb hby dp22_1_157)
  have v22 : Arv Z h21 W kW .long M (vw.set 0 (.long (y ||| ((1 : Int64) <<< (x &&& 0x3f).toInt64)))) (.long (0 : Int64)) := Arv.set Ar21 q21 S21 N21 H21 G21 rfl W21 0 hk hlw
  have P23 : ∀ t, Sg p e below (T21.setTop (mkF m 158 #[sR a1, sR l1, sI sv, sR mb, sI cn, sR P, sR W, sI 0, sI 0] [])) t → Sg p e below (T0.setTop (mkF m 98 #[sR a1, sR l1, sI sv, sR mb, sI cn, sR P, sR W, sI (-1), sI 0] [])) t := fun t k => P13 t (by
    refine XS.aload X11.here hx rfl (hb hby dp22_1_144) rfl rfl ?_
    refine XS.iload X11.here hx rfl (hb hby dp22_1_146) rfl ?_
    refine XT.dup2 X11.here hx rfl (hb hby dp22_1_148) rfl rfl rfl ?_
    show Sg p e below (T11.setTop (mkF m 149 #[sR a1, sR l1, sI sv, sR mb, sI cn, sR P, sR W, sI 0, sI 0] [(.int (0 : Int32)), (.ref W), (.int (0 : Int32)), (.ref W)])) _
    refine X11.laload hx (j := (0 : Int32)) (v := (.long y)) (by rw [e11]; exact Ar18.1) (State.isArrayOf_alike hZ.alike Ar18.2.1) Ar18.2.2 hin18 (H18.at hin18 ew) (g := (mkF m 149 #[sR a1, sR l1, sI sv, sR mb, sI cn, sR P, sR W, sI 0, sI 0] [(.int (0 : Int32)), (.ref W), (.int (0 : Int32)), (.ref W)])) rfl rfl (hb hby dp22_1_149) _ ?_
    show Sg p e below (T11.setTop (mkF m 150 #[sR a1, sR l1, sI sv, sR mb, sI cn, sR P, sR W, sI 0, sI 0] [(.long y), (.int (0 : Int32)), (.ref W)])) _
    refine XS.lconst X11.here hx rfl (hb hby dp22_1_150) ?_
    refine XS.aloadN X11.here hx rfl (hb hby dp22_1_151) rfl rfl ?_
    refine XS.iload X11.here hx rfl (hb hby dp22_1_152) rfl ?_
    show Sg p e below (T11.setTop (mkF m 154 #[sR a1, sR l1, sI sv, sR mb, sI cn, sR P, sR W, sI 0, sI 0] [(.int (0 : Int32)), (.ref mb), (.long (1 : Int64)), (.long y), (.int (0 : Int32)), (.ref W)])) _
    refine X11.iaload hx (j := (0 : Int32)) (v := (.int x)) (by rw [e11]; exact Ar20.1) (State.isArrayOf_alike hZ.alike Ar20.2.1) Ar20.2.2 hin20 (H20.at hin20 e1) (g := (mkF m 154 #[sR a1, sR l1, sI sv, sR mb, sI cn, sR P, sR W, sI 0, sI 0] [(.int (0 : Int32)), (.ref mb), (.long (1 : Int64)), (.long y), (.int (0 : Int32)), (.ref W)])) rfl rfl (hb hby dp22_1_154) _ ?_
    show Sg p e below (T11.setTop (mkF m 155 #[sR a1, sR l1, sI sv, sR mb, sI cn, sR P, sR W, sI 0, sI 0] [(.int x), (.long (1 : Int64)), (.long y), (.int (0 : Int32)), (.ref W)])) _
    refine XS.lshl X11.here hx rfl (hb hby dp22_1_155) rfl ?_
    refine XS.lor X11.here hx rfl (hb hby dp22_1_156) rfl ?_
    show Sg p e below (T11.setTop (mkF m 157 #[sR a1, sR l1, sI sv, sR mb, sI cn, sR P, sR W, sI 0, sI 0] [(.long (y ||| ((1 : Int64) <<< (x &&& 0x3f).toInt64))), (.int (0 : Int32)), (.ref W)])) _
    exact st21 _ k)
  have N24 := Fr.snoc X21 N14 g_W
  have Z25 : n0 ≤ h21.size := Nat.le_trans Z15 (Keep.of_wr W21).1
  have K26 : Keep h0 h21 [P, W] := K16.wr W21 (Or.inl (List.mem_of_getElem? (i := 1) rfl))
  have f27 := (v12.other W21 nPW)
  have P28 : ∀ t, Sg p e below (T21.setTop (mkF m 98 #[sR a1, sR l1, sI sv, sR mb, sI cn, sR P, sR W, sI 0, sI 1] [])) t → Sg p e below (T0.setTop (mkF m 98 #[sR a1, sR l1, sI sv, sR mb, sI cn, sR P, sR W, sI (-1), sI 0] [])) t := fun t k => P23 t (by
    refine XS.iinc X21.here hx rfl (hb hby dp22_1_158) rfl (l' := #[sR a1, sR l1, sI sv, sR mb, sI cn, sR P, sR W, sI 0, sI 1]) rfl ?_
    refine XS.goto X21.here hx rfl (pc0 := 161) (pc' := 98) rfl (hb hby dp22_1_161) (by decide) (by decide) ?_
    show Sg p e below (T21.setTop (mkF m 98 #[sR a1, sR l1, sI sv, sR mb, sI cn, sR P, sR W, sI 0, sI 1] [])) _
    exact k)
  exact ⟨T21, h21, _, X21.more (by omega) (by omega), e21, N24, K26, f27, v22, P28⟩
theorem dp22_1_110 : decode prog_22_method_1_code 110 = .ok (.aload_n 3, 1) := by decide +kernel
theorem dp22_1_111 : decode prog_22_method_1_code 111 = .ok (.iload 8, 2) := by decide +kernel
theorem dp22_1_113 : decode prog_22_method_1_code 113 = .ok (.iaload, 1) := by decide +kernel
theorem dp22_1_114 : decode prog_22_method_1_code 114 = .ok (.bipush 6, 2) := by decide +kernel
theorem dp22_1_116 : decode prog_22_method_1_code 116 = .ok (.iushr, 1) := by decide +kernel
theorem dp22_1_117 : decode prog_22_method_1_code 117 = .ok (.aload_n 3, 1) := by decide +kernel
theorem dp22_1_118 : decode prog_22_method_1_code 118 = .ok (.iload 8, 2) := by decide +kernel
theorem dp22_1_120 : decode prog_22_method_1_code 120 = .ok (.iconst 1, 1) := by decide +kernel
theorem dp22_1_121 : decode prog_22_method_1_code 121 = .ok (.isub, 1) := by decide +kernel
theorem dp22_1_122 : decode prog_22_method_1_code 122 = .ok (.iaload, 1) := by decide +kernel
theorem dp22_1_123 : decode prog_22_method_1_code 123 = .ok (.bipush 6, 2) := by decide +kernel
theorem dp22_1_125 : decode prog_22_method_1_code 125 = .ok (.iushr, 1) := by decide +kernel
theorem dp22_1_126 : decode prog_22_method_1_code 126 = .ok (.if_icmp .eq 18, 3) := by decide +kernel
set_option maxRecDepth 65536 in
set_option maxHeartbeats 40000000 in
theorem pc_t2n {p : Program} {l : Launch} {e : Env} {R : Room} {s : State} {m : MethodId} {args : Array Value} {below : List Frame} {meth : Method} {c : Code} {T0 : State} {locs : List Loc} {cells slots : Nat} {Z : State} {a0 : Array Value} {h0 : Heap} {n0 : Nat} (a1 l1 mb P W : Addr) (kM kP kW : ClassId) (sv N M cn x : Int32) (av iv x' : Int32) (y : Int64) (vs vp vw : List Value) (kk : Nat) (X0 : Stand p l e R s m args below meth c T0 locs cells slots) (hx : p.tables.exec = Jvm.exec) (hZ : Z.Warmed39 s.vm) (hw : ∀ d ∈ tables_1, d.before a0 Z = true) (hby : c.code = prog_22_method_1_code) (hml : c.maxLocals = 9) (hown : s.vm.findClass "com/example/whittle/whittle/engine/WordSets" = some m.cls) (e0 : T0.heap = h0) (N0 : Fr n0 locs) (Z0 : n0 ≤ h0.size) (hcc : cells + 0 ≤ R.cells) (hcs : slots + 0 ≤ R.slots) (hfr : 0 ≤ R.frames) (hlo : 0 ≤ R.locals) (AM : Arv Z h0 mb kM .int N vs (.int (0 : Int32))) (hlt : iv < N) (h1 : ¬ iv < 0 ∧ iv < N) (e1 : vs.getD iv.toNatClampNeg (.int (0 : Int32)) = .int x) (hz : ¬ iv = (0 : Int32)) (h2 : ¬ (iv - (1 : Int32)) < 0 ∧ (iv - (1 : Int32)) < N) (e2 : vs.getD (iv - (1 : Int32)).toNatClampNeg (.int (0 : Int32)) = .int x') (hd : ¬ own_sh x = own_sh x') (g_P : n0 ≤ P) (g_W : n0 ≤ W) (nMP : mb ≠ P) (nPW : P ≠ W) (AP : Arv Z h0 P kP .int M vp (.int (0 : Int32))) (AW : Arv Z h0 W kW .long M vw (.long (0 : Int64))) (hin : ¬ (av + (1 : Int32)) < 0 ∧ (av + (1 : Int32)) < M) (hk : (av + (1 : Int32)).toNatClampNeg = kk) (hlp : kk < vp.length) (hlw : kk < vw.length) (ew : vw.getD (av + (1 : Int32)).toNatClampNeg (.long (0 : Int64)) = .long y) :
    ∃ (T' : State) (h' : Heap) (locs' : List Loc), Stand p l e R s m args below meth c T' locs' (cells + 0) (slots + 0) ∧ T'.heap = h' ∧ Fr n0 locs' ∧ Keep h0 h' [P, W] ∧ Arv Z h' P kP .int M (vp.set kk (.int (own_sh x))) (.int (0 : Int32)) ∧ Arv Z h' W kW .long M (vw.set kk (.long (y ||| own_bit x))) (.long (0 : Int64)) ∧ ∀ t, Sg p e below (T'.setTop (mkF m 98 #[sR a1, sR l1, sI sv, sR mb, sI cn, sR P, sR W, .val (.int (av + (1 : Int32))), .val (.int (iv + (1 : Int32)))] [])) t → Sg p e below (T0.setTop (mkF m 98 #[sR a1, sR l1, sI sv, sR mb, sI cn, sR P, sR W, sI av, sI iv] [])) t := by
  have P0 : ∀ t, Sg p e below (T0.setTop (mkF m 98 #[sR a1, sR l1, sI sv, sR mb, sI cn, sR P, sR W, sI av, sI iv] [])) t → Sg p e below (T0.setTop (mkF m 98 #[sR a1, sR l1, sI sv, sR mb, sI cn, sR P, sR W, sI av, sI iv] [])) t := fun t k => k
  obtain ⟨cl29, Ar29, -, S29, N29, -, -⟩ := id AM
  obtain ⟨cl30, Ar30, -, S30, N30, H30, -⟩ := id AM
  have hin30 : ¬ (iv < 0 ∨ cl30.slots.size ≤ (iv).toNatClampNeg) := inb_of S30 h1
  obtain ⟨cl31, Ar31, -, S31, N31, H31, -⟩ := id AM
  have hin31 : ¬ ((iv - (1 : Int32)) < 0 ∨ cl31.slots.size ≤ ((iv - (1 : Int32))).toNatClampNeg) := inb_of S31 h2
  obtain ⟨cl32, Ar32, -, S32, N32, H32, -⟩ := id AM
  have hin32 : ¬ (iv < 0 ∨ cl32.slots.size ≤ (iv).toNatClampNeg) := inb_of S32 h1
  obtain ⟨cl33, Ar33, q33, S33, N33, H33, G33⟩ := id AP
  obtain ⟨T33, h33, X33, e33, W33, st33⟩ := stI X0 hx hZ e0 Ar33 (j := (av + (1 : Int32))) (inb_of S33 hin) (g := (mkF m 143 #[sR a1, sR l1, sI sv, sR mb, sI cn, sR P, sR W, .val (.int (av + (1 : Int32))), sI iv] [(.int ((x.toUInt32 >>> ((6 : Int32) &&& 31).toUInt32).toInt32)), (.int (av + (1 : Int32))), (.ref P)])) rfl rfl (hb hby dp22_1_143)
  have v34 : Arv Z h33 P kP .int M (vp.set kk (.int ((x.toUInt32 >>> ((6 : Int32) &&& 31).toUInt32).toInt32))) (.int (0 : Int32)) := Arv.set Ar33 q33 S33 N33 H33 G33 rfl W33 kk hk hlp
  have P35 : ∀ t, Sg p e below (T33.setTop (mkF m 144 #[sR a1, sR l1, sI sv, sR mb, sI cn, sR P, sR W, .val (.int (av + (1 : Int32))), sI iv] [])) t → Sg p e below (T0.setTop (mkF m 98 #[sR a1, sR l1, sI sv, sR mb, sI cn, sR P, sR W, sI av, sI iv] [])) t := fun t k => P0 t (by
    refine XS.iload X0.here hx rfl (hb hby dp22_1_98) rfl ?_
    refine XS.aloadN X0.here hx rfl (hb hby dp22_1_100) rfl rfl ?_
    show Sg p e below (T0.setTop (mkF m 101 #[sR a1, sR l1, sI sv, sR mb, sI cn, sR P, sR W, sI av, sI iv] [(.ref mb), (.int iv)])) _
    refine X0.arraylength hx (by rw [e0]; exact Ar29.1) (State.isArrayOf_alike hZ.alike Ar29.2.1) (g := (mkF m 101 #[sR a1, sR l1, sI sv, sR mb, sI cn, sR P, sR W, sI av, sI iv] [(.ref mb), (.int iv)])) rfl rfl (hb hby dp22_1_101) _ ?_
    rw [len_of S29 N29]
    show Sg p e below (T0.setTop (mkF m 102 #[sR a1, sR l1, sI sv, sR mb, sI cn, sR P, sR W, sI av, sI iv] [(.int N), (.int iv)])) _
    refine XS.icmpNo X0.here hx rfl (hb hby dp22_1_102) rfl (tlt (show iv < N from hlt)).2.1 ?_
    refine XS.iload X0.here hx rfl (hb hby dp22_1_105) rfl ?_
    refine XS.ifNo X0.here hx rfl (hb hby dp22_1_107) rfl ((if0 _ _).trans (feq (show ¬ (iv = (0 : Int32)) from hz)).1) ?_
    refine XS.aloadN X0.here hx rfl (hb hby dp22_1_110) rfl rfl ?_
    refine XS.iload X0.here hx rfl (hb hby dp22_1_111) rfl ?_
    show Sg p e below (T0.setTop (mkF m 113 #[sR a1, sR l1, sI sv, sR mb, sI cn, sR P, sR W, sI av, sI iv] [(.int iv), (.ref mb)])) _
    refine X0.iaload hx (j := iv) (v := (.int x)) (by rw [e0]; exact Ar30.1) (State.isArrayOf_alike hZ.alike Ar30.2.1) Ar30.2.2 hin30 (H30.at hin30 e1) (g := (mkF m 113 #[sR a1, sR l1, sI sv, sR mb, sI cn, sR P, sR W, sI av, sI iv] [(.int iv), (.ref mb)])) rfl rfl (hb hby dp22_1_113) _ ?_
    show Sg p e below (T0.setTop (mkF m 114 #[sR a1, sR l1, sI sv, sR mb, sI cn, sR P, sR W, sI av, sI iv] [(.int x)])) _
    refine XS.bipush X0.here hx rfl (hb hby dp22_1_114) ?_
    refine XS.iushr X0.here hx rfl (hb hby dp22_1_116) rfl ?_
    refine XS.aloadN X0.here hx rfl (hb hby dp22_1_117) rfl rfl ?_
    refine XS.iload X0.here hx rfl (hb hby dp22_1_118) rfl ?_
    refine XS.iconst X0.here hx rfl (hb hby dp22_1_120) ?_
    refine XS.isub X0.here hx rfl (hb hby dp22_1_121) rfl ?_
    show Sg p e below (T0.setTop (mkF m 122 #[sR a1, sR l1, sI sv, sR mb, sI cn, sR P, sR W, sI av, sI iv] [(.int (iv - (1 : Int32))), (.ref mb), (.int ((x.toUInt32 >>> ((6 : Int32) &&& 31).toUInt32).toInt32))])) _
    refine X0.iaload hx (j := (iv - (1 : Int32))) (v := (.int x')) (by rw [e0]; exact Ar31.1) (State.isArrayOf_alike hZ.alike Ar31.2.1) Ar31.2.2 hin31 (H31.at hin31 e2) (g := (mkF m 122 #[sR a1, sR l1, sI sv, sR mb, sI cn, sR P, sR W, sI av, sI iv] [(.int (iv - (1 : Int32))), (.ref mb), (.int ((x.toUInt32 >>> ((6 : Int32) &&& 31).toUInt32).toInt32))])) rfl rfl (hb hby dp22_1_122) _ ?_
    show Sg p e below (T0.setTop (mkF m 123 #[sR a1, sR l1, sI sv, sR mb, sI cn, sR P, sR W, sI av, sI iv] [(.int x'), (.int ((x.toUInt32 >>> ((6 : Int32) &&& 31).toUInt32).toInt32))])) _
    refine XS.bipush X0.here hx rfl (hb hby dp22_1_123) ?_
    refine XS.iushr X0.here hx rfl (hb hby dp22_1_125) rfl ?_
    refine XS.icmpNo X0.here hx rfl (hb hby dp22_1_126) rfl (feq (show ¬ (((x.toUInt32 >>> ((6 : Int32) &&& 31).toUInt32).toInt32) = ((x'.toUInt32 >>> ((6 : Int32) &&& 31).toUInt32).toInt32)) from hd)).1 ?_
    refine XS.aload X0.here hx rfl (hb hby dp22_1_129) rfl rfl ?_
    refine XS.iinc X0.here hx rfl (hb hby dp22_1_131) rfl (l' := #[sR a1, sR l1, sI sv, sR mb, sI cn, sR P, sR W, .val (.int (av + (1 : Int32))), sI iv]) rfl ?_
    refine XS.iload X0.here hx rfl (hb hby dp22_1_134) rfl ?_
    refine XS.aloadN X0.here hx rfl (hb hby dp22_1_136) rfl rfl ?_
    refine XS.iload X0.here hx rfl (hb hby dp22_1_137) rfl ?_
    show Sg p e below (T0.setTop (mkF m 139 #[sR a1, sR l1, sI sv, sR mb, sI cn, sR P, sR W, .val (.int (av + (1 : Int32))), sI iv] [(.int iv), (.ref mb), (.int (av + (1 : Int32))), (.ref P)])) _
    refine X0.iaload hx (j := iv) (v := (.int x)) (by rw [e0]; exact Ar32.1) (State.isArrayOf_alike hZ.alike Ar32.2.1) Ar32.2.2 hin32 (H32.at hin32 e1) (g := (mkF m 139 #[sR a1, sR l1, sI sv, sR mb, sI cn, sR P, sR W, .val (.int (av + (1 : Int32))), sI iv] [(.int iv), (.ref mb), (.int (av + (1 : Int32))), (.ref P)])) rfl rfl (hb hby dp22_1_139) _ ?_
    show Sg p e below (T0.setTop (mkF m 140 #[sR a1, sR l1, sI sv, sR mb, sI cn, sR P, sR W, .val (.int (av + (1 : Int32))), sI iv] [(.int x), (.int (av + (1 : Int32))), (.ref P)])) _
    refine XS.bipush X0.here hx rfl (hb hby dp22_1_140) ?_
    refine XS.iushr X0.here hx rfl (hb hby dp22_1_142) rfl ?_
    show Sg p e below (T0.setTop (mkF m 143 #[sR a1, sR l1, sI sv, sR mb, sI cn, sR P, sR W, .val (.int (av + (1 : Int32))), sI iv] [(.int ((x.toUInt32 >>> ((6 : Int32) &&& 31).toUInt32).toInt32)), (.int (av + (1 : Int32))), (.ref P)])) _
    exact st33 _ k)
  have N36 := Fr.snoc X33 N0 g_P
  have Z37 : n0 ≤ h33.size := Nat.le_trans Z0 (Keep.of_wr W33).1
  have K38 : Keep h0 h33 [P, W] := (Keep.refl h0 [P, W]).wr W33 (Or.inl (List.mem_of_getElem? (i := 0) rfl))
  have f39 := (AW.other W33 (Ne.symm nPW))
  obtain ⟨cl40, Ar40, -, S40, N40, H40, -⟩ := id f39
  have hin40 : ¬ ((av + (1 : Int32)) < 0 ∨ cl40.slots.size ≤ ((av + (1 : Int32))).toNatClampNeg) := inb_of S40 hin
  have f41 := (AM.other W33 nMP)
  obtain ⟨cl42, Ar42, -, S42, N42, H42, -⟩ := id f41
  have hin42 : ¬ (iv < 0 ∨ cl42.slots.size ≤ (iv).toNatClampNeg) := inb_of S42 h1
  obtain ⟨cl43, Ar43, q43, S43, N43, H43, G43⟩ := id f39
  obtain ⟨T43, h43, X43, e43, W43, st43⟩ := stJ X33 hx hZ e33 Ar43 (j := (av + (1 : Int32))) (inb_of S43 hin) (g := (mkF m 157 #[sR a1, sR l1, sI sv, sR mb, sI cn, sR P, sR W, .val (.int (av + (1 : Int32))), sI iv] [(.long (y ||| ((1 : Int64) <<< (x &&& 0x3f).toInt64))), (.int (av + (1 : Int32))), (.ref W)])) rfl rfl (hb hby dp22_1_157)
  have v44 : Arv Z h43 W kW .long M (vw.set kk (.long (y ||| ((1 : Int64) <<< (x &&& 0x3f).toInt64)))) (.long (0 : Int64)) := Arv.set Ar43 q43 S43 N43 H43 G43 rfl W43 kk hk hlw
  have P45 : ∀ t, Sg p e below (T43.setTop (mkF m 158 #[sR a1, sR l1, sI sv, sR mb, sI cn, sR P, sR W, .val (.int (av + (1 : Int32))), sI iv] [])) t → Sg p e below (T0.setTop (mkF m 98 #[sR a1, sR l1, sI sv, sR mb, sI cn, sR P, sR W, sI av, sI iv] [])) t := fun t k => P35 t (by
    refine XS.aload X33.here hx rfl (hb hby dp22_1_144) rfl rfl ?_
    refine XS.iload X33.here hx rfl (hb hby dp22_1_146) rfl ?_
    refine XT.dup2 X33.here hx rfl (hb hby dp22_1_148) rfl rfl rfl ?_
    show Sg p e below (T33.setTop (mkF m 149 #[sR a1, sR l1, sI sv, sR mb, sI cn, sR P, sR W, .val (.int (av + (1 : Int32))), sI iv] [(.int (av + (1 : Int32))), (.ref W), (.int (av + (1 : Int32))), (.ref W)])) _
    refine X33.laload hx (j := (av + (1 : Int32))) (v := (.long y)) (by rw [e33]; exact Ar40.1) (State.isArrayOf_alike hZ.alike Ar40.2.1) Ar40.2.2 hin40 (H40.at hin40 ew) (g := (mkF m 149 #[sR a1, sR l1, sI sv, sR mb, sI cn, sR P, sR W, .val (.int (av + (1 : Int32))), sI iv] [(.int (av + (1 : Int32))), (.ref W), (.int (av + (1 : Int32))), (.ref W)])) rfl rfl (hb hby dp22_1_149) _ ?_
    show Sg p e below (T33.setTop (mkF m 150 #[sR a1, sR l1, sI sv, sR mb, sI cn, sR P, sR W, .val (.int (av + (1 : Int32))), sI iv] [(.long y), (.int (av + (1 : Int32))), (.ref W)])) _
    refine XS.lconst X33.here hx rfl (hb hby dp22_1_150) ?_
    refine XS.aloadN X33.here hx rfl (hb hby dp22_1_151) rfl rfl ?_
    refine XS.iload X33.here hx rfl (hb hby dp22_1_152) rfl ?_
    show Sg p e below (T33.setTop (mkF m 154 #[sR a1, sR l1, sI sv, sR mb, sI cn, sR P, sR W, .val (.int (av + (1 : Int32))), sI iv] [(.int iv), (.ref mb), (.long (1 : Int64)), (.long y), (.int (av + (1 : Int32))), (.ref W)])) _
    refine X33.iaload hx (j := iv) (v := (.int x)) (by rw [e33]; exact Ar42.1) (State.isArrayOf_alike hZ.alike Ar42.2.1) Ar42.2.2 hin42 (H42.at hin42 e1) (g := (mkF m 154 #[sR a1, sR l1, sI sv, sR mb, sI cn, sR P, sR W, .val (.int (av + (1 : Int32))), sI iv] [(.int iv), (.ref mb), (.long (1 : Int64)), (.long y), (.int (av + (1 : Int32))), (.ref W)])) rfl rfl (hb hby dp22_1_154) _ ?_
    show Sg p e below (T33.setTop (mkF m 155 #[sR a1, sR l1, sI sv, sR mb, sI cn, sR P, sR W, .val (.int (av + (1 : Int32))), sI iv] [(.int x), (.long (1 : Int64)), (.long y), (.int (av + (1 : Int32))), (.ref W)])) _
    refine XS.lshl X33.here hx rfl (hb hby dp22_1_155) rfl ?_
    refine XS.lor X33.here hx rfl (hb hby dp22_1_156) rfl ?_
    show Sg p e below (T33.setTop (mkF m 157 #[sR a1, sR l1, sI sv, sR mb, sI cn, sR P, sR W, .val (.int (av + (1 : Int32))), sI iv] [(.long (y ||| ((1 : Int64) <<< (x &&& 0x3f).toInt64))), (.int (av + (1 : Int32))), (.ref W)])) _
    exact st43 _ k)
  have N46 := Fr.snoc X43 N36 g_W
  have Z47 : n0 ≤ h43.size := Nat.le_trans Z37 (Keep.of_wr W43).1
  have K48 : Keep h0 h43 [P, W] := K38.wr W43 (Or.inl (List.mem_of_getElem? (i := 1) rfl))
  have f49 := (v34.other W43 nPW)
  have P50 : ∀ t, Sg p e below (T43.setTop (mkF m 98 #[sR a1, sR l1, sI sv, sR mb, sI cn, sR P, sR W, .val (.int (av + (1 : Int32))), .val (.int (iv + (1 : Int32)))] [])) t → Sg p e below (T0.setTop (mkF m 98 #[sR a1, sR l1, sI sv, sR mb, sI cn, sR P, sR W, sI av, sI iv] [])) t := fun t k => P45 t (by
    refine XS.iinc X43.here hx rfl (hb hby dp22_1_158) rfl (l' := #[sR a1, sR l1, sI sv, sR mb, sI cn, sR P, sR W, .val (.int (av + (1 : Int32))), .val (.int (iv + (1 : Int32)))]) rfl ?_
    refine XS.goto X43.here hx rfl (pc0 := 161) (pc' := 98) rfl (hb hby dp22_1_161) (by decide) (by decide) ?_
    show Sg p e below (T43.setTop (mkF m 98 #[sR a1, sR l1, sI sv, sR mb, sI cn, sR P, sR W, .val (.int (av + (1 : Int32))), .val (.int (iv + (1 : Int32)))] [])) _
    exact k)
  exact ⟨T43, h43, _, X43.more (by omega) (by omega), e43, N46, K48, f49, v44, P50⟩
set_option maxRecDepth 65536 in
set_option maxHeartbeats 40000000 in
theorem pc_t2s {p : Program} {l : Launch} {e : Env} {R : Room} {s : State} {m : MethodId} {args : Array Value} {below : List Frame} {meth : Method} {c : Code} {T0 : State} {locs : List Loc} {cells slots : Nat} {Z : State} {a0 : Array Value} {h0 : Heap} {n0 : Nat} (a1 l1 mb P W : Addr) (kM kP kW : ClassId) (sv N M cn x : Int32) (av iv x' : Int32) (y : Int64) (vs vp vw : List Value) (kk : Nat) (X0 : Stand p l e R s m args below meth c T0 locs cells slots) (hx : p.tables.exec = Jvm.exec) (hZ : Z.Warmed39 s.vm) (hw : ∀ d ∈ tables_1, d.before a0 Z = true) (hby : c.code = prog_22_method_1_code) (hml : c.maxLocals = 9) (hown : s.vm.findClass "com/example/whittle/whittle/engine/WordSets" = some m.cls) (e0 : T0.heap = h0) (N0 : Fr n0 locs) (Z0 : n0 ≤ h0.size) (hcc : cells + 0 ≤ R.cells) (hcs : slots + 0 ≤ R.slots) (hfr : 0 ≤ R.frames) (hlo : 0 ≤ R.locals) (AM : Arv Z h0 mb kM .int N vs (.int (0 : Int32))) (hlt : iv < N) (h1 : ¬ iv < 0 ∧ iv < N) (e1 : vs.getD iv.toNatClampNeg (.int (0 : Int32)) = .int x) (hz : ¬ iv = (0 : Int32)) (h2 : ¬ (iv - (1 : Int32)) < 0 ∧ (iv - (1 : Int32)) < N) (e2 : vs.getD (iv - (1 : Int32)).toNatClampNeg (.int (0 : Int32)) = .int x') (hd : own_sh x = own_sh x') (g_P : n0 ≤ P) (g_W : n0 ≤ W) (nMP : mb ≠ P) (nPW : P ≠ W) (AP : Arv Z h0 P kP .int M vp (.int (0 : Int32))) (AW : Arv Z h0 W kW .long M vw (.long (0 : Int64))) (hin : ¬ av < 0 ∧ av < M) (hk : av.toNatClampNeg = kk) (hlp : kk < vp.length) (hlw : kk < vw.length) (ew : vw.getD av.toNatClampNeg (.long (0 : Int64)) = .long y) :
    ∃ (T' : State) (h' : Heap) (locs' : List Loc), Stand p l e R s m args below meth c T' locs' (cells + 0) (slots + 0) ∧ T'.heap = h' ∧ Fr n0 locs' ∧ Keep h0 h' [W] ∧ Arv Z h' W kW .long M (vw.set kk (.long (y ||| own_bit x))) (.long (0 : Int64)) ∧ ∀ t, Sg p e below (T'.setTop (mkF m 98 #[sR a1, sR l1, sI sv, sR mb, sI cn, sR P, sR W, sI av, .val (.int (iv + (1 : Int32)))] [])) t → Sg p e below (T0.setTop (mkF m 98 #[sR a1, sR l1, sI sv, sR mb, sI cn, sR P, sR W, sI av, sI iv] [])) t := by
  have P0 : ∀ t, Sg p e below (T0.setTop (mkF m 98 #[sR a1, sR l1, sI sv, sR mb, sI cn, sR P, sR W, sI av, sI iv] [])) t → Sg p e below (T0.setTop (mkF m 98 #[sR a1, sR l1, sI sv, sR mb, sI cn, sR P, sR W, sI av, sI iv] [])) t := fun t k => k
  obtain ⟨cl51, Ar51, -, S51, N51, -, -⟩ := id AM
  obtain ⟨cl52, Ar52, -, S52, N52, H52, -⟩ := id AM
  have hin52 : ¬ (iv < 0 ∨ cl52.slots.size ≤ (iv).toNatClampNeg) := inb_of S52 h1
  obtain ⟨cl53, Ar53, -, S53, N53, H53, -⟩ := id AM
  have hin53 : ¬ ((iv - (1 : Int32)) < 0 ∨ cl53.slots.size ≤ ((iv - (1 : Int32))).toNatClampNeg) := inb_of S53 h2
  obtain ⟨cl54, Ar54, -, S54, N54, H54, -⟩ := id AW
  have hin54 : ¬ (av < 0 ∨ cl54.slots.size ≤ (av).toNatClampNeg) := inb_of S54 hin
  obtain ⟨cl55, Ar55, -, S55, N55, H55, -⟩ := id AM
  have hin55 : ¬ (iv < 0 ∨ cl55.slots.size ≤ (iv).toNatClampNeg) := inb_of S55 h1
  obtain ⟨cl56, Ar56, q56, S56, N56, H56, G56⟩ := id AW
  obtain ⟨T56, h56, X56, e56, W56, st56⟩ := stJ X0 hx hZ e0 Ar56 (j := av) (inb_of S56 hin) (g := (mkF m 157 #[sR a1, sR l1, sI sv, sR mb, sI cn, sR P, sR W, sI av, sI iv] [(.long (y ||| ((1 : Int64) <<< (x &&& 0x3f).toInt64))), (.int av), (.ref W)])) rfl rfl (hb hby dp22_1_157)
  have v57 : Arv Z h56 W kW .long M (vw.set kk (.long (y ||| ((1 : Int64) <<< (x &&& 0x3f).toInt64)))) (.long (0 : Int64)) := Arv.set Ar56 q56 S56 N56 H56 G56 rfl W56 kk hk hlw
  have P58 : ∀ t, Sg p e below (T56.setTop (mkF m 158 #[sR a1, sR l1, sI sv, sR mb, sI cn, sR P, sR W, sI av, sI iv] [])) t → Sg p e below (T0.setTop (mkF m 98 #[sR a1, sR l1, sI sv, sR mb, sI cn, sR P, sR W, sI av, sI iv] [])) t := fun t k => P0 t (by
    refine XS.iload X0.here hx rfl (hb hby dp22_1_98) rfl ?_
    refine XS.aloadN X0.here hx rfl (hb hby dp22_1_100) rfl rfl ?_
    show Sg p e below (T0.setTop (mkF m 101 #[sR a1, sR l1, sI sv, sR mb, sI cn, sR P, sR W, sI av, sI iv] [(.ref mb), (.int iv)])) _
    refine X0.arraylength hx (by rw [e0]; exact Ar51.1) (State.isArrayOf_alike hZ.alike Ar51.2.1) (g := (mkF m 101 #[sR a1, sR l1, sI sv, sR mb, sI cn, sR P, sR W, sI av, sI iv] [(.ref mb), (.int iv)])) rfl rfl (hb hby dp22_1_101) _ ?_
    rw [len_of S51 N51]
    show Sg p e below (T0.setTop (mkF m 102 #[sR a1, sR l1, sI sv, sR mb, sI cn, sR P, sR W, sI av, sI iv] [(.int N), (.int iv)])) _
    refine XS.icmpNo X0.here hx rfl (hb hby dp22_1_102) rfl (tlt (show iv < N from hlt)).2.1 ?_
    refine XS.iload X0.here hx rfl (hb hby dp22_1_105) rfl ?_
    refine XS.ifNo X0.here hx rfl (hb hby dp22_1_107) rfl ((if0 _ _).trans (feq (show ¬ (iv = (0 : Int32)) from hz)).1) ?_
    refine XS.aloadN X0.here hx rfl (hb hby dp22_1_110) rfl rfl ?_
    refine XS.iload X0.here hx rfl (hb hby dp22_1_111) rfl ?_
    show Sg p e below (T0.setTop (mkF m 113 #[sR a1, sR l1, sI sv, sR mb, sI cn, sR P, sR W, sI av, sI iv] [(.int iv), (.ref mb)])) _
    refine X0.iaload hx (j := iv) (v := (.int x)) (by rw [e0]; exact Ar52.1) (State.isArrayOf_alike hZ.alike Ar52.2.1) Ar52.2.2 hin52 (H52.at hin52 e1) (g := (mkF m 113 #[sR a1, sR l1, sI sv, sR mb, sI cn, sR P, sR W, sI av, sI iv] [(.int iv), (.ref mb)])) rfl rfl (hb hby dp22_1_113) _ ?_
    show Sg p e below (T0.setTop (mkF m 114 #[sR a1, sR l1, sI sv, sR mb, sI cn, sR P, sR W, sI av, sI iv] [(.int x)])) _
    refine XS.bipush X0.here hx rfl (hb hby dp22_1_114) ?_
    refine XS.iushr X0.here hx rfl (hb hby dp22_1_116) rfl ?_
    refine XS.aloadN X0.here hx rfl (hb hby dp22_1_117) rfl rfl ?_
    refine XS.iload X0.here hx rfl (hb hby dp22_1_118) rfl ?_
    refine XS.iconst X0.here hx rfl (hb hby dp22_1_120) ?_
    refine XS.isub X0.here hx rfl (hb hby dp22_1_121) rfl ?_
    show Sg p e below (T0.setTop (mkF m 122 #[sR a1, sR l1, sI sv, sR mb, sI cn, sR P, sR W, sI av, sI iv] [(.int (iv - (1 : Int32))), (.ref mb), (.int ((x.toUInt32 >>> ((6 : Int32) &&& 31).toUInt32).toInt32))])) _
    refine X0.iaload hx (j := (iv - (1 : Int32))) (v := (.int x')) (by rw [e0]; exact Ar53.1) (State.isArrayOf_alike hZ.alike Ar53.2.1) Ar53.2.2 hin53 (H53.at hin53 e2) (g := (mkF m 122 #[sR a1, sR l1, sI sv, sR mb, sI cn, sR P, sR W, sI av, sI iv] [(.int (iv - (1 : Int32))), (.ref mb), (.int ((x.toUInt32 >>> ((6 : Int32) &&& 31).toUInt32).toInt32))])) rfl rfl (hb hby dp22_1_122) _ ?_
    show Sg p e below (T0.setTop (mkF m 123 #[sR a1, sR l1, sI sv, sR mb, sI cn, sR P, sR W, sI av, sI iv] [(.int x'), (.int ((x.toUInt32 >>> ((6 : Int32) &&& 31).toUInt32).toInt32))])) _
    refine XS.bipush X0.here hx rfl (hb hby dp22_1_123) ?_
    refine XS.iushr X0.here hx rfl (hb hby dp22_1_125) rfl ?_
    refine XS.icmpYes X0.here hx rfl (pc0 := 126) (pc' := 144) rfl (hb hby dp22_1_126) rfl (teq (show ((x.toUInt32 >>> ((6 : Int32) &&& 31).toUInt32).toInt32) = ((x'.toUInt32 >>> ((6 : Int32) &&& 31).toUInt32).toInt32) from hd)).1 (by decide) (by decide) ?_
    refine XS.aload X0.here hx rfl (hb hby dp22_1_144) rfl rfl ?_
    refine XS.iload X0.here hx rfl (hb hby dp22_1_146) rfl ?_
    refine XT.dup2 X0.here hx rfl (hb hby dp22_1_148) rfl rfl rfl ?_
    show Sg p e below (T0.setTop (mkF m 149 #[sR a1, sR l1, sI sv, sR mb, sI cn, sR P, sR W, sI av, sI iv] [(.int av), (.ref W), (.int av), (.ref W)])) _
    refine X0.laload hx (j := av) (v := (.long y)) (by rw [e0]; exact Ar54.1) (State.isArrayOf_alike hZ.alike Ar54.2.1) Ar54.2.2 hin54 (H54.at hin54 ew) (g := (mkF m 149 #[sR a1, sR l1, sI sv, sR mb, sI cn, sR P, sR W, sI av, sI iv] [(.int av), (.ref W), (.int av), (.ref W)])) rfl rfl (hb hby dp22_1_149) _ ?_
    show Sg p e below (T0.setTop (mkF m 150 #[sR a1, sR l1, sI sv, sR mb, sI cn, sR P, sR W, sI av, sI iv] [(.long y), (.int av), (.ref W)])) _
    refine XS.lconst X0.here hx rfl (hb hby dp22_1_150) ?_
    refine XS.aloadN X0.here hx rfl (hb hby dp22_1_151) rfl rfl ?_
    refine XS.iload X0.here hx rfl (hb hby dp22_1_152) rfl ?_
    show Sg p e below (T0.setTop (mkF m 154 #[sR a1, sR l1, sI sv, sR mb, sI cn, sR P, sR W, sI av, sI iv] [(.int iv), (.ref mb), (.long (1 : Int64)), (.long y), (.int av), (.ref W)])) _
    refine X0.iaload hx (j := iv) (v := (.int x)) (by rw [e0]; exact Ar55.1) (State.isArrayOf_alike hZ.alike Ar55.2.1) Ar55.2.2 hin55 (H55.at hin55 e1) (g := (mkF m 154 #[sR a1, sR l1, sI sv, sR mb, sI cn, sR P, sR W, sI av, sI iv] [(.int iv), (.ref mb), (.long (1 : Int64)), (.long y), (.int av), (.ref W)])) rfl rfl (hb hby dp22_1_154) _ ?_
    show Sg p e below (T0.setTop (mkF m 155 #[sR a1, sR l1, sI sv, sR mb, sI cn, sR P, sR W, sI av, sI iv] [(.int x), (.long (1 : Int64)), (.long y), (.int av), (.ref W)])) _
    refine XS.lshl X0.here hx rfl (hb hby dp22_1_155) rfl ?_
    refine XS.lor X0.here hx rfl (hb hby dp22_1_156) rfl ?_
    show Sg p e below (T0.setTop (mkF m 157 #[sR a1, sR l1, sI sv, sR mb, sI cn, sR P, sR W, sI av, sI iv] [(.long (y ||| ((1 : Int64) <<< (x &&& 0x3f).toInt64))), (.int av), (.ref W)])) _
    exact st56 _ k)
  have N59 := Fr.snoc X56 N0 g_W
  have Z60 : n0 ≤ h56.size := Nat.le_trans Z0 (Keep.of_wr W56).1
  have K61 : Keep h0 h56 [W] := (Keep.refl h0 [W]).wr W56 (Or.inl (List.mem_of_getElem? (i := 0) rfl))
  have P62 : ∀ t, Sg p e below (T56.setTop (mkF m 98 #[sR a1, sR l1, sI sv, sR mb, sI cn, sR P, sR W, sI av, .val (.int (iv + (1 : Int32)))] [])) t → Sg p e below (T0.setTop (mkF m 98 #[sR a1, sR l1, sI sv, sR mb, sI cn, sR P, sR W, sI av, sI iv] [])) t := fun t k => P58 t (by
    refine XS.iinc X56.here hx rfl (hb hby dp22_1_158) rfl (l' := #[sR a1, sR l1, sI sv, sR mb, sI cn, sR P, sR W, sI av, .val (.int (iv + (1 : Int32)))]) rfl ?_
    refine XS.goto X56.here hx rfl (pc0 := 161) (pc' := 98) rfl (hb hby dp22_1_161) (by decide) (by decide) ?_
    show Sg p e below (T56.setTop (mkF m 98 #[sR a1, sR l1, sI sv, sR mb, sI cn, sR P, sR W, sI av, .val (.int (iv + (1 : Int32)))] [])) _
    exact k)
  exact ⟨T56, h56, _, X56.more (by omega) (by omega), e56, N59, K61, v57, P62⟩
theorem dp22_1_34 : decode prog_22_method_1_code 34 = .ok (.iconst 0, 1) := by decide +kernel
theorem dp22_1_35 : decode prog_22_method_1_code 35 = .ok (.istore 4, 2) := by decide +kernel
theorem dp22_1_37 : decode prog_22_method_1_code 37 = .ok (.iconst 0, 1) := by decide +kernel
theorem dp22_1_38 : decode prog_22_method_1_code 38 = .ok (.istore 5, 2) := by decide +kernel
theorem dp22_1_80 : decode prog_22_method_1_code 80 = .ok (.iload 4, 2) := by decide +kernel
theorem dp22_1_82 : decode prog_22_method_1_code 82 = .ok (.newarray .int, 2) := by decide +kernel
theorem dp22_1_84 : decode prog_22_method_1_code 84 = .ok (.astore 5, 2) := by decide +kernel
theorem dp22_1_86 : decode prog_22_method_1_code 86 = .ok (.iload 4, 2) := by decide +kernel
theorem dp22_1_88 : decode prog_22_method_1_code 88 = .ok (.newarray .long, 2) := by decide +kernel
theorem dp22_1_90 : decode prog_22_method_1_code 90 = .ok (.astore 6, 2) := by decide +kernel
theorem dp22_1_92 : decode prog_22_method_1_code 92 = .ok (.iconst (-1), 1) := by decide +kernel
theorem dp22_1_93 : decode prog_22_method_1_code 93 = .ok (.istore 7, 2) := by decide +kernel
theorem dp22_1_95 : decode prog_22_method_1_code 95 = .ok (.iconst 0, 1) := by decide +kernel
theorem dp22_1_96 : decode prog_22_method_1_code 96 = .ok (.istore 8, 2) := by decide +kernel
set_option maxRecDepth 65536 in
set_option maxHeartbeats 40000000 in
theorem pc_cbd {p : Program} {l : Launch} {e : Env} {R : Room} {s : State} {m : MethodId} {args : Array Value} {below : List Frame} {meth : Method} {c : Code} {T0 : State} {locs : List Loc} {cells slots : Nat} {Z : State} {a0 : Array Value} {h0 : Heap} {n0 : Nat} (a1 l1 mb : Addr) (kM : ClassId) (sv N : Int32) (xs : List Int32) (g4 g5 g6 g7 g8 : Slot) (X0 : Stand p l e R s m args below meth c T0 locs cells slots) (hx : p.tables.exec = Jvm.exec) (hZ : Z.Warmed39 s.vm) (hw : ∀ d ∈ tables_1, d.before a0 Z = true) (hby : c.code = prog_22_method_1_code) (hml : c.maxLocals = 9) (hown : s.vm.findClass "com/example/whittle/whittle/engine/WordSets" = some m.cls) (e0 : T0.heap = h0) (N0 : Fr n0 locs) (Z0 : n0 ≤ h0.size) (hcc : cells + 2 ≤ R.cells) (hcs : slots + 6 ≤ R.slots) (hfr : 0 ≤ R.frames) (hlo : 0 ≤ R.locals) (AM : Arv Z h0 mb kM .int N (xs.map Value.int) (.int (0 : Int32))) (hN : N = Int32.ofNat xs.length) (hx3 : xs.length ≤ 3) (ho4 : g4 = sU ∨ ∃ w, g4 = .val w ∧ w.category = 1) (ho5 : g5 = sU ∨ ∃ w, g5 = .val w ∧ w.category = 1) (ho6 : g6 = sU ∨ ∃ w, g6 = .val w ∧ w.category = 1) (ho7 : g7 = sU ∨ ∃ w, g7 = .val w ∧ w.category = 1) (ho8 : g8 = sU ∨ ∃ w, g8 = .val w ∧ w.category = 1) :
    ∃ (T' : State) (h' : Heap) (locs' : List Loc) (P2 W2 : Addr) (k5 k6 : ClassId) (pl : List Int32) (wl : List Int64) (N2 at2 iv2 : Int32), Stand p l e R s m args below meth c T' locs' (cells + 2) (slots + 6) ∧ T'.heap = h' ∧ Fr n0 locs' ∧ Keep h0 h' [] ∧ pl = own_pl xs ∧ wl = own_wl xs ∧ N2 = Int32.ofNat pl.length ∧ Arv Z h' P2 k5 .int N2 (pl.map Value.int) (.int (0 : Int32)) ∧ Arv Z h' W2 k6 .long N2 (wl.map Value.long) (.long (0 : Int64)) ∧ Exa Z h' P2 "[I" ∧ Exa Z h' W2 "[J" ∧ h0.size ≤ P2 ∧ h0.size ≤ W2 ∧ ∀ t, Sg p e below (T'.setTop (mkF m 164 #[sR a1, sR l1, sI sv, sR mb, sI N2, sR P2, sR W2, sI at2, sI iv2] [])) t → Sg p e below (T0.setTop (mkF m 34 #[sR a1, sR l1, sI sv, sR mb, g4, g5, g6, g7, g8] [])) t := by
  have P0 : ∀ t, Sg p e below (T0.setTop (mkF m 34 #[sR a1, sR l1, sI sv, sR mb, g4, g5, g6, g7, g8] [])) t → Sg p e below (T0.setTop (mkF m 34 #[sR a1, sR l1, sI sv, sR mb, g4, g5, g6, g7, g8] [])) t := fun t k => k
  rcases xs with _ | ⟨x0, _ | ⟨x1, _ | ⟨x2, _ | ⟨x3, xs⟩⟩⟩⟩
  · skip
    have hN' : N = (0 : Int32) := hN
    subst hN'
    obtain ⟨cl63, Ar63, -, S63, N63, -, -⟩ := id AM
    obtain ⟨T64, h64, k64, X64, e64, E64, A64, B64, st64⟩ := newPE X0 hx hZ (own_hw hw 9 rfl) e0 (g := (mkF m 82 #[sR a1, sR l1, sI sv, sR mb, sI 0, sI 0, g6, g7, g8] [(.int (0 : Int32))])) rfl (hb hby dp22_1_82) rfl (by decide) (cap := 0) (by decide) (by decide) (by omega) (by omega) (ad := "[I") (by decide)
    obtain ⟨b64, g64⟩ : ∃ z, z = h0.size := ⟨_, rfl⟩
    rw [← g64] at A64 B64 st64
    have g_b64 : n0 ≤ b64 := Nat.le_trans Z0 (Nat.le_of_eq g64.symm)
    have sz_b64 : h0.size ≤ b64 := Nat.le_trans (Keep.refl h0 []).1 (Nat.le_of_eq g64.symm)
    have P65 : ∀ t, Sg p e below (T64.setTop (mkF m 84 #[sR a1, sR l1, sI sv, sR mb, sI 0, sI 0, g6, g7, g8] [(.ref b64)])) t → Sg p e below (T0.setTop (mkF m 34 #[sR a1, sR l1, sI sv, sR mb, g4, g5, g6, g7, g8] [])) t := fun t k => P0 t (by
      refine XS.iconst X0.here hx rfl (hb hby dp22_1_34) ?_
      refine XS.istoreS X0.here hx rfl (hb hby dp22_1_35) rfl rfl ho4 ?_
      show Sg p e below (T0.setTop (mkF m 37 #[sR a1, sR l1, sI sv, sR mb, sI 0, g5, g6, g7, g8] [])) _
      refine XS.iconst X0.here hx rfl (hb hby dp22_1_37) ?_
      refine XS.istoreS X0.here hx rfl (hb hby dp22_1_38) rfl rfl ho5 ?_
      show Sg p e below (T0.setTop (mkF m 40 #[sR a1, sR l1, sI sv, sR mb, sI 0, sI 0, g6, g7, g8] [])) _
      refine XS.iload X0.here hx rfl (hb hby dp22_1_40) rfl ?_
      refine XS.aloadN X0.here hx rfl (hb hby dp22_1_42) rfl rfl ?_
      show Sg p e below (T0.setTop (mkF m 43 #[sR a1, sR l1, sI sv, sR mb, sI 0, sI 0, g6, g7, g8] [(.ref mb), (.int (0 : Int32))])) _
      refine X0.arraylength hx (by rw [e0]; exact Ar63.1) (State.isArrayOf_alike hZ.alike Ar63.2.1) (g := (mkF m 43 #[sR a1, sR l1, sI sv, sR mb, sI 0, sI 0, g6, g7, g8] [(.ref mb), (.int (0 : Int32))])) rfl rfl (hb hby dp22_1_43) _ ?_
      rw [len_of S63 N63]
      show Sg p e below (T0.setTop (mkF m 44 #[sR a1, sR l1, sI sv, sR mb, sI 0, sI 0, g6, g7, g8] [(.int (0 : Int32)), (.int (0 : Int32))])) _
      refine XS.icmpYes X0.here hx rfl (pc0 := 44) (pc' := 80) rfl (hb hby dp22_1_44) rfl (flt (show ¬ ((0 : Int32) < (0 : Int32)) from (by decide))).2.1 (by decide) (by decide) ?_
      refine XS.iload X0.here hx rfl (hb hby dp22_1_80) rfl ?_
      show Sg p e below (T0.setTop (mkF m 82 #[sR a1, sR l1, sI sv, sR mb, sI 0, sI 0, g6, g7, g8] [(.int (0 : Int32))])) _
      exact st64 _ k)
    have Z66 : n0 ≤ h64.size := Nat.le_trans Z0 E64.1
    have K67 : Keep h0 h64 [] := (Keep.refl h0 []).ext E64
    have v68 : Arv Z h64 b64 k64 .int (0 : Int32) ([] : List Value) (.int (0 : Int32)) := Arv.new A64 (by decide)
    obtain ⟨T69, h69, k69, X69, e69, E69, A69, B69, st69⟩ := newPE X64 hx hZ (own_hw hw 29 rfl) e64 (g := (mkF m 88 #[sR a1, sR l1, sI sv, sR mb, sI 0, sR b64, g6, g7, g8] [(.int (0 : Int32))])) rfl (hb hby dp22_1_88) rfl (by decide) (cap := 0) (by decide) (by decide) (by omega) (by omega) (ad := "[J") (by decide)
    obtain ⟨b69, g69⟩ : ∃ z, z = h64.size := ⟨_, rfl⟩
    rw [← g69] at A69 B69 st69
    have g_b69 : n0 ≤ b69 := Nat.le_trans Z66 (Nat.le_of_eq g69.symm)
    have sz_b69 : h0.size ≤ b69 := Nat.le_trans K67.1 (Nat.le_of_eq g69.symm)
    have P70 : ∀ t, Sg p e below (T69.setTop (mkF m 90 #[sR a1, sR l1, sI sv, sR mb, sI 0, sR b64, g6, g7, g8] [(.ref b69)])) t → Sg p e below (T0.setTop (mkF m 34 #[sR a1, sR l1, sI sv, sR mb, g4, g5, g6, g7, g8] [])) t := fun t k => P65 t (by
      refine XS.astore X64.here hx rfl (hb hby dp22_1_84) rfl rfl (l' := #[sR a1, sR l1, sI sv, sR mb, sI 0, sR b64, g6, g7, g8]) rfl ?_
      refine XS.iload X64.here hx rfl (hb hby dp22_1_86) rfl ?_
      show Sg p e below (T64.setTop (mkF m 88 #[sR a1, sR l1, sI sv, sR mb, sI 0, sR b64, g6, g7, g8] [(.int (0 : Int32))])) _
      exact st69 _ k)
    have Z71 : n0 ≤ h69.size := Nat.le_trans Z66 E69.1
    have K72 : Keep h0 h69 [] := K67.ext E69
    have v73 : Arv Z h69 b69 k69 .long (0 : Int32) ([] : List Value) (.long (0 : Int64)) := Arv.new A69 (by decide)
    have f74 := ((AM.ext E64).ext E69)
    obtain ⟨cl75, Ar75, -, S75, N75, -, -⟩ := id f74
    have f76 := (v68.ext E69)
    have f77 := (B64.ext E69)
    have P78 : ∀ t, Sg p e below (T69.setTop (mkF m 164 #[sR a1, sR l1, sI sv, sR mb, sI 0, sR b64, sR b69, sI (-1), sI 0] [])) t → Sg p e below (T0.setTop (mkF m 34 #[sR a1, sR l1, sI sv, sR mb, g4, g5, g6, g7, g8] [])) t := fun t k => P70 t (by
      refine XS.astoreS X69.here hx rfl (hb hby dp22_1_90) rfl rfl rfl rfl ho6 ?_
      show Sg p e below (T69.setTop (mkF m 92 #[sR a1, sR l1, sI sv, sR mb, sI 0, sR b64, sR b69, g7, g8] [])) _
      refine XS.iconst X69.here hx rfl (hb hby dp22_1_92) ?_
      refine XS.istoreS X69.here hx rfl (hb hby dp22_1_93) rfl rfl ho7 ?_
      show Sg p e below (T69.setTop (mkF m 95 #[sR a1, sR l1, sI sv, sR mb, sI 0, sR b64, sR b69, sI (-1), g8] [])) _
      refine XS.iconst X69.here hx rfl (hb hby dp22_1_95) ?_
      refine XS.istoreS X69.here hx rfl (hb hby dp22_1_96) rfl rfl ho8 ?_
      show Sg p e below (T69.setTop (mkF m 98 #[sR a1, sR l1, sI sv, sR mb, sI 0, sR b64, sR b69, sI (-1), sI 0] [])) _
      refine XS.iload X69.here hx rfl (hb hby dp22_1_98) rfl ?_
      refine XS.aloadN X69.here hx rfl (hb hby dp22_1_100) rfl rfl ?_
      show Sg p e below (T69.setTop (mkF m 101 #[sR a1, sR l1, sI sv, sR mb, sI 0, sR b64, sR b69, sI (-1), sI 0] [(.ref mb), (.int (0 : Int32))])) _
      refine X69.arraylength hx (by rw [e69]; exact Ar75.1) (State.isArrayOf_alike hZ.alike Ar75.2.1) (g := (mkF m 101 #[sR a1, sR l1, sI sv, sR mb, sI 0, sR b64, sR b69, sI (-1), sI 0] [(.ref mb), (.int (0 : Int32))])) rfl rfl (hb hby dp22_1_101) _ ?_
      rw [len_of S75 N75]
      show Sg p e below (T69.setTop (mkF m 102 #[sR a1, sR l1, sI sv, sR mb, sI 0, sR b64, sR b69, sI (-1), sI 0] [(.int (0 : Int32)), (.int (0 : Int32))])) _
      refine XS.icmpYes X69.here hx rfl (pc0 := 102) (pc' := 164) rfl (hb hby dp22_1_102) rfl (flt (show ¬ ((0 : Int32) < (0 : Int32)) from (by decide))).2.1 (by decide) (by decide) ?_
      show Sg p e below (T69.setTop (mkF m 164 #[sR a1, sR l1, sI sv, sR mb, sI 0, sR b64, sR b69, sI (-1), sI 0] [])) _
      exact k)
    exact ⟨T69, h69, _, b64, b69, k64, k69, ([] : List Int32), ([] : List Int64), (0 : Int32), (-1 : Int32), (0 : Int32), X69.more (by omega) (by omega), e69, N0, K72, rfl, rfl, rfl, f76, v73, f77, B69, sz_b64, sz_b69, P78⟩
  · skip
    have hN' : N = (1 : Int32) := hN
    subst hN'
    obtain ⟨cl79, Ar79, -, S79, N79, -, -⟩ := id AM
    obtain ⟨cl80, Ar80, -, S80, N80, -, -⟩ := id AM
    obtain ⟨T81, h81, k81, X81, e81, E81, A81, B81, st81⟩ := newPE X0 hx hZ (own_hw hw 9 rfl) e0 (g := (mkF m 82 #[sR a1, sR l1, sI sv, sR mb, sI 1, sI 1, g6, g7, g8] [(.int (1 : Int32))])) rfl (hb hby dp22_1_82) rfl (by decide) (cap := 1) (by decide) (by decide) (by omega) (by omega) (ad := "[I") (by decide)
    obtain ⟨b81, g81⟩ : ∃ z, z = h0.size := ⟨_, rfl⟩
    rw [← g81] at A81 B81 st81
    have g_b81 : n0 ≤ b81 := Nat.le_trans Z0 (Nat.le_of_eq g81.symm)
    have sz_b81 : h0.size ≤ b81 := Nat.le_trans (Keep.refl h0 []).1 (Nat.le_of_eq g81.symm)
    have P82 : ∀ t, Sg p e below (T81.setTop (mkF m 84 #[sR a1, sR l1, sI sv, sR mb, sI 1, sI 1, g6, g7, g8] [(.ref b81)])) t → Sg p e below (T0.setTop (mkF m 34 #[sR a1, sR l1, sI sv, sR mb, g4, g5, g6, g7, g8] [])) t := fun t k => P0 t (by
      refine XS.iconst X0.here hx rfl (hb hby dp22_1_34) ?_
      refine XS.istoreS X0.here hx rfl (hb hby dp22_1_35) rfl rfl ho4 ?_
      show Sg p e below (T0.setTop (mkF m 37 #[sR a1, sR l1, sI sv, sR mb, sI 0, g5, g6, g7, g8] [])) _
      refine XS.iconst X0.here hx rfl (hb hby dp22_1_37) ?_
      refine XS.istoreS X0.here hx rfl (hb hby dp22_1_38) rfl rfl ho5 ?_
      show Sg p e below (T0.setTop (mkF m 40 #[sR a1, sR l1, sI sv, sR mb, sI 0, sI 0, g6, g7, g8] [])) _
      refine XS.iload X0.here hx rfl (hb hby dp22_1_40) rfl ?_
      refine XS.aloadN X0.here hx rfl (hb hby dp22_1_42) rfl rfl ?_
      show Sg p e below (T0.setTop (mkF m 43 #[sR a1, sR l1, sI sv, sR mb, sI 0, sI 0, g6, g7, g8] [(.ref mb), (.int (0 : Int32))])) _
      refine X0.arraylength hx (by rw [e0]; exact Ar79.1) (State.isArrayOf_alike hZ.alike Ar79.2.1) (g := (mkF m 43 #[sR a1, sR l1, sI sv, sR mb, sI 0, sI 0, g6, g7, g8] [(.ref mb), (.int (0 : Int32))])) rfl rfl (hb hby dp22_1_43) _ ?_
      rw [len_of S79 N79]
      show Sg p e below (T0.setTop (mkF m 44 #[sR a1, sR l1, sI sv, sR mb, sI 0, sI 0, g6, g7, g8] [(.int (1 : Int32)), (.int (0 : Int32))])) _
      refine XS.icmpNo X0.here hx rfl (hb hby dp22_1_44) rfl (tlt (show (0 : Int32) < (1 : Int32) from (by decide))).2.1 ?_
      refine XS.iload X0.here hx rfl (hb hby dp22_1_47) rfl ?_
      refine XS.ifYes X0.here hx rfl (pc0 := 49) (pc' := 71) rfl (hb hby dp22_1_49) rfl ((if0 _ _).trans (teq (show (0 : Int32) = (0 : Int32) from (by decide))).1) (by decide) (by decide) ?_
      refine XS.iinc X0.here hx rfl (hb hby dp22_1_71) rfl (l' := #[sR a1, sR l1, sI sv, sR mb, sI 1, sI 0, g6, g7, g8]) rfl ?_
      refine XS.iinc X0.here hx rfl (hb hby dp22_1_74) rfl (l' := #[sR a1, sR l1, sI sv, sR mb, sI 1, sI 1, g6, g7, g8]) rfl ?_
      refine XS.goto X0.here hx rfl (pc0 := 77) (pc' := 40) rfl (hb hby dp22_1_77) (by decide) (by decide) ?_
      refine XS.iload X0.here hx rfl (hb hby dp22_1_40) rfl ?_
      refine XS.aloadN X0.here hx rfl (hb hby dp22_1_42) rfl rfl ?_
      show Sg p e below (T0.setTop (mkF m 43 #[sR a1, sR l1, sI sv, sR mb, sI 1, sI 1, g6, g7, g8] [(.ref mb), (.int (1 : Int32))])) _
      refine X0.arraylength hx (by rw [e0]; exact Ar80.1) (State.isArrayOf_alike hZ.alike Ar80.2.1) (g := (mkF m 43 #[sR a1, sR l1, sI sv, sR mb, sI 1, sI 1, g6, g7, g8] [(.ref mb), (.int (1 : Int32))])) rfl rfl (hb hby dp22_1_43) _ ?_
      rw [len_of S80 N80]
      show Sg p e below (T0.setTop (mkF m 44 #[sR a1, sR l1, sI sv, sR mb, sI 1, sI 1, g6, g7, g8] [(.int (1 : Int32)), (.int (1 : Int32))])) _
      refine XS.icmpYes X0.here hx rfl (pc0 := 44) (pc' := 80) rfl (hb hby dp22_1_44) rfl (flt (show ¬ ((1 : Int32) < (1 : Int32)) from (by decide))).2.1 (by decide) (by decide) ?_
      refine XS.iload X0.here hx rfl (hb hby dp22_1_80) rfl ?_
      show Sg p e below (T0.setTop (mkF m 82 #[sR a1, sR l1, sI sv, sR mb, sI 1, sI 1, g6, g7, g8] [(.int (1 : Int32))])) _
      exact st81 _ k)
    have Z83 : n0 ≤ h81.size := Nat.le_trans Z0 E81.1
    have K84 : Keep h0 h81 [] := (Keep.refl h0 []).ext E81
    have v85 : Arv Z h81 b81 k81 .int (1 : Int32) [(.int (0 : Int32))] (.int (0 : Int32)) := (Arv.new A81 (by decide)).pad (pad_rep [] (.int (0 : Int32)) 1)
    obtain ⟨T86, h86, k86, X86, e86, E86, A86, B86, st86⟩ := newPE X81 hx hZ (own_hw hw 29 rfl) e81 (g := (mkF m 88 #[sR a1, sR l1, sI sv, sR mb, sI 1, sR b81, g6, g7, g8] [(.int (1 : Int32))])) rfl (hb hby dp22_1_88) rfl (by decide) (cap := 1) (by decide) (by decide) (by omega) (by omega) (ad := "[J") (by decide)
    obtain ⟨b86, g86⟩ : ∃ z, z = h81.size := ⟨_, rfl⟩
    rw [← g86] at A86 B86 st86
    have g_b86 : n0 ≤ b86 := Nat.le_trans Z83 (Nat.le_of_eq g86.symm)
    have sz_b86 : h0.size ≤ b86 := Nat.le_trans K84.1 (Nat.le_of_eq g86.symm)
    have P87 : ∀ t, Sg p e below (T86.setTop (mkF m 90 #[sR a1, sR l1, sI sv, sR mb, sI 1, sR b81, g6, g7, g8] [(.ref b86)])) t → Sg p e below (T0.setTop (mkF m 34 #[sR a1, sR l1, sI sv, sR mb, g4, g5, g6, g7, g8] [])) t := fun t k => P82 t (by
      refine XS.astore X81.here hx rfl (hb hby dp22_1_84) rfl rfl (l' := #[sR a1, sR l1, sI sv, sR mb, sI 1, sR b81, g6, g7, g8]) rfl ?_
      refine XS.iload X81.here hx rfl (hb hby dp22_1_86) rfl ?_
      show Sg p e below (T81.setTop (mkF m 88 #[sR a1, sR l1, sI sv, sR mb, sI 1, sR b81, g6, g7, g8] [(.int (1 : Int32))])) _
      exact st86 _ k)
    have Z88 : n0 ≤ h86.size := Nat.le_trans Z83 E86.1
    have K89 : Keep h0 h86 [] := K84.ext E86
    have v90 : Arv Z h86 b86 k86 .long (1 : Int32) [(.long (0 : Int64))] (.long (0 : Int64)) := (Arv.new A86 (by decide)).pad (pad_rep [] (.long (0 : Int64)) 1)
    have f91 := ((AM.ext E81).ext E86)
    have f92 := (v85.ext E86)
    have P93 : ∀ t, Sg p e below (T86.setTop (mkF m 98 #[sR a1, sR l1, sI sv, sR mb, sI 1, sR b81, sR b86, sI (-1), sI 0] [])) t → Sg p e below (T0.setTop (mkF m 34 #[sR a1, sR l1, sI sv, sR mb, g4, g5, g6, g7, g8] [])) t := fun t k => P87 t (by
      refine XS.astoreS X86.here hx rfl (hb hby dp22_1_90) rfl rfl rfl rfl ho6 ?_
      show Sg p e below (T86.setTop (mkF m 92 #[sR a1, sR l1, sI sv, sR mb, sI 1, sR b81, sR b86, g7, g8] [])) _
      refine XS.iconst X86.here hx rfl (hb hby dp22_1_92) ?_
      refine XS.istoreS X86.here hx rfl (hb hby dp22_1_93) rfl rfl ho7 ?_
      show Sg p e below (T86.setTop (mkF m 95 #[sR a1, sR l1, sI sv, sR mb, sI 1, sR b81, sR b86, sI (-1), g8] [])) _
      refine XS.iconst X86.here hx rfl (hb hby dp22_1_95) ?_
      refine XS.istoreS X86.here hx rfl (hb hby dp22_1_96) rfl rfl ho8 ?_
      show Sg p e below (T86.setTop (mkF m 98 #[sR a1, sR l1, sI sv, sR mb, sI 1, sR b81, sR b86, sI (-1), sI 0] [])) _
      exact k)
    obtain ⟨T94, h94, L94, X94, e94, Nq94, K94, u94_0, u94_1, st94⟩ := pc_t2f a1 l1 mb b81 b86 kM k81 k86 sv (1 : Int32) (1 : Int32) (1 : Int32) x0 (0 : Int64) [(.int x0)] [(.int (0 : Int32))] [(.long (0 : Int64))] X86 hx hZ hw hby hml hown e86 N0 Z88 (by omega) (by omega) (Nat.le_trans (Nat.le_of_ble_eq_true rfl) hfr) (Nat.le_trans (Nat.le_of_ble_eq_true rfl) hlo) f91 (by decide) ⟨by decide, by decide⟩ rfl g_b81 g_b86 (Nat.ne_of_lt (Nat.lt_of_lt_of_le AM.lt (Nat.le_of_eq g81.symm))) (Nat.ne_of_lt (Nat.lt_of_lt_of_le B81.lt (Nat.le_of_eq g86.symm))) f92 v90 ⟨by decide, by decide⟩ rfl (Nat.le_of_ble_eq_true rfl) (Nat.le_of_ble_eq_true rfl) rfl
    have P95 : ∀ t, Sg p e below (T94.setTop (mkF m 98 #[sR a1, sR l1, sI sv, sR mb, sI 1, sR b81, sR b86, sI 0, sI 1] [])) t → Sg p e below (T0.setTop (mkF m 34 #[sR a1, sR l1, sI sv, sR mb, g4, g5, g6, g7, g8] [])) t := fun t k => P93 t (by
      exact st94 _ k)
    have Z96 : n0 ≤ h94.size := Nat.le_trans Z88 K94.1
    have K97 : Keep h0 h94 [] := K89.trans K94 ((allS (Or.inr sz_b81) (allS (Or.inr sz_b86) all0)))
    have AP94 : Arv Z h94 b81 k81 .int (1 : Int32) [(.int (own_sh x0))] (.int (0 : Int32)) := u94_0
    have AW94 : Arv Z h94 b86 k86 .long (1 : Int32) [(.long ((0 : Int64) ||| own_bit x0))] (.long (0 : Int64)) := u94_1
    have f98 := (f91.keep K94 (ninS (Nat.ne_of_lt (Nat.lt_of_lt_of_le AM.lt (Nat.le_of_eq g81.symm))) (ninS (Nat.ne_of_lt (Nat.lt_of_lt_of_le (AM.ext E81).lt (Nat.le_of_eq g86.symm))) nin0)))
    obtain ⟨cl99, Ar99, -, S99, N99, -, -⟩ := id f98
    have f100 := ((B81.ext E86).keep K94)
    have f101 := (B86.keep K94)
    have P102 : ∀ t, Sg p e below (T94.setTop (mkF m 164 #[sR a1, sR l1, sI sv, sR mb, sI 1, sR b81, sR b86, sI 0, sI 1] [])) t → Sg p e below (T0.setTop (mkF m 34 #[sR a1, sR l1, sI sv, sR mb, g4, g5, g6, g7, g8] [])) t := fun t k => P95 t (by
      refine XS.iload X94.here hx rfl (hb hby dp22_1_98) rfl ?_
      refine XS.aloadN X94.here hx rfl (hb hby dp22_1_100) rfl rfl ?_
      show Sg p e below (T94.setTop (mkF m 101 #[sR a1, sR l1, sI sv, sR mb, sI 1, sR b81, sR b86, sI 0, sI 1] [(.ref mb), (.int (1 : Int32))])) _
      refine X94.arraylength hx (by rw [e94]; exact Ar99.1) (State.isArrayOf_alike hZ.alike Ar99.2.1) (g := (mkF m 101 #[sR a1, sR l1, sI sv, sR mb, sI 1, sR b81, sR b86, sI 0, sI 1] [(.ref mb), (.int (1 : Int32))])) rfl rfl (hb hby dp22_1_101) _ ?_
      rw [len_of S99 N99]
      show Sg p e below (T94.setTop (mkF m 102 #[sR a1, sR l1, sI sv, sR mb, sI 1, sR b81, sR b86, sI 0, sI 1] [(.int (1 : Int32)), (.int (1 : Int32))])) _
      refine XS.icmpYes X94.here hx rfl (pc0 := 102) (pc' := 164) rfl (hb hby dp22_1_102) rfl (flt (show ¬ ((1 : Int32) < (1 : Int32)) from (by decide))).2.1 (by decide) (by decide) ?_
      show Sg p e below (T94.setTop (mkF m 164 #[sR a1, sR l1, sI sv, sR mb, sI 1, sR b81, sR b86, sI 0, sI 1] [])) _
      exact k)
    exact ⟨T94, h94, _, b81, b86, k81, k86, ([(own_sh x0)] : List Int32), ([((0 : Int64) ||| own_bit x0)] : List Int64), (1 : Int32), (0 : Int32), (1 : Int32), X94.more (by omega) (by omega), e94, Nq94, K97, rfl, rfl, rfl, AP94, AW94, f100, f101, sz_b81, sz_b86, P102⟩
  · skip
    have hN' : N = (2 : Int32) := hN
    subst hN'
    obtain ⟨cl103, Ar103, -, S103, N103, -, -⟩ := id AM
    have P104 : ∀ t, Sg p e below (T0.setTop (mkF m 40 #[sR a1, sR l1, sI sv, sR mb, sI 1, sI 1, g6, g7, g8] [])) t → Sg p e below (T0.setTop (mkF m 34 #[sR a1, sR l1, sI sv, sR mb, g4, g5, g6, g7, g8] [])) t := fun t k => P0 t (by
      refine XS.iconst X0.here hx rfl (hb hby dp22_1_34) ?_
      refine XS.istoreS X0.here hx rfl (hb hby dp22_1_35) rfl rfl ho4 ?_
      show Sg p e below (T0.setTop (mkF m 37 #[sR a1, sR l1, sI sv, sR mb, sI 0, g5, g6, g7, g8] [])) _
      refine XS.iconst X0.here hx rfl (hb hby dp22_1_37) ?_
      refine XS.istoreS X0.here hx rfl (hb hby dp22_1_38) rfl rfl ho5 ?_
      show Sg p e below (T0.setTop (mkF m 40 #[sR a1, sR l1, sI sv, sR mb, sI 0, sI 0, g6, g7, g8] [])) _
      refine XS.iload X0.here hx rfl (hb hby dp22_1_40) rfl ?_
      refine XS.aloadN X0.here hx rfl (hb hby dp22_1_42) rfl rfl ?_
      show Sg p e below (T0.setTop (mkF m 43 #[sR a1, sR l1, sI sv, sR mb, sI 0, sI 0, g6, g7, g8] [(.ref mb), (.int (0 : Int32))])) _
      refine X0.arraylength hx (by rw [e0]; exact Ar103.1) (State.isArrayOf_alike hZ.alike Ar103.2.1) (g := (mkF m 43 #[sR a1, sR l1, sI sv, sR mb, sI 0, sI 0, g6, g7, g8] [(.ref mb), (.int (0 : Int32))])) rfl rfl (hb hby dp22_1_43) _ ?_
      rw [len_of S103 N103]
      show Sg p e below (T0.setTop (mkF m 44 #[sR a1, sR l1, sI sv, sR mb, sI 0, sI 0, g6, g7, g8] [(.int (2 : Int32)), (.int (0 : Int32))])) _
      refine XS.icmpNo X0.here hx rfl (hb hby dp22_1_44) rfl (tlt (show (0 : Int32) < (2 : Int32) from (by decide))).2.1 ?_
      refine XS.iload X0.here hx rfl (hb hby dp22_1_47) rfl ?_
      refine XS.ifYes X0.here hx rfl (pc0 := 49) (pc' := 71) rfl (hb hby dp22_1_49) rfl ((if0 _ _).trans (teq (show (0 : Int32) = (0 : Int32) from (by decide))).1) (by decide) (by decide) ?_
      refine XS.iinc X0.here hx rfl (hb hby dp22_1_71) rfl (l' := #[sR a1, sR l1, sI sv, sR mb, sI 1, sI 0, g6, g7, g8]) rfl ?_
      refine XS.iinc X0.here hx rfl (hb hby dp22_1_74) rfl (l' := #[sR a1, sR l1, sI sv, sR mb, sI 1, sI 1, g6, g7, g8]) rfl ?_
      refine XS.goto X0.here hx rfl (pc0 := 77) (pc' := 40) rfl (hb hby dp22_1_77) (by decide) (by decide) ?_
      show Sg p e below (T0.setTop (mkF m 40 #[sR a1, sR l1, sI sv, sR mb, sI 1, sI 1, g6, g7, g8] [])) _
      exact k)
    by_cases q105 : own_sh x1 = own_sh x0
    · skip
      obtain ⟨T106, h106, L106, X106, e106, Nq106, K106, st106⟩ := pc_t1s a1 l1 mb kM sv (2 : Int32) (1 : Int32) (1 : Int32) x1 x0 [(.int x0), (.int x1)] g6 g7 g8 X0 hx hZ hw hby hml hown e0 N0 Z0 (by omega) (by omega) (Nat.le_trans (Nat.le_of_ble_eq_true rfl) hfr) (Nat.le_trans (Nat.le_of_ble_eq_true rfl) hlo) AM (by decide) ⟨by decide, by decide⟩ rfl (by decide) ⟨by decide, by decide⟩ rfl q105
      have P107 : ∀ t, Sg p e below (T106.setTop (mkF m 40 #[sR a1, sR l1, sI sv, sR mb, sI 1, sI 2, g6, g7, g8] [])) t → Sg p e below (T0.setTop (mkF m 34 #[sR a1, sR l1, sI sv, sR mb, g4, g5, g6, g7, g8] [])) t := fun t k => P104 t (by
        exact st106 _ k)
      have Z108 : n0 ≤ h106.size := Nat.le_trans Z0 K106.1
      have K109 : Keep h0 h106 [] := (Keep.refl h0 []).trans K106 (all0)
      have f110 := (AM.keep K106 nin0)
      obtain ⟨cl111, Ar111, -, S111, N111, -, -⟩ := id f110
      obtain ⟨T112, h112, k112, X112, e112, E112, A112, B112, st112⟩ := newPE X106 hx hZ (own_hw hw 9 rfl) e106 (g := (mkF m 82 #[sR a1, sR l1, sI sv, sR mb, sI 1, sI 2, g6, g7, g8] [(.int (1 : Int32))])) rfl (hb hby dp22_1_82) rfl (by decide) (cap := 1) (by decide) (by decide) (by omega) (by omega) (ad := "[I") (by decide)
      obtain ⟨b112, g112⟩ : ∃ z, z = h106.size := ⟨_, rfl⟩
      rw [← g112] at A112 B112 st112
      have g_b112 : n0 ≤ b112 := Nat.le_trans Z108 (Nat.le_of_eq g112.symm)
      have sz_b112 : h0.size ≤ b112 := Nat.le_trans K109.1 (Nat.le_of_eq g112.symm)
      have P113 : ∀ t, Sg p e below (T112.setTop (mkF m 84 #[sR a1, sR l1, sI sv, sR mb, sI 1, sI 2, g6, g7, g8] [(.ref b112)])) t → Sg p e below (T0.setTop (mkF m 34 #[sR a1, sR l1, sI sv, sR mb, g4, g5, g6, g7, g8] [])) t := fun t k => P107 t (by
        refine XS.iload X106.here hx rfl (hb hby dp22_1_40) rfl ?_
        refine XS.aloadN X106.here hx rfl (hb hby dp22_1_42) rfl rfl ?_
        show Sg p e below (T106.setTop (mkF m 43 #[sR a1, sR l1, sI sv, sR mb, sI 1, sI 2, g6, g7, g8] [(.ref mb), (.int (2 : Int32))])) _
        refine X106.arraylength hx (by rw [e106]; exact Ar111.1) (State.isArrayOf_alike hZ.alike Ar111.2.1) (g := (mkF m 43 #[sR a1, sR l1, sI sv, sR mb, sI 1, sI 2, g6, g7, g8] [(.ref mb), (.int (2 : Int32))])) rfl rfl (hb hby dp22_1_43) _ ?_
        rw [len_of S111 N111]
        show Sg p e below (T106.setTop (mkF m 44 #[sR a1, sR l1, sI sv, sR mb, sI 1, sI 2, g6, g7, g8] [(.int (2 : Int32)), (.int (2 : Int32))])) _
        refine XS.icmpYes X106.here hx rfl (pc0 := 44) (pc' := 80) rfl (hb hby dp22_1_44) rfl (flt (show ¬ ((2 : Int32) < (2 : Int32)) from (by decide))).2.1 (by decide) (by decide) ?_
        refine XS.iload X106.here hx rfl (hb hby dp22_1_80) rfl ?_
        show Sg p e below (T106.setTop (mkF m 82 #[sR a1, sR l1, sI sv, sR mb, sI 1, sI 2, g6, g7, g8] [(.int (1 : Int32))])) _
        exact st112 _ k)
      have Z114 : n0 ≤ h112.size := Nat.le_trans Z108 E112.1
      have K115 : Keep h0 h112 [] := K109.ext E112
      have v116 : Arv Z h112 b112 k112 .int (1 : Int32) [(.int (0 : Int32))] (.int (0 : Int32)) := (Arv.new A112 (by decide)).pad (pad_rep [] (.int (0 : Int32)) 1)
      obtain ⟨T117, h117, k117, X117, e117, E117, A117, B117, st117⟩ := newPE X112 hx hZ (own_hw hw 29 rfl) e112 (g := (mkF m 88 #[sR a1, sR l1, sI sv, sR mb, sI 1, sR b112, g6, g7, g8] [(.int (1 : Int32))])) rfl (hb hby dp22_1_88) rfl (by decide) (cap := 1) (by decide) (by decide) (by omega) (by omega) (ad := "[J") (by decide)
      obtain ⟨b117, g117⟩ : ∃ z, z = h112.size := ⟨_, rfl⟩
      rw [← g117] at A117 B117 st117
      have g_b117 : n0 ≤ b117 := Nat.le_trans Z114 (Nat.le_of_eq g117.symm)
      have sz_b117 : h0.size ≤ b117 := Nat.le_trans K115.1 (Nat.le_of_eq g117.symm)
      have P118 : ∀ t, Sg p e below (T117.setTop (mkF m 90 #[sR a1, sR l1, sI sv, sR mb, sI 1, sR b112, g6, g7, g8] [(.ref b117)])) t → Sg p e below (T0.setTop (mkF m 34 #[sR a1, sR l1, sI sv, sR mb, g4, g5, g6, g7, g8] [])) t := fun t k => P113 t (by
        refine XS.astore X112.here hx rfl (hb hby dp22_1_84) rfl rfl (l' := #[sR a1, sR l1, sI sv, sR mb, sI 1, sR b112, g6, g7, g8]) rfl ?_
        refine XS.iload X112.here hx rfl (hb hby dp22_1_86) rfl ?_
        show Sg p e below (T112.setTop (mkF m 88 #[sR a1, sR l1, sI sv, sR mb, sI 1, sR b112, g6, g7, g8] [(.int (1 : Int32))])) _
        exact st117 _ k)
      have Z119 : n0 ≤ h117.size := Nat.le_trans Z114 E117.1
      have K120 : Keep h0 h117 [] := K115.ext E117
      have v121 : Arv Z h117 b117 k117 .long (1 : Int32) [(.long (0 : Int64))] (.long (0 : Int64)) := (Arv.new A117 (by decide)).pad (pad_rep [] (.long (0 : Int64)) 1)
      have f122 := ((f110.ext E112).ext E117)
      have f123 := (v116.ext E117)
      have P124 : ∀ t, Sg p e below (T117.setTop (mkF m 98 #[sR a1, sR l1, sI sv, sR mb, sI 1, sR b112, sR b117, sI (-1), sI 0] [])) t → Sg p e below (T0.setTop (mkF m 34 #[sR a1, sR l1, sI sv, sR mb, g4, g5, g6, g7, g8] [])) t := fun t k => P118 t (by
        refine XS.astoreS X117.here hx rfl (hb hby dp22_1_90) rfl rfl rfl rfl ho6 ?_
        show Sg p e below (T117.setTop (mkF m 92 #[sR a1, sR l1, sI sv, sR mb, sI 1, sR b112, sR b117, g7, g8] [])) _
        refine XS.iconst X117.here hx rfl (hb hby dp22_1_92) ?_
        refine XS.istoreS X117.here hx rfl (hb hby dp22_1_93) rfl rfl ho7 ?_
        show Sg p e below (T117.setTop (mkF m 95 #[sR a1, sR l1, sI sv, sR mb, sI 1, sR b112, sR b117, sI (-1), g8] [])) _
        refine XS.iconst X117.here hx rfl (hb hby dp22_1_95) ?_
        refine XS.istoreS X117.here hx rfl (hb hby dp22_1_96) rfl rfl ho8 ?_
        show Sg p e below (T117.setTop (mkF m 98 #[sR a1, sR l1, sI sv, sR mb, sI 1, sR b112, sR b117, sI (-1), sI 0] [])) _
        exact k)
      obtain ⟨T125, h125, L125, X125, e125, Nq125, K125, u125_0, u125_1, st125⟩ := pc_t2f a1 l1 mb b112 b117 kM k112 k117 sv (2 : Int32) (1 : Int32) (1 : Int32) x0 (0 : Int64) [(.int x0), (.int x1)] [(.int (0 : Int32))] [(.long (0 : Int64))] X117 hx hZ hw hby hml hown e117 Nq106 Z119 (by omega) (by omega) (Nat.le_trans (Nat.le_of_ble_eq_true rfl) hfr) (Nat.le_trans (Nat.le_of_ble_eq_true rfl) hlo) f122 (by decide) ⟨by decide, by decide⟩ rfl g_b112 g_b117 (Nat.ne_of_lt (Nat.lt_of_lt_of_le f110.lt (Nat.le_of_eq g112.symm))) (Nat.ne_of_lt (Nat.lt_of_lt_of_le B112.lt (Nat.le_of_eq g117.symm))) f123 v121 ⟨by decide, by decide⟩ rfl (Nat.le_of_ble_eq_true rfl) (Nat.le_of_ble_eq_true rfl) rfl
      have P126 : ∀ t, Sg p e below (T125.setTop (mkF m 98 #[sR a1, sR l1, sI sv, sR mb, sI 1, sR b112, sR b117, sI 0, sI 1] [])) t → Sg p e below (T0.setTop (mkF m 34 #[sR a1, sR l1, sI sv, sR mb, g4, g5, g6, g7, g8] [])) t := fun t k => P124 t (by
        exact st125 _ k)
      have Z127 : n0 ≤ h125.size := Nat.le_trans Z119 K125.1
      have K128 : Keep h0 h125 [] := K120.trans K125 ((allS (Or.inr sz_b112) (allS (Or.inr sz_b117) all0)))
      have AP125 : Arv Z h125 b112 k112 .int (1 : Int32) [(.int (own_sh x0))] (.int (0 : Int32)) := u125_0
      have AW125 : Arv Z h125 b117 k117 .long (1 : Int32) [(.long ((0 : Int64) ||| own_bit x0))] (.long (0 : Int64)) := u125_1
      have f129 := (f122.keep K125 (ninS (Nat.ne_of_lt (Nat.lt_of_lt_of_le f110.lt (Nat.le_of_eq g112.symm))) (ninS (Nat.ne_of_lt (Nat.lt_of_lt_of_le (f110.ext E112).lt (Nat.le_of_eq g117.symm))) nin0)))
      obtain ⟨T130, h130, L130, X130, e130, Nq130, K130, u130_0, st130⟩ := pc_t2s a1 l1 mb b112 b117 kM k112 k117 sv (2 : Int32) (1 : Int32) (1 : Int32) x1 (0 : Int32) (1 : Int32) x0 ((0 : Int64) ||| own_bit x0) [(.int x0), (.int x1)] [(.int (own_sh x0))] [(.long ((0 : Int64) ||| own_bit x0))] 0 X125 hx hZ hw hby hml hown e125 Nq125 Z127 (by omega) (by omega) (Nat.le_trans (Nat.le_of_ble_eq_true rfl) hfr) (Nat.le_trans (Nat.le_of_ble_eq_true rfl) hlo) f129 (by decide) ⟨by decide, by decide⟩ rfl (by decide) ⟨by decide, by decide⟩ rfl q105 g_b112 g_b117 (Nat.ne_of_lt (Nat.lt_of_lt_of_le f110.lt (Nat.le_of_eq g112.symm))) (Nat.ne_of_lt (Nat.lt_of_lt_of_le B112.lt (Nat.le_of_eq g117.symm))) AP125 AW125 ⟨by decide, by decide⟩ rfl (Nat.le_of_ble_eq_true rfl) (Nat.le_of_ble_eq_true rfl) rfl
      have P131 : ∀ t, Sg p e below (T130.setTop (mkF m 98 #[sR a1, sR l1, sI sv, sR mb, sI 1, sR b112, sR b117, sI 0, sI 2] [])) t → Sg p e below (T0.setTop (mkF m 34 #[sR a1, sR l1, sI sv, sR mb, g4, g5, g6, g7, g8] [])) t := fun t k => P126 t (by
        exact st130 _ k)
      have Z132 : n0 ≤ h130.size := Nat.le_trans Z127 K130.1
      have K133 : Keep h0 h130 [] := K128.trans K130 ((allS (Or.inr sz_b117) all0))
      have AW130 : Arv Z h130 b117 k117 .long (1 : Int32) [(.long (((0 : Int64) ||| own_bit x0) ||| own_bit x1))] (.long (0 : Int64)) := u130_0
      have f134 := (f129.keep K130 (ninS (Nat.ne_of_lt (Nat.lt_of_lt_of_le (f110.ext E112).lt (Nat.le_of_eq g117.symm))) nin0))
      obtain ⟨cl135, Ar135, -, S135, N135, -, -⟩ := id f134
      have f136 := (AP125.keep K130 (ninS (Nat.ne_of_lt (Nat.lt_of_lt_of_le B112.lt (Nat.le_of_eq g117.symm))) nin0))
      have f137 := (((B112.ext E117).keep K125).keep K130)
      have f138 := ((B117.keep K125).keep K130)
      have P139 : ∀ t, Sg p e below (T130.setTop (mkF m 164 #[sR a1, sR l1, sI sv, sR mb, sI 1, sR b112, sR b117, sI 0, sI 2] [])) t → Sg p e below (T0.setTop (mkF m 34 #[sR a1, sR l1, sI sv, sR mb, g4, g5, g6, g7, g8] [])) t := fun t k => P131 t (by
        refine XS.iload X130.here hx rfl (hb hby dp22_1_98) rfl ?_
        refine XS.aloadN X130.here hx rfl (hb hby dp22_1_100) rfl rfl ?_
        show Sg p e below (T130.setTop (mkF m 101 #[sR a1, sR l1, sI sv, sR mb, sI 1, sR b112, sR b117, sI 0, sI 2] [(.ref mb), (.int (2 : Int32))])) _
        refine X130.arraylength hx (by rw [e130]; exact Ar135.1) (State.isArrayOf_alike hZ.alike Ar135.2.1) (g := (mkF m 101 #[sR a1, sR l1, sI sv, sR mb, sI 1, sR b112, sR b117, sI 0, sI 2] [(.ref mb), (.int (2 : Int32))])) rfl rfl (hb hby dp22_1_101) _ ?_
        rw [len_of S135 N135]
        show Sg p e below (T130.setTop (mkF m 102 #[sR a1, sR l1, sI sv, sR mb, sI 1, sR b112, sR b117, sI 0, sI 2] [(.int (2 : Int32)), (.int (2 : Int32))])) _
        refine XS.icmpYes X130.here hx rfl (pc0 := 102) (pc' := 164) rfl (hb hby dp22_1_102) rfl (flt (show ¬ ((2 : Int32) < (2 : Int32)) from (by decide))).2.1 (by decide) (by decide) ?_
        show Sg p e below (T130.setTop (mkF m 164 #[sR a1, sR l1, sI sv, sR mb, sI 1, sR b112, sR b117, sI 0, sI 2] [])) _
        exact k)
      exact ⟨T130, h130, _, b112, b117, k112, k117, ([(own_sh x0)] : List Int32), ([(((0 : Int64) ||| own_bit x0) ||| own_bit x1)] : List Int64), (1 : Int32), (0 : Int32), (2 : Int32), X130.more (by omega) (by omega), e130, Nq130, K133, ((if_pos q105)).symm, ((if_pos q105)).symm, rfl, f136, AW130, f137, f138, sz_b112, sz_b117, P139⟩
    · skip
      obtain ⟨T140, h140, L140, X140, e140, Nq140, K140, st140⟩ := pc_t1n a1 l1 mb kM sv (2 : Int32) (1 : Int32) (1 : Int32) x1 x0 [(.int x0), (.int x1)] g6 g7 g8 X0 hx hZ hw hby hml hown e0 N0 Z0 (by omega) (by omega) (Nat.le_trans (Nat.le_of_ble_eq_true rfl) hfr) (Nat.le_trans (Nat.le_of_ble_eq_true rfl) hlo) AM (by decide) ⟨by decide, by decide⟩ rfl (by decide) ⟨by decide, by decide⟩ rfl q105
      have P141 : ∀ t, Sg p e below (T140.setTop (mkF m 40 #[sR a1, sR l1, sI sv, sR mb, sI 2, sI 2, g6, g7, g8] [])) t → Sg p e below (T0.setTop (mkF m 34 #[sR a1, sR l1, sI sv, sR mb, g4, g5, g6, g7, g8] [])) t := fun t k => P104 t (by
        exact st140 _ k)
      have Z142 : n0 ≤ h140.size := Nat.le_trans Z0 K140.1
      have K143 : Keep h0 h140 [] := (Keep.refl h0 []).trans K140 (all0)
      have f144 := (AM.keep K140 nin0)
      obtain ⟨cl145, Ar145, -, S145, N145, -, -⟩ := id f144
      obtain ⟨T146, h146, k146, X146, e146, E146, A146, B146, st146⟩ := newPE X140 hx hZ (own_hw hw 9 rfl) e140 (g := (mkF m 82 #[sR a1, sR l1, sI sv, sR mb, sI 2, sI 2, g6, g7, g8] [(.int (2 : Int32))])) rfl (hb hby dp22_1_82) rfl (by decide) (cap := 2) (by decide) (by decide) (by omega) (by omega) (ad := "[I") (by decide)
      obtain ⟨b146, g146⟩ : ∃ z, z = h140.size := ⟨_, rfl⟩
      rw [← g146] at A146 B146 st146
      have g_b146 : n0 ≤ b146 := Nat.le_trans Z142 (Nat.le_of_eq g146.symm)
      have sz_b146 : h0.size ≤ b146 := Nat.le_trans K143.1 (Nat.le_of_eq g146.symm)
      have P147 : ∀ t, Sg p e below (T146.setTop (mkF m 84 #[sR a1, sR l1, sI sv, sR mb, sI 2, sI 2, g6, g7, g8] [(.ref b146)])) t → Sg p e below (T0.setTop (mkF m 34 #[sR a1, sR l1, sI sv, sR mb, g4, g5, g6, g7, g8] [])) t := fun t k => P141 t (by
        refine XS.iload X140.here hx rfl (hb hby dp22_1_40) rfl ?_
        refine XS.aloadN X140.here hx rfl (hb hby dp22_1_42) rfl rfl ?_
        show Sg p e below (T140.setTop (mkF m 43 #[sR a1, sR l1, sI sv, sR mb, sI 2, sI 2, g6, g7, g8] [(.ref mb), (.int (2 : Int32))])) _
        refine X140.arraylength hx (by rw [e140]; exact Ar145.1) (State.isArrayOf_alike hZ.alike Ar145.2.1) (g := (mkF m 43 #[sR a1, sR l1, sI sv, sR mb, sI 2, sI 2, g6, g7, g8] [(.ref mb), (.int (2 : Int32))])) rfl rfl (hb hby dp22_1_43) _ ?_
        rw [len_of S145 N145]
        show Sg p e below (T140.setTop (mkF m 44 #[sR a1, sR l1, sI sv, sR mb, sI 2, sI 2, g6, g7, g8] [(.int (2 : Int32)), (.int (2 : Int32))])) _
        refine XS.icmpYes X140.here hx rfl (pc0 := 44) (pc' := 80) rfl (hb hby dp22_1_44) rfl (flt (show ¬ ((2 : Int32) < (2 : Int32)) from (by decide))).2.1 (by decide) (by decide) ?_
        refine XS.iload X140.here hx rfl (hb hby dp22_1_80) rfl ?_
        show Sg p e below (T140.setTop (mkF m 82 #[sR a1, sR l1, sI sv, sR mb, sI 2, sI 2, g6, g7, g8] [(.int (2 : Int32))])) _
        exact st146 _ k)
      have Z148 : n0 ≤ h146.size := Nat.le_trans Z142 E146.1
      have K149 : Keep h0 h146 [] := K143.ext E146
      have v150 : Arv Z h146 b146 k146 .int (2 : Int32) [(.int (0 : Int32)), (.int (0 : Int32))] (.int (0 : Int32)) := (Arv.new A146 (by decide)).pad (pad_rep [] (.int (0 : Int32)) 2)
      obtain ⟨T151, h151, k151, X151, e151, E151, A151, B151, st151⟩ := newPE X146 hx hZ (own_hw hw 29 rfl) e146 (g := (mkF m 88 #[sR a1, sR l1, sI sv, sR mb, sI 2, sR b146, g6, g7, g8] [(.int (2 : Int32))])) rfl (hb hby dp22_1_88) rfl (by decide) (cap := 2) (by decide) (by decide) (by omega) (by omega) (ad := "[J") (by decide)
      obtain ⟨b151, g151⟩ : ∃ z, z = h146.size := ⟨_, rfl⟩
      rw [← g151] at A151 B151 st151
      have g_b151 : n0 ≤ b151 := Nat.le_trans Z148 (Nat.le_of_eq g151.symm)
      have sz_b151 : h0.size ≤ b151 := Nat.le_trans K149.1 (Nat.le_of_eq g151.symm)
      have P152 : ∀ t, Sg p e below (T151.setTop (mkF m 90 #[sR a1, sR l1, sI sv, sR mb, sI 2, sR b146, g6, g7, g8] [(.ref b151)])) t → Sg p e below (T0.setTop (mkF m 34 #[sR a1, sR l1, sI sv, sR mb, g4, g5, g6, g7, g8] [])) t := fun t k => P147 t (by
        refine XS.astore X146.here hx rfl (hb hby dp22_1_84) rfl rfl (l' := #[sR a1, sR l1, sI sv, sR mb, sI 2, sR b146, g6, g7, g8]) rfl ?_
        refine XS.iload X146.here hx rfl (hb hby dp22_1_86) rfl ?_
        show Sg p e below (T146.setTop (mkF m 88 #[sR a1, sR l1, sI sv, sR mb, sI 2, sR b146, g6, g7, g8] [(.int (2 : Int32))])) _
        exact st151 _ k)
      have Z153 : n0 ≤ h151.size := Nat.le_trans Z148 E151.1
      have K154 : Keep h0 h151 [] := K149.ext E151
      have v155 : Arv Z h151 b151 k151 .long (2 : Int32) [(.long (0 : Int64)), (.long (0 : Int64))] (.long (0 : Int64)) := (Arv.new A151 (by decide)).pad (pad_rep [] (.long (0 : Int64)) 2)
      have f156 := ((f144.ext E146).ext E151)
      have f157 := (v150.ext E151)
      have P158 : ∀ t, Sg p e below (T151.setTop (mkF m 98 #[sR a1, sR l1, sI sv, sR mb, sI 2, sR b146, sR b151, sI (-1), sI 0] [])) t → Sg p e below (T0.setTop (mkF m 34 #[sR a1, sR l1, sI sv, sR mb, g4, g5, g6, g7, g8] [])) t := fun t k => P152 t (by
        refine XS.astoreS X151.here hx rfl (hb hby dp22_1_90) rfl rfl rfl rfl ho6 ?_
        show Sg p e below (T151.setTop (mkF m 92 #[sR a1, sR l1, sI sv, sR mb, sI 2, sR b146, sR b151, g7, g8] [])) _
        refine XS.iconst X151.here hx rfl (hb hby dp22_1_92) ?_
        refine XS.istoreS X151.here hx rfl (hb hby dp22_1_93) rfl rfl ho7 ?_
        show Sg p e below (T151.setTop (mkF m 95 #[sR a1, sR l1, sI sv, sR mb, sI 2, sR b146, sR b151, sI (-1), g8] [])) _
        refine XS.iconst X151.here hx rfl (hb hby dp22_1_95) ?_
        refine XS.istoreS X151.here hx rfl (hb hby dp22_1_96) rfl rfl ho8 ?_
        show Sg p e below (T151.setTop (mkF m 98 #[sR a1, sR l1, sI sv, sR mb, sI 2, sR b146, sR b151, sI (-1), sI 0] [])) _
        exact k)
      obtain ⟨T159, h159, L159, X159, e159, Nq159, K159, u159_0, u159_1, st159⟩ := pc_t2f a1 l1 mb b146 b151 kM k146 k151 sv (2 : Int32) (2 : Int32) (2 : Int32) x0 (0 : Int64) [(.int x0), (.int x1)] [(.int (0 : Int32)), (.int (0 : Int32))] [(.long (0 : Int64)), (.long (0 : Int64))] X151 hx hZ hw hby hml hown e151 Nq140 Z153 (by omega) (by omega) (Nat.le_trans (Nat.le_of_ble_eq_true rfl) hfr) (Nat.le_trans (Nat.le_of_ble_eq_true rfl) hlo) f156 (by decide) ⟨by decide, by decide⟩ rfl g_b146 g_b151 (Nat.ne_of_lt (Nat.lt_of_lt_of_le f144.lt (Nat.le_of_eq g146.symm))) (Nat.ne_of_lt (Nat.lt_of_lt_of_le B146.lt (Nat.le_of_eq g151.symm))) f157 v155 ⟨by decide, by decide⟩ rfl (Nat.le_of_ble_eq_true rfl) (Nat.le_of_ble_eq_true rfl) rfl
      have P160 : ∀ t, Sg p e below (T159.setTop (mkF m 98 #[sR a1, sR l1, sI sv, sR mb, sI 2, sR b146, sR b151, sI 0, sI 1] [])) t → Sg p e below (T0.setTop (mkF m 34 #[sR a1, sR l1, sI sv, sR mb, g4, g5, g6, g7, g8] [])) t := fun t k => P158 t (by
        exact st159 _ k)
      have Z161 : n0 ≤ h159.size := Nat.le_trans Z153 K159.1
      have K162 : Keep h0 h159 [] := K154.trans K159 ((allS (Or.inr sz_b146) (allS (Or.inr sz_b151) all0)))
      have AP159 : Arv Z h159 b146 k146 .int (2 : Int32) [(.int (own_sh x0)), (.int (0 : Int32))] (.int (0 : Int32)) := u159_0
      have AW159 : Arv Z h159 b151 k151 .long (2 : Int32) [(.long ((0 : Int64) ||| own_bit x0)), (.long (0 : Int64))] (.long (0 : Int64)) := u159_1
      have f163 := (f156.keep K159 (ninS (Nat.ne_of_lt (Nat.lt_of_lt_of_le f144.lt (Nat.le_of_eq g146.symm))) (ninS (Nat.ne_of_lt (Nat.lt_of_lt_of_le (f144.ext E146).lt (Nat.le_of_eq g151.symm))) nin0)))
      obtain ⟨T164, h164, L164, X164, e164, Nq164, K164, u164_0, u164_1, st164⟩ := pc_t2n a1 l1 mb b146 b151 kM k146 k151 sv (2 : Int32) (2 : Int32) (2 : Int32) x1 (0 : Int32) (1 : Int32) x0 (0 : Int64) [(.int x0), (.int x1)] [(.int (own_sh x0)), (.int (0 : Int32))] [(.long ((0 : Int64) ||| own_bit x0)), (.long (0 : Int64))] 1 X159 hx hZ hw hby hml hown e159 Nq159 Z161 (by omega) (by omega) (Nat.le_trans (Nat.le_of_ble_eq_true rfl) hfr) (Nat.le_trans (Nat.le_of_ble_eq_true rfl) hlo) f163 (by decide) ⟨by decide, by decide⟩ rfl (by decide) ⟨by decide, by decide⟩ rfl q105 g_b146 g_b151 (Nat.ne_of_lt (Nat.lt_of_lt_of_le f144.lt (Nat.le_of_eq g146.symm))) (Nat.ne_of_lt (Nat.lt_of_lt_of_le B146.lt (Nat.le_of_eq g151.symm))) AP159 AW159 ⟨by decide, by decide⟩ rfl (Nat.le_of_ble_eq_true rfl) (Nat.le_of_ble_eq_true rfl) rfl
      have P165 : ∀ t, Sg p e below (T164.setTop (mkF m 98 #[sR a1, sR l1, sI sv, sR mb, sI 2, sR b146, sR b151, sI 1, sI 2] [])) t → Sg p e below (T0.setTop (mkF m 34 #[sR a1, sR l1, sI sv, sR mb, g4, g5, g6, g7, g8] [])) t := fun t k => P160 t (by
        exact st164 _ k)
      have Z166 : n0 ≤ h164.size := Nat.le_trans Z161 K164.1
      have K167 : Keep h0 h164 [] := K162.trans K164 ((allS (Or.inr sz_b146) (allS (Or.inr sz_b151) all0)))
      have AP164 : Arv Z h164 b146 k146 .int (2 : Int32) [(.int (own_sh x0)), (.int (own_sh x1))] (.int (0 : Int32)) := u164_0
      have AW164 : Arv Z h164 b151 k151 .long (2 : Int32) [(.long ((0 : Int64) ||| own_bit x0)), (.long ((0 : Int64) ||| own_bit x1))] (.long (0 : Int64)) := u164_1
      have f168 := (f163.keep K164 (ninS (Nat.ne_of_lt (Nat.lt_of_lt_of_le f144.lt (Nat.le_of_eq g146.symm))) (ninS (Nat.ne_of_lt (Nat.lt_of_lt_of_le (f144.ext E146).lt (Nat.le_of_eq g151.symm))) nin0)))
      obtain ⟨cl169, Ar169, -, S169, N169, -, -⟩ := id f168
      have f170 := (((B146.ext E151).keep K159).keep K164)
      have f171 := ((B151.keep K159).keep K164)
      have P172 : ∀ t, Sg p e below (T164.setTop (mkF m 164 #[sR a1, sR l1, sI sv, sR mb, sI 2, sR b146, sR b151, sI 1, sI 2] [])) t → Sg p e below (T0.setTop (mkF m 34 #[sR a1, sR l1, sI sv, sR mb, g4, g5, g6, g7, g8] [])) t := fun t k => P165 t (by
        refine XS.iload X164.here hx rfl (hb hby dp22_1_98) rfl ?_
        refine XS.aloadN X164.here hx rfl (hb hby dp22_1_100) rfl rfl ?_
        show Sg p e below (T164.setTop (mkF m 101 #[sR a1, sR l1, sI sv, sR mb, sI 2, sR b146, sR b151, sI 1, sI 2] [(.ref mb), (.int (2 : Int32))])) _
        refine X164.arraylength hx (by rw [e164]; exact Ar169.1) (State.isArrayOf_alike hZ.alike Ar169.2.1) (g := (mkF m 101 #[sR a1, sR l1, sI sv, sR mb, sI 2, sR b146, sR b151, sI 1, sI 2] [(.ref mb), (.int (2 : Int32))])) rfl rfl (hb hby dp22_1_101) _ ?_
        rw [len_of S169 N169]
        show Sg p e below (T164.setTop (mkF m 102 #[sR a1, sR l1, sI sv, sR mb, sI 2, sR b146, sR b151, sI 1, sI 2] [(.int (2 : Int32)), (.int (2 : Int32))])) _
        refine XS.icmpYes X164.here hx rfl (pc0 := 102) (pc' := 164) rfl (hb hby dp22_1_102) rfl (flt (show ¬ ((2 : Int32) < (2 : Int32)) from (by decide))).2.1 (by decide) (by decide) ?_
        show Sg p e below (T164.setTop (mkF m 164 #[sR a1, sR l1, sI sv, sR mb, sI 2, sR b146, sR b151, sI 1, sI 2] [])) _
        exact k)
      exact ⟨T164, h164, _, b146, b151, k146, k151, ([(own_sh x0), (own_sh x1)] : List Int32), ([((0 : Int64) ||| own_bit x0), ((0 : Int64) ||| own_bit x1)] : List Int64), (2 : Int32), (1 : Int32), (2 : Int32), X164.more (by omega) (by omega), e164, Nq164, K167, ((if_neg q105)).symm, ((if_neg q105)).symm, rfl, AP164, AW164, f170, f171, sz_b146, sz_b151, P172⟩
  · skip
    have hN' : N = (3 : Int32) := hN
    subst hN'
    obtain ⟨cl173, Ar173, -, S173, N173, -, -⟩ := id AM
    have P174 : ∀ t, Sg p e below (T0.setTop (mkF m 40 #[sR a1, sR l1, sI sv, sR mb, sI 1, sI 1, g6, g7, g8] [])) t → Sg p e below (T0.setTop (mkF m 34 #[sR a1, sR l1, sI sv, sR mb, g4, g5, g6, g7, g8] [])) t := fun t k => P0 t (by
      refine XS.iconst X0.here hx rfl (hb hby dp22_1_34) ?_
      refine XS.istoreS X0.here hx rfl (hb hby dp22_1_35) rfl rfl ho4 ?_
      show Sg p e below (T0.setTop (mkF m 37 #[sR a1, sR l1, sI sv, sR mb, sI 0, g5, g6, g7, g8] [])) _
      refine XS.iconst X0.here hx rfl (hb hby dp22_1_37) ?_
      refine XS.istoreS X0.here hx rfl (hb hby dp22_1_38) rfl rfl ho5 ?_
      show Sg p e below (T0.setTop (mkF m 40 #[sR a1, sR l1, sI sv, sR mb, sI 0, sI 0, g6, g7, g8] [])) _
      refine XS.iload X0.here hx rfl (hb hby dp22_1_40) rfl ?_
      refine XS.aloadN X0.here hx rfl (hb hby dp22_1_42) rfl rfl ?_
      show Sg p e below (T0.setTop (mkF m 43 #[sR a1, sR l1, sI sv, sR mb, sI 0, sI 0, g6, g7, g8] [(.ref mb), (.int (0 : Int32))])) _
      refine X0.arraylength hx (by rw [e0]; exact Ar173.1) (State.isArrayOf_alike hZ.alike Ar173.2.1) (g := (mkF m 43 #[sR a1, sR l1, sI sv, sR mb, sI 0, sI 0, g6, g7, g8] [(.ref mb), (.int (0 : Int32))])) rfl rfl (hb hby dp22_1_43) _ ?_
      rw [len_of S173 N173]
      show Sg p e below (T0.setTop (mkF m 44 #[sR a1, sR l1, sI sv, sR mb, sI 0, sI 0, g6, g7, g8] [(.int (3 : Int32)), (.int (0 : Int32))])) _
      refine XS.icmpNo X0.here hx rfl (hb hby dp22_1_44) rfl (tlt (show (0 : Int32) < (3 : Int32) from (by decide))).2.1 ?_
      refine XS.iload X0.here hx rfl (hb hby dp22_1_47) rfl ?_
      refine XS.ifYes X0.here hx rfl (pc0 := 49) (pc' := 71) rfl (hb hby dp22_1_49) rfl ((if0 _ _).trans (teq (show (0 : Int32) = (0 : Int32) from (by decide))).1) (by decide) (by decide) ?_
      refine XS.iinc X0.here hx rfl (hb hby dp22_1_71) rfl (l' := #[sR a1, sR l1, sI sv, sR mb, sI 1, sI 0, g6, g7, g8]) rfl ?_
      refine XS.iinc X0.here hx rfl (hb hby dp22_1_74) rfl (l' := #[sR a1, sR l1, sI sv, sR mb, sI 1, sI 1, g6, g7, g8]) rfl ?_
      refine XS.goto X0.here hx rfl (pc0 := 77) (pc' := 40) rfl (hb hby dp22_1_77) (by decide) (by decide) ?_
      show Sg p e below (T0.setTop (mkF m 40 #[sR a1, sR l1, sI sv, sR mb, sI 1, sI 1, g6, g7, g8] [])) _
      exact k)
    by_cases q175 : own_sh x1 = own_sh x0
    · skip
      obtain ⟨T176, h176, L176, X176, e176, Nq176, K176, st176⟩ := pc_t1s a1 l1 mb kM sv (3 : Int32) (1 : Int32) (1 : Int32) x1 x0 [(.int x0), (.int x1), (.int x2)] g6 g7 g8 X0 hx hZ hw hby hml hown e0 N0 Z0 (by omega) (by omega) (Nat.le_trans (Nat.le_of_ble_eq_true rfl) hfr) (Nat.le_trans (Nat.le_of_ble_eq_true rfl) hlo) AM (by decide) ⟨by decide, by decide⟩ rfl (by decide) ⟨by decide, by decide⟩ rfl q175
      have P177 : ∀ t, Sg p e below (T176.setTop (mkF m 40 #[sR a1, sR l1, sI sv, sR mb, sI 1, sI 2, g6, g7, g8] [])) t → Sg p e below (T0.setTop (mkF m 34 #[sR a1, sR l1, sI sv, sR mb, g4, g5, g6, g7, g8] [])) t := fun t k => P174 t (by
        exact st176 _ k)
      have Z178 : n0 ≤ h176.size := Nat.le_trans Z0 K176.1
      have K179 : Keep h0 h176 [] := (Keep.refl h0 []).trans K176 (all0)
      by_cases q180 : own_sh x2 = own_sh x1
      · skip
        have f181 := (AM.keep K176 nin0)
        obtain ⟨T182, h182, L182, X182, e182, Nq182, K182, st182⟩ := pc_t1s a1 l1 mb kM sv (3 : Int32) (1 : Int32) (2 : Int32) x2 x1 [(.int x0), (.int x1), (.int x2)] g6 g7 g8 X176 hx hZ hw hby hml hown e176 Nq176 Z178 (by omega) (by omega) (Nat.le_trans (Nat.le_of_ble_eq_true rfl) hfr) (Nat.le_trans (Nat.le_of_ble_eq_true rfl) hlo) f181 (by decide) ⟨by decide, by decide⟩ rfl (by decide) ⟨by decide, by decide⟩ rfl q180
        have P183 : ∀ t, Sg p e below (T182.setTop (mkF m 40 #[sR a1, sR l1, sI sv, sR mb, sI 1, sI 3, g6, g7, g8] [])) t → Sg p e below (T0.setTop (mkF m 34 #[sR a1, sR l1, sI sv, sR mb, g4, g5, g6, g7, g8] [])) t := fun t k => P177 t (by
          exact st182 _ k)
        have Z184 : n0 ≤ h182.size := Nat.le_trans Z178 K182.1
        have K185 : Keep h0 h182 [] := K179.trans K182 (all0)
        have f186 := (f181.keep K182 nin0)
        obtain ⟨cl187, Ar187, -, S187, N187, -, -⟩ := id f186
        obtain ⟨T188, h188, k188, X188, e188, E188, A188, B188, st188⟩ := newPE X182 hx hZ (own_hw hw 9 rfl) e182 (g := (mkF m 82 #[sR a1, sR l1, sI sv, sR mb, sI 1, sI 3, g6, g7, g8] [(.int (1 : Int32))])) rfl (hb hby dp22_1_82) rfl (by decide) (cap := 1) (by decide) (by decide) (by omega) (by omega) (ad := "[I") (by decide)
        obtain ⟨b188, g188⟩ : ∃ z, z = h182.size := ⟨_, rfl⟩
        rw [← g188] at A188 B188 st188
        have g_b188 : n0 ≤ b188 := Nat.le_trans Z184 (Nat.le_of_eq g188.symm)
        have sz_b188 : h0.size ≤ b188 := Nat.le_trans K185.1 (Nat.le_of_eq g188.symm)
        have P189 : ∀ t, Sg p e below (T188.setTop (mkF m 84 #[sR a1, sR l1, sI sv, sR mb, sI 1, sI 3, g6, g7, g8] [(.ref b188)])) t → Sg p e below (T0.setTop (mkF m 34 #[sR a1, sR l1, sI sv, sR mb, g4, g5, g6, g7, g8] [])) t := fun t k => P183 t (by
          refine XS.iload X182.here hx rfl (hb hby dp22_1_40) rfl ?_
          refine XS.aloadN X182.here hx rfl (hb hby dp22_1_42) rfl rfl ?_
          show Sg p e below (T182.setTop (mkF m 43 #[sR a1, sR l1, sI sv, sR mb, sI 1, sI 3, g6, g7, g8] [(.ref mb), (.int (3 : Int32))])) _
          refine X182.arraylength hx (by rw [e182]; exact Ar187.1) (State.isArrayOf_alike hZ.alike Ar187.2.1) (g := (mkF m 43 #[sR a1, sR l1, sI sv, sR mb, sI 1, sI 3, g6, g7, g8] [(.ref mb), (.int (3 : Int32))])) rfl rfl (hb hby dp22_1_43) _ ?_
          rw [len_of S187 N187]
          show Sg p e below (T182.setTop (mkF m 44 #[sR a1, sR l1, sI sv, sR mb, sI 1, sI 3, g6, g7, g8] [(.int (3 : Int32)), (.int (3 : Int32))])) _
          refine XS.icmpYes X182.here hx rfl (pc0 := 44) (pc' := 80) rfl (hb hby dp22_1_44) rfl (flt (show ¬ ((3 : Int32) < (3 : Int32)) from (by decide))).2.1 (by decide) (by decide) ?_
          refine XS.iload X182.here hx rfl (hb hby dp22_1_80) rfl ?_
          show Sg p e below (T182.setTop (mkF m 82 #[sR a1, sR l1, sI sv, sR mb, sI 1, sI 3, g6, g7, g8] [(.int (1 : Int32))])) _
          exact st188 _ k)
        have Z190 : n0 ≤ h188.size := Nat.le_trans Z184 E188.1
        have K191 : Keep h0 h188 [] := K185.ext E188
        have v192 : Arv Z h188 b188 k188 .int (1 : Int32) [(.int (0 : Int32))] (.int (0 : Int32)) := (Arv.new A188 (by decide)).pad (pad_rep [] (.int (0 : Int32)) 1)
        obtain ⟨T193, h193, k193, X193, e193, E193, A193, B193, st193⟩ := newPE X188 hx hZ (own_hw hw 29 rfl) e188 (g := (mkF m 88 #[sR a1, sR l1, sI sv, sR mb, sI 1, sR b188, g6, g7, g8] [(.int (1 : Int32))])) rfl (hb hby dp22_1_88) rfl (by decide) (cap := 1) (by decide) (by decide) (by omega) (by omega) (ad := "[J") (by decide)
        obtain ⟨b193, g193⟩ : ∃ z, z = h188.size := ⟨_, rfl⟩
        rw [← g193] at A193 B193 st193
        have g_b193 : n0 ≤ b193 := Nat.le_trans Z190 (Nat.le_of_eq g193.symm)
        have sz_b193 : h0.size ≤ b193 := Nat.le_trans K191.1 (Nat.le_of_eq g193.symm)
        have P194 : ∀ t, Sg p e below (T193.setTop (mkF m 90 #[sR a1, sR l1, sI sv, sR mb, sI 1, sR b188, g6, g7, g8] [(.ref b193)])) t → Sg p e below (T0.setTop (mkF m 34 #[sR a1, sR l1, sI sv, sR mb, g4, g5, g6, g7, g8] [])) t := fun t k => P189 t (by
          refine XS.astore X188.here hx rfl (hb hby dp22_1_84) rfl rfl (l' := #[sR a1, sR l1, sI sv, sR mb, sI 1, sR b188, g6, g7, g8]) rfl ?_
          refine XS.iload X188.here hx rfl (hb hby dp22_1_86) rfl ?_
          show Sg p e below (T188.setTop (mkF m 88 #[sR a1, sR l1, sI sv, sR mb, sI 1, sR b188, g6, g7, g8] [(.int (1 : Int32))])) _
          exact st193 _ k)
        have Z195 : n0 ≤ h193.size := Nat.le_trans Z190 E193.1
        have K196 : Keep h0 h193 [] := K191.ext E193
        have v197 : Arv Z h193 b193 k193 .long (1 : Int32) [(.long (0 : Int64))] (.long (0 : Int64)) := (Arv.new A193 (by decide)).pad (pad_rep [] (.long (0 : Int64)) 1)
        have f198 := ((f186.ext E188).ext E193)
        have f199 := (v192.ext E193)
        have P200 : ∀ t, Sg p e below (T193.setTop (mkF m 98 #[sR a1, sR l1, sI sv, sR mb, sI 1, sR b188, sR b193, sI (-1), sI 0] [])) t → Sg p e below (T0.setTop (mkF m 34 #[sR a1, sR l1, sI sv, sR mb, g4, g5, g6, g7, g8] [])) t := fun t k => P194 t (by
          refine XS.astoreS X193.here hx rfl (hb hby dp22_1_90) rfl rfl rfl rfl ho6 ?_
          show Sg p e below (T193.setTop (mkF m 92 #[sR a1, sR l1, sI sv, sR mb, sI 1, sR b188, sR b193, g7, g8] [])) _
          refine XS.iconst X193.here hx rfl (hb hby dp22_1_92) ?_
          refine XS.istoreS X193.here hx rfl (hb hby dp22_1_93) rfl rfl ho7 ?_
          show Sg p e below (T193.setTop (mkF m 95 #[sR a1, sR l1, sI sv, sR mb, sI 1, sR b188, sR b193, sI (-1), g8] [])) _
          refine XS.iconst X193.here hx rfl (hb hby dp22_1_95) ?_
          refine XS.istoreS X193.here hx rfl (hb hby dp22_1_96) rfl rfl ho8 ?_
          show Sg p e below (T193.setTop (mkF m 98 #[sR a1, sR l1, sI sv, sR mb, sI 1, sR b188, sR b193, sI (-1), sI 0] [])) _
          exact k)
        obtain ⟨T201, h201, L201, X201, e201, Nq201, K201, u201_0, u201_1, st201⟩ := pc_t2f a1 l1 mb b188 b193 kM k188 k193 sv (3 : Int32) (1 : Int32) (1 : Int32) x0 (0 : Int64) [(.int x0), (.int x1), (.int x2)] [(.int (0 : Int32))] [(.long (0 : Int64))] X193 hx hZ hw hby hml hown e193 Nq182 Z195 (by omega) (by omega) (Nat.le_trans (Nat.le_of_ble_eq_true rfl) hfr) (Nat.le_trans (Nat.le_of_ble_eq_true rfl) hlo) f198 (by decide) ⟨by decide, by decide⟩ rfl g_b188 g_b193 (Nat.ne_of_lt (Nat.lt_of_lt_of_le f186.lt (Nat.le_of_eq g188.symm))) (Nat.ne_of_lt (Nat.lt_of_lt_of_le B188.lt (Nat.le_of_eq g193.symm))) f199 v197 ⟨by decide, by decide⟩ rfl (Nat.le_of_ble_eq_true rfl) (Nat.le_of_ble_eq_true rfl) rfl
        have P202 : ∀ t, Sg p e below (T201.setTop (mkF m 98 #[sR a1, sR l1, sI sv, sR mb, sI 1, sR b188, sR b193, sI 0, sI 1] [])) t → Sg p e below (T0.setTop (mkF m 34 #[sR a1, sR l1, sI sv, sR mb, g4, g5, g6, g7, g8] [])) t := fun t k => P200 t (by
          exact st201 _ k)
        have Z203 : n0 ≤ h201.size := Nat.le_trans Z195 K201.1
        have K204 : Keep h0 h201 [] := K196.trans K201 ((allS (Or.inr sz_b188) (allS (Or.inr sz_b193) all0)))
        have AP201 : Arv Z h201 b188 k188 .int (1 : Int32) [(.int (own_sh x0))] (.int (0 : Int32)) := u201_0
        have AW201 : Arv Z h201 b193 k193 .long (1 : Int32) [(.long ((0 : Int64) ||| own_bit x0))] (.long (0 : Int64)) := u201_1
        have f205 := (f198.keep K201 (ninS (Nat.ne_of_lt (Nat.lt_of_lt_of_le f186.lt (Nat.le_of_eq g188.symm))) (ninS (Nat.ne_of_lt (Nat.lt_of_lt_of_le (f186.ext E188).lt (Nat.le_of_eq g193.symm))) nin0)))
        obtain ⟨T206, h206, L206, X206, e206, Nq206, K206, u206_0, st206⟩ := pc_t2s a1 l1 mb b188 b193 kM k188 k193 sv (3 : Int32) (1 : Int32) (1 : Int32) x1 (0 : Int32) (1 : Int32) x0 ((0 : Int64) ||| own_bit x0) [(.int x0), (.int x1), (.int x2)] [(.int (own_sh x0))] [(.long ((0 : Int64) ||| own_bit x0))] 0 X201 hx hZ hw hby hml hown e201 Nq201 Z203 (by omega) (by omega) (Nat.le_trans (Nat.le_of_ble_eq_true rfl) hfr) (Nat.le_trans (Nat.le_of_ble_eq_true rfl) hlo) f205 (by decide) ⟨by decide, by decide⟩ rfl (by decide) ⟨by decide, by decide⟩ rfl q175 g_b188 g_b193 (Nat.ne_of_lt (Nat.lt_of_lt_of_le f186.lt (Nat.le_of_eq g188.symm))) (Nat.ne_of_lt (Nat.lt_of_lt_of_le B188.lt (Nat.le_of_eq g193.symm))) AP201 AW201 ⟨by decide, by decide⟩ rfl (Nat.le_of_ble_eq_true rfl) (Nat.le_of_ble_eq_true rfl) rfl
        have P207 : ∀ t, Sg p e below (T206.setTop (mkF m 98 #[sR a1, sR l1, sI sv, sR mb, sI 1, sR b188, sR b193, sI 0, sI 2] [])) t → Sg p e below (T0.setTop (mkF m 34 #[sR a1, sR l1, sI sv, sR mb, g4, g5, g6, g7, g8] [])) t := fun t k => P202 t (by
          exact st206 _ k)
        have Z208 : n0 ≤ h206.size := Nat.le_trans Z203 K206.1
        have K209 : Keep h0 h206 [] := K204.trans K206 ((allS (Or.inr sz_b193) all0))
        have AW206 : Arv Z h206 b193 k193 .long (1 : Int32) [(.long (((0 : Int64) ||| own_bit x0) ||| own_bit x1))] (.long (0 : Int64)) := u206_0
        have f210 := (f205.keep K206 (ninS (Nat.ne_of_lt (Nat.lt_of_lt_of_le (f186.ext E188).lt (Nat.le_of_eq g193.symm))) nin0))
        have f211 := (AP201.keep K206 (ninS (Nat.ne_of_lt (Nat.lt_of_lt_of_le B188.lt (Nat.le_of_eq g193.symm))) nin0))
        obtain ⟨T212, h212, L212, X212, e212, Nq212, K212, u212_0, st212⟩ := pc_t2s a1 l1 mb b188 b193 kM k188 k193 sv (3 : Int32) (1 : Int32) (1 : Int32) x2 (0 : Int32) (2 : Int32) x1 (((0 : Int64) ||| own_bit x0) ||| own_bit x1) [(.int x0), (.int x1), (.int x2)] [(.int (own_sh x0))] [(.long (((0 : Int64) ||| own_bit x0) ||| own_bit x1))] 0 X206 hx hZ hw hby hml hown e206 Nq206 Z208 (by omega) (by omega) (Nat.le_trans (Nat.le_of_ble_eq_true rfl) hfr) (Nat.le_trans (Nat.le_of_ble_eq_true rfl) hlo) f210 (by decide) ⟨by decide, by decide⟩ rfl (by decide) ⟨by decide, by decide⟩ rfl q180 g_b188 g_b193 (Nat.ne_of_lt (Nat.lt_of_lt_of_le f186.lt (Nat.le_of_eq g188.symm))) (Nat.ne_of_lt (Nat.lt_of_lt_of_le B188.lt (Nat.le_of_eq g193.symm))) f211 AW206 ⟨by decide, by decide⟩ rfl (Nat.le_of_ble_eq_true rfl) (Nat.le_of_ble_eq_true rfl) rfl
        have P213 : ∀ t, Sg p e below (T212.setTop (mkF m 98 #[sR a1, sR l1, sI sv, sR mb, sI 1, sR b188, sR b193, sI 0, sI 3] [])) t → Sg p e below (T0.setTop (mkF m 34 #[sR a1, sR l1, sI sv, sR mb, g4, g5, g6, g7, g8] [])) t := fun t k => P207 t (by
          exact st212 _ k)
        have Z214 : n0 ≤ h212.size := Nat.le_trans Z208 K212.1
        have K215 : Keep h0 h212 [] := K209.trans K212 ((allS (Or.inr sz_b193) all0))
        have AW212 : Arv Z h212 b193 k193 .long (1 : Int32) [(.long ((((0 : Int64) ||| own_bit x0) ||| own_bit x1) ||| own_bit x2))] (.long (0 : Int64)) := u212_0
        have f216 := (f210.keep K212 (ninS (Nat.ne_of_lt (Nat.lt_of_lt_of_le (f186.ext E188).lt (Nat.le_of_eq g193.symm))) nin0))
        obtain ⟨cl217, Ar217, -, S217, N217, -, -⟩ := id f216
        have f218 := (f211.keep K212 (ninS (Nat.ne_of_lt (Nat.lt_of_lt_of_le B188.lt (Nat.le_of_eq g193.symm))) nin0))
        have f219 := ((((B188.ext E193).keep K201).keep K206).keep K212)
        have f220 := (((B193.keep K201).keep K206).keep K212)
        have P221 : ∀ t, Sg p e below (T212.setTop (mkF m 164 #[sR a1, sR l1, sI sv, sR mb, sI 1, sR b188, sR b193, sI 0, sI 3] [])) t → Sg p e below (T0.setTop (mkF m 34 #[sR a1, sR l1, sI sv, sR mb, g4, g5, g6, g7, g8] [])) t := fun t k => P213 t (by
          refine XS.iload X212.here hx rfl (hb hby dp22_1_98) rfl ?_
          refine XS.aloadN X212.here hx rfl (hb hby dp22_1_100) rfl rfl ?_
          show Sg p e below (T212.setTop (mkF m 101 #[sR a1, sR l1, sI sv, sR mb, sI 1, sR b188, sR b193, sI 0, sI 3] [(.ref mb), (.int (3 : Int32))])) _
          refine X212.arraylength hx (by rw [e212]; exact Ar217.1) (State.isArrayOf_alike hZ.alike Ar217.2.1) (g := (mkF m 101 #[sR a1, sR l1, sI sv, sR mb, sI 1, sR b188, sR b193, sI 0, sI 3] [(.ref mb), (.int (3 : Int32))])) rfl rfl (hb hby dp22_1_101) _ ?_
          rw [len_of S217 N217]
          show Sg p e below (T212.setTop (mkF m 102 #[sR a1, sR l1, sI sv, sR mb, sI 1, sR b188, sR b193, sI 0, sI 3] [(.int (3 : Int32)), (.int (3 : Int32))])) _
          refine XS.icmpYes X212.here hx rfl (pc0 := 102) (pc' := 164) rfl (hb hby dp22_1_102) rfl (flt (show ¬ ((3 : Int32) < (3 : Int32)) from (by decide))).2.1 (by decide) (by decide) ?_
          show Sg p e below (T212.setTop (mkF m 164 #[sR a1, sR l1, sI sv, sR mb, sI 1, sR b188, sR b193, sI 0, sI 3] [])) _
          exact k)
        exact ⟨T212, h212, _, b188, b193, k188, k193, ([(own_sh x0)] : List Int32), ([((((0 : Int64) ||| own_bit x0) ||| own_bit x1) ||| own_bit x2)] : List Int64), (1 : Int32), (0 : Int32), (3 : Int32), X212.more (by omega) (by omega), e212, Nq212, K215, ((if_pos q175).trans ((if_pos q180))).symm, ((if_pos q175).trans ((if_pos q180))).symm, rfl, f218, AW212, f219, f220, sz_b188, sz_b193, P221⟩
      · skip
        have f222 := (AM.keep K176 nin0)
        obtain ⟨T223, h223, L223, X223, e223, Nq223, K223, st223⟩ := pc_t1n a1 l1 mb kM sv (3 : Int32) (1 : Int32) (2 : Int32) x2 x1 [(.int x0), (.int x1), (.int x2)] g6 g7 g8 X176 hx hZ hw hby hml hown e176 Nq176 Z178 (by omega) (by omega) (Nat.le_trans (Nat.le_of_ble_eq_true rfl) hfr) (Nat.le_trans (Nat.le_of_ble_eq_true rfl) hlo) f222 (by decide) ⟨by decide, by decide⟩ rfl (by decide) ⟨by decide, by decide⟩ rfl q180
        have P224 : ∀ t, Sg p e below (T223.setTop (mkF m 40 #[sR a1, sR l1, sI sv, sR mb, sI 2, sI 3, g6, g7, g8] [])) t → Sg p e below (T0.setTop (mkF m 34 #[sR a1, sR l1, sI sv, sR mb, g4, g5, g6, g7, g8] [])) t := fun t k => P177 t (by
          exact st223 _ k)
        have Z225 : n0 ≤ h223.size := Nat.le_trans Z178 K223.1
        have K226 : Keep h0 h223 [] := K179.trans K223 (all0)
        have f227 := (f222.keep K223 nin0)
        obtain ⟨cl228, Ar228, -, S228, N228, -, -⟩ := id f227
        obtain ⟨T229, h229, k229, X229, e229, E229, A229, B229, st229⟩ := newPE X223 hx hZ (own_hw hw 9 rfl) e223 (g := (mkF m 82 #[sR a1, sR l1, sI sv, sR mb, sI 2, sI 3, g6, g7, g8] [(.int (2 : Int32))])) rfl (hb hby dp22_1_82) rfl (by decide) (cap := 2) (by decide) (by decide) (by omega) (by omega) (ad := "[I") (by decide)
        obtain ⟨b229, g229⟩ : ∃ z, z = h223.size := ⟨_, rfl⟩
        rw [← g229] at A229 B229 st229
        have g_b229 : n0 ≤ b229 := Nat.le_trans Z225 (Nat.le_of_eq g229.symm)
        have sz_b229 : h0.size ≤ b229 := Nat.le_trans K226.1 (Nat.le_of_eq g229.symm)
        have P230 : ∀ t, Sg p e below (T229.setTop (mkF m 84 #[sR a1, sR l1, sI sv, sR mb, sI 2, sI 3, g6, g7, g8] [(.ref b229)])) t → Sg p e below (T0.setTop (mkF m 34 #[sR a1, sR l1, sI sv, sR mb, g4, g5, g6, g7, g8] [])) t := fun t k => P224 t (by
          refine XS.iload X223.here hx rfl (hb hby dp22_1_40) rfl ?_
          refine XS.aloadN X223.here hx rfl (hb hby dp22_1_42) rfl rfl ?_
          show Sg p e below (T223.setTop (mkF m 43 #[sR a1, sR l1, sI sv, sR mb, sI 2, sI 3, g6, g7, g8] [(.ref mb), (.int (3 : Int32))])) _
          refine X223.arraylength hx (by rw [e223]; exact Ar228.1) (State.isArrayOf_alike hZ.alike Ar228.2.1) (g := (mkF m 43 #[sR a1, sR l1, sI sv, sR mb, sI 2, sI 3, g6, g7, g8] [(.ref mb), (.int (3 : Int32))])) rfl rfl (hb hby dp22_1_43) _ ?_
          rw [len_of S228 N228]
          show Sg p e below (T223.setTop (mkF m 44 #[sR a1, sR l1, sI sv, sR mb, sI 2, sI 3, g6, g7, g8] [(.int (3 : Int32)), (.int (3 : Int32))])) _
          refine XS.icmpYes X223.here hx rfl (pc0 := 44) (pc' := 80) rfl (hb hby dp22_1_44) rfl (flt (show ¬ ((3 : Int32) < (3 : Int32)) from (by decide))).2.1 (by decide) (by decide) ?_
          refine XS.iload X223.here hx rfl (hb hby dp22_1_80) rfl ?_
          show Sg p e below (T223.setTop (mkF m 82 #[sR a1, sR l1, sI sv, sR mb, sI 2, sI 3, g6, g7, g8] [(.int (2 : Int32))])) _
          exact st229 _ k)
        have Z231 : n0 ≤ h229.size := Nat.le_trans Z225 E229.1
        have K232 : Keep h0 h229 [] := K226.ext E229
        have v233 : Arv Z h229 b229 k229 .int (2 : Int32) [(.int (0 : Int32)), (.int (0 : Int32))] (.int (0 : Int32)) := (Arv.new A229 (by decide)).pad (pad_rep [] (.int (0 : Int32)) 2)
        obtain ⟨T234, h234, k234, X234, e234, E234, A234, B234, st234⟩ := newPE X229 hx hZ (own_hw hw 29 rfl) e229 (g := (mkF m 88 #[sR a1, sR l1, sI sv, sR mb, sI 2, sR b229, g6, g7, g8] [(.int (2 : Int32))])) rfl (hb hby dp22_1_88) rfl (by decide) (cap := 2) (by decide) (by decide) (by omega) (by omega) (ad := "[J") (by decide)
        obtain ⟨b234, g234⟩ : ∃ z, z = h229.size := ⟨_, rfl⟩
        rw [← g234] at A234 B234 st234
        have g_b234 : n0 ≤ b234 := Nat.le_trans Z231 (Nat.le_of_eq g234.symm)
        have sz_b234 : h0.size ≤ b234 := Nat.le_trans K232.1 (Nat.le_of_eq g234.symm)
        have P235 : ∀ t, Sg p e below (T234.setTop (mkF m 90 #[sR a1, sR l1, sI sv, sR mb, sI 2, sR b229, g6, g7, g8] [(.ref b234)])) t → Sg p e below (T0.setTop (mkF m 34 #[sR a1, sR l1, sI sv, sR mb, g4, g5, g6, g7, g8] [])) t := fun t k => P230 t (by
          refine XS.astore X229.here hx rfl (hb hby dp22_1_84) rfl rfl (l' := #[sR a1, sR l1, sI sv, sR mb, sI 2, sR b229, g6, g7, g8]) rfl ?_
          refine XS.iload X229.here hx rfl (hb hby dp22_1_86) rfl ?_
          show Sg p e below (T229.setTop (mkF m 88 #[sR a1, sR l1, sI sv, sR mb, sI 2, sR b229, g6, g7, g8] [(.int (2 : Int32))])) _
          exact st234 _ k)
        have Z236 : n0 ≤ h234.size := Nat.le_trans Z231 E234.1
        have K237 : Keep h0 h234 [] := K232.ext E234
        have v238 : Arv Z h234 b234 k234 .long (2 : Int32) [(.long (0 : Int64)), (.long (0 : Int64))] (.long (0 : Int64)) := (Arv.new A234 (by decide)).pad (pad_rep [] (.long (0 : Int64)) 2)
        have f239 := ((f227.ext E229).ext E234)
        have f240 := (v233.ext E234)
        have P241 : ∀ t, Sg p e below (T234.setTop (mkF m 98 #[sR a1, sR l1, sI sv, sR mb, sI 2, sR b229, sR b234, sI (-1), sI 0] [])) t → Sg p e below (T0.setTop (mkF m 34 #[sR a1, sR l1, sI sv, sR mb, g4, g5, g6, g7, g8] [])) t := fun t k => P235 t (by
          refine XS.astoreS X234.here hx rfl (hb hby dp22_1_90) rfl rfl rfl rfl ho6 ?_
          show Sg p e below (T234.setTop (mkF m 92 #[sR a1, sR l1, sI sv, sR mb, sI 2, sR b229, sR b234, g7, g8] [])) _
          refine XS.iconst X234.here hx rfl (hb hby dp22_1_92) ?_
          refine XS.istoreS X234.here hx rfl (hb hby dp22_1_93) rfl rfl ho7 ?_
          show Sg p e below (T234.setTop (mkF m 95 #[sR a1, sR l1, sI sv, sR mb, sI 2, sR b229, sR b234, sI (-1), g8] [])) _
          refine XS.iconst X234.here hx rfl (hb hby dp22_1_95) ?_
          refine XS.istoreS X234.here hx rfl (hb hby dp22_1_96) rfl rfl ho8 ?_
          show Sg p e below (T234.setTop (mkF m 98 #[sR a1, sR l1, sI sv, sR mb, sI 2, sR b229, sR b234, sI (-1), sI 0] [])) _
          exact k)
        obtain ⟨T242, h242, L242, X242, e242, Nq242, K242, u242_0, u242_1, st242⟩ := pc_t2f a1 l1 mb b229 b234 kM k229 k234 sv (3 : Int32) (2 : Int32) (2 : Int32) x0 (0 : Int64) [(.int x0), (.int x1), (.int x2)] [(.int (0 : Int32)), (.int (0 : Int32))] [(.long (0 : Int64)), (.long (0 : Int64))] X234 hx hZ hw hby hml hown e234 Nq223 Z236 (by omega) (by omega) (Nat.le_trans (Nat.le_of_ble_eq_true rfl) hfr) (Nat.le_trans (Nat.le_of_ble_eq_true rfl) hlo) f239 (by decide) ⟨by decide, by decide⟩ rfl g_b229 g_b234 (Nat.ne_of_lt (Nat.lt_of_lt_of_le f227.lt (Nat.le_of_eq g229.symm))) (Nat.ne_of_lt (Nat.lt_of_lt_of_le B229.lt (Nat.le_of_eq g234.symm))) f240 v238 ⟨by decide, by decide⟩ rfl (Nat.le_of_ble_eq_true rfl) (Nat.le_of_ble_eq_true rfl) rfl
        have P243 : ∀ t, Sg p e below (T242.setTop (mkF m 98 #[sR a1, sR l1, sI sv, sR mb, sI 2, sR b229, sR b234, sI 0, sI 1] [])) t → Sg p e below (T0.setTop (mkF m 34 #[sR a1, sR l1, sI sv, sR mb, g4, g5, g6, g7, g8] [])) t := fun t k => P241 t (by
          exact st242 _ k)
        have Z244 : n0 ≤ h242.size := Nat.le_trans Z236 K242.1
        have K245 : Keep h0 h242 [] := K237.trans K242 ((allS (Or.inr sz_b229) (allS (Or.inr sz_b234) all0)))
        have AP242 : Arv Z h242 b229 k229 .int (2 : Int32) [(.int (own_sh x0)), (.int (0 : Int32))] (.int (0 : Int32)) := u242_0
        have AW242 : Arv Z h242 b234 k234 .long (2 : Int32) [(.long ((0 : Int64) ||| own_bit x0)), (.long (0 : Int64))] (.long (0 : Int64)) := u242_1
        have f246 := (f239.keep K242 (ninS (Nat.ne_of_lt (Nat.lt_of_lt_of_le f227.lt (Nat.le_of_eq g229.symm))) (ninS (Nat.ne_of_lt (Nat.lt_of_lt_of_le (f227.ext E229).lt (Nat.le_of_eq g234.symm))) nin0)))
        obtain ⟨T247, h247, L247, X247, e247, Nq247, K247, u247_0, st247⟩ := pc_t2s a1 l1 mb b229 b234 kM k229 k234 sv (3 : Int32) (2 : Int32) (2 : Int32) x1 (0 : Int32) (1 : Int32) x0 ((0 : Int64) ||| own_bit x0) [(.int x0), (.int x1), (.int x2)] [(.int (own_sh x0)), (.int (0 : Int32))] [(.long ((0 : Int64) ||| own_bit x0)), (.long (0 : Int64))] 0 X242 hx hZ hw hby hml hown e242 Nq242 Z244 (by omega) (by omega) (Nat.le_trans (Nat.le_of_ble_eq_true rfl) hfr) (Nat.le_trans (Nat.le_of_ble_eq_true rfl) hlo) f246 (by decide) ⟨by decide, by decide⟩ rfl (by decide) ⟨by decide, by decide⟩ rfl q175 g_b229 g_b234 (Nat.ne_of_lt (Nat.lt_of_lt_of_le f227.lt (Nat.le_of_eq g229.symm))) (Nat.ne_of_lt (Nat.lt_of_lt_of_le B229.lt (Nat.le_of_eq g234.symm))) AP242 AW242 ⟨by decide, by decide⟩ rfl (Nat.le_of_ble_eq_true rfl) (Nat.le_of_ble_eq_true rfl) rfl
        have P248 : ∀ t, Sg p e below (T247.setTop (mkF m 98 #[sR a1, sR l1, sI sv, sR mb, sI 2, sR b229, sR b234, sI 0, sI 2] [])) t → Sg p e below (T0.setTop (mkF m 34 #[sR a1, sR l1, sI sv, sR mb, g4, g5, g6, g7, g8] [])) t := fun t k => P243 t (by
          exact st247 _ k)
        have Z249 : n0 ≤ h247.size := Nat.le_trans Z244 K247.1
        have K250 : Keep h0 h247 [] := K245.trans K247 ((allS (Or.inr sz_b234) all0))
        have AW247 : Arv Z h247 b234 k234 .long (2 : Int32) [(.long (((0 : Int64) ||| own_bit x0) ||| own_bit x1)), (.long (0 : Int64))] (.long (0 : Int64)) := u247_0
        have f251 := (f246.keep K247 (ninS (Nat.ne_of_lt (Nat.lt_of_lt_of_le (f227.ext E229).lt (Nat.le_of_eq g234.symm))) nin0))
        have f252 := (AP242.keep K247 (ninS (Nat.ne_of_lt (Nat.lt_of_lt_of_le B229.lt (Nat.le_of_eq g234.symm))) nin0))
        obtain ⟨T253, h253, L253, X253, e253, Nq253, K253, u253_0, u253_1, st253⟩ := pc_t2n a1 l1 mb b229 b234 kM k229 k234 sv (3 : Int32) (2 : Int32) (2 : Int32) x2 (0 : Int32) (2 : Int32) x1 (0 : Int64) [(.int x0), (.int x1), (.int x2)] [(.int (own_sh x0)), (.int (0 : Int32))] [(.long (((0 : Int64) ||| own_bit x0) ||| own_bit x1)), (.long (0 : Int64))] 1 X247 hx hZ hw hby hml hown e247 Nq247 Z249 (by omega) (by omega) (Nat.le_trans (Nat.le_of_ble_eq_true rfl) hfr) (Nat.le_trans (Nat.le_of_ble_eq_true rfl) hlo) f251 (by decide) ⟨by decide, by decide⟩ rfl (by decide) ⟨by decide, by decide⟩ rfl q180 g_b229 g_b234 (Nat.ne_of_lt (Nat.lt_of_lt_of_le f227.lt (Nat.le_of_eq g229.symm))) (Nat.ne_of_lt (Nat.lt_of_lt_of_le B229.lt (Nat.le_of_eq g234.symm))) f252 AW247 ⟨by decide, by decide⟩ rfl (Nat.le_of_ble_eq_true rfl) (Nat.le_of_ble_eq_true rfl) rfl
        have P254 : ∀ t, Sg p e below (T253.setTop (mkF m 98 #[sR a1, sR l1, sI sv, sR mb, sI 2, sR b229, sR b234, sI 1, sI 3] [])) t → Sg p e below (T0.setTop (mkF m 34 #[sR a1, sR l1, sI sv, sR mb, g4, g5, g6, g7, g8] [])) t := fun t k => P248 t (by
          exact st253 _ k)
        have Z255 : n0 ≤ h253.size := Nat.le_trans Z249 K253.1
        have K256 : Keep h0 h253 [] := K250.trans K253 ((allS (Or.inr sz_b229) (allS (Or.inr sz_b234) all0)))
        have AP253 : Arv Z h253 b229 k229 .int (2 : Int32) [(.int (own_sh x0)), (.int (own_sh x2))] (.int (0 : Int32)) := u253_0
        have AW253 : Arv Z h253 b234 k234 .long (2 : Int32) [(.long (((0 : Int64) ||| own_bit x0) ||| own_bit x1)), (.long ((0 : Int64) ||| own_bit x2))] (.long (0 : Int64)) := u253_1
        have f257 := (f251.keep K253 (ninS (Nat.ne_of_lt (Nat.lt_of_lt_of_le f227.lt (Nat.le_of_eq g229.symm))) (ninS (Nat.ne_of_lt (Nat.lt_of_lt_of_le (f227.ext E229).lt (Nat.le_of_eq g234.symm))) nin0)))
        obtain ⟨cl258, Ar258, -, S258, N258, -, -⟩ := id f257
        have f259 := ((((B229.ext E234).keep K242).keep K247).keep K253)
        have f260 := (((B234.keep K242).keep K247).keep K253)
        have P261 : ∀ t, Sg p e below (T253.setTop (mkF m 164 #[sR a1, sR l1, sI sv, sR mb, sI 2, sR b229, sR b234, sI 1, sI 3] [])) t → Sg p e below (T0.setTop (mkF m 34 #[sR a1, sR l1, sI sv, sR mb, g4, g5, g6, g7, g8] [])) t := fun t k => P254 t (by
          refine XS.iload X253.here hx rfl (hb hby dp22_1_98) rfl ?_
          refine XS.aloadN X253.here hx rfl (hb hby dp22_1_100) rfl rfl ?_
          show Sg p e below (T253.setTop (mkF m 101 #[sR a1, sR l1, sI sv, sR mb, sI 2, sR b229, sR b234, sI 1, sI 3] [(.ref mb), (.int (3 : Int32))])) _
          refine X253.arraylength hx (by rw [e253]; exact Ar258.1) (State.isArrayOf_alike hZ.alike Ar258.2.1) (g := (mkF m 101 #[sR a1, sR l1, sI sv, sR mb, sI 2, sR b229, sR b234, sI 1, sI 3] [(.ref mb), (.int (3 : Int32))])) rfl rfl (hb hby dp22_1_101) _ ?_
          rw [len_of S258 N258]
          show Sg p e below (T253.setTop (mkF m 102 #[sR a1, sR l1, sI sv, sR mb, sI 2, sR b229, sR b234, sI 1, sI 3] [(.int (3 : Int32)), (.int (3 : Int32))])) _
          refine XS.icmpYes X253.here hx rfl (pc0 := 102) (pc' := 164) rfl (hb hby dp22_1_102) rfl (flt (show ¬ ((3 : Int32) < (3 : Int32)) from (by decide))).2.1 (by decide) (by decide) ?_
          show Sg p e below (T253.setTop (mkF m 164 #[sR a1, sR l1, sI sv, sR mb, sI 2, sR b229, sR b234, sI 1, sI 3] [])) _
          exact k)
        exact ⟨T253, h253, _, b229, b234, k229, k234, ([(own_sh x0), (own_sh x2)] : List Int32), ([(((0 : Int64) ||| own_bit x0) ||| own_bit x1), ((0 : Int64) ||| own_bit x2)] : List Int64), (2 : Int32), (1 : Int32), (3 : Int32), X253.more (by omega) (by omega), e253, Nq253, K256, ((if_pos q175).trans ((if_neg q180))).symm, ((if_pos q175).trans ((if_neg q180))).symm, rfl, AP253, AW253, f259, f260, sz_b229, sz_b234, P261⟩
    · skip
      obtain ⟨T262, h262, L262, X262, e262, Nq262, K262, st262⟩ := pc_t1n a1 l1 mb kM sv (3 : Int32) (1 : Int32) (1 : Int32) x1 x0 [(.int x0), (.int x1), (.int x2)] g6 g7 g8 X0 hx hZ hw hby hml hown e0 N0 Z0 (by omega) (by omega) (Nat.le_trans (Nat.le_of_ble_eq_true rfl) hfr) (Nat.le_trans (Nat.le_of_ble_eq_true rfl) hlo) AM (by decide) ⟨by decide, by decide⟩ rfl (by decide) ⟨by decide, by decide⟩ rfl q175
      have P263 : ∀ t, Sg p e below (T262.setTop (mkF m 40 #[sR a1, sR l1, sI sv, sR mb, sI 2, sI 2, g6, g7, g8] [])) t → Sg p e below (T0.setTop (mkF m 34 #[sR a1, sR l1, sI sv, sR mb, g4, g5, g6, g7, g8] [])) t := fun t k => P174 t (by
        exact st262 _ k)
      have Z264 : n0 ≤ h262.size := Nat.le_trans Z0 K262.1
      have K265 : Keep h0 h262 [] := (Keep.refl h0 []).trans K262 (all0)
      by_cases q266 : own_sh x2 = own_sh x1
      · skip
        have f267 := (AM.keep K262 nin0)
        obtain ⟨T268, h268, L268, X268, e268, Nq268, K268, st268⟩ := pc_t1s a1 l1 mb kM sv (3 : Int32) (2 : Int32) (2 : Int32) x2 x1 [(.int x0), (.int x1), (.int x2)] g6 g7 g8 X262 hx hZ hw hby hml hown e262 Nq262 Z264 (by omega) (by omega) (Nat.le_trans (Nat.le_of_ble_eq_true rfl) hfr) (Nat.le_trans (Nat.le_of_ble_eq_true rfl) hlo) f267 (by decide) ⟨by decide, by decide⟩ rfl (by decide) ⟨by decide, by decide⟩ rfl q266
        have P269 : ∀ t, Sg p e below (T268.setTop (mkF m 40 #[sR a1, sR l1, sI sv, sR mb, sI 2, sI 3, g6, g7, g8] [])) t → Sg p e below (T0.setTop (mkF m 34 #[sR a1, sR l1, sI sv, sR mb, g4, g5, g6, g7, g8] [])) t := fun t k => P263 t (by
          exact st268 _ k)
        have Z270 : n0 ≤ h268.size := Nat.le_trans Z264 K268.1
        have K271 : Keep h0 h268 [] := K265.trans K268 (all0)
        have f272 := (f267.keep K268 nin0)
        obtain ⟨cl273, Ar273, -, S273, N273, -, -⟩ := id f272
        obtain ⟨T274, h274, k274, X274, e274, E274, A274, B274, st274⟩ := newPE X268 hx hZ (own_hw hw 9 rfl) e268 (g := (mkF m 82 #[sR a1, sR l1, sI sv, sR mb, sI 2, sI 3, g6, g7, g8] [(.int (2 : Int32))])) rfl (hb hby dp22_1_82) rfl (by decide) (cap := 2) (by decide) (by decide) (by omega) (by omega) (ad := "[I") (by decide)
        obtain ⟨b274, g274⟩ : ∃ z, z = h268.size := ⟨_, rfl⟩
        rw [← g274] at A274 B274 st274
        have g_b274 : n0 ≤ b274 := Nat.le_trans Z270 (Nat.le_of_eq g274.symm)
        have sz_b274 : h0.size ≤ b274 := Nat.le_trans K271.1 (Nat.le_of_eq g274.symm)
        have P275 : ∀ t, Sg p e below (T274.setTop (mkF m 84 #[sR a1, sR l1, sI sv, sR mb, sI 2, sI 3, g6, g7, g8] [(.ref b274)])) t → Sg p e below (T0.setTop (mkF m 34 #[sR a1, sR l1, sI sv, sR mb, g4, g5, g6, g7, g8] [])) t := fun t k => P269 t (by
          refine XS.iload X268.here hx rfl (hb hby dp22_1_40) rfl ?_
          refine XS.aloadN X268.here hx rfl (hb hby dp22_1_42) rfl rfl ?_
          show Sg p e below (T268.setTop (mkF m 43 #[sR a1, sR l1, sI sv, sR mb, sI 2, sI 3, g6, g7, g8] [(.ref mb), (.int (3 : Int32))])) _
          refine X268.arraylength hx (by rw [e268]; exact Ar273.1) (State.isArrayOf_alike hZ.alike Ar273.2.1) (g := (mkF m 43 #[sR a1, sR l1, sI sv, sR mb, sI 2, sI 3, g6, g7, g8] [(.ref mb), (.int (3 : Int32))])) rfl rfl (hb hby dp22_1_43) _ ?_
          rw [len_of S273 N273]
          show Sg p e below (T268.setTop (mkF m 44 #[sR a1, sR l1, sI sv, sR mb, sI 2, sI 3, g6, g7, g8] [(.int (3 : Int32)), (.int (3 : Int32))])) _
          refine XS.icmpYes X268.here hx rfl (pc0 := 44) (pc' := 80) rfl (hb hby dp22_1_44) rfl (flt (show ¬ ((3 : Int32) < (3 : Int32)) from (by decide))).2.1 (by decide) (by decide) ?_
          refine XS.iload X268.here hx rfl (hb hby dp22_1_80) rfl ?_
          show Sg p e below (T268.setTop (mkF m 82 #[sR a1, sR l1, sI sv, sR mb, sI 2, sI 3, g6, g7, g8] [(.int (2 : Int32))])) _
          exact st274 _ k)
        have Z276 : n0 ≤ h274.size := Nat.le_trans Z270 E274.1
        have K277 : Keep h0 h274 [] := K271.ext E274
        have v278 : Arv Z h274 b274 k274 .int (2 : Int32) [(.int (0 : Int32)), (.int (0 : Int32))] (.int (0 : Int32)) := (Arv.new A274 (by decide)).pad (pad_rep [] (.int (0 : Int32)) 2)
        obtain ⟨T279, h279, k279, X279, e279, E279, A279, B279, st279⟩ := newPE X274 hx hZ (own_hw hw 29 rfl) e274 (g := (mkF m 88 #[sR a1, sR l1, sI sv, sR mb, sI 2, sR b274, g6, g7, g8] [(.int (2 : Int32))])) rfl (hb hby dp22_1_88) rfl (by decide) (cap := 2) (by decide) (by decide) (by omega) (by omega) (ad := "[J") (by decide)
        obtain ⟨b279, g279⟩ : ∃ z, z = h274.size := ⟨_, rfl⟩
        rw [← g279] at A279 B279 st279
        have g_b279 : n0 ≤ b279 := Nat.le_trans Z276 (Nat.le_of_eq g279.symm)
        have sz_b279 : h0.size ≤ b279 := Nat.le_trans K277.1 (Nat.le_of_eq g279.symm)
        have P280 : ∀ t, Sg p e below (T279.setTop (mkF m 90 #[sR a1, sR l1, sI sv, sR mb, sI 2, sR b274, g6, g7, g8] [(.ref b279)])) t → Sg p e below (T0.setTop (mkF m 34 #[sR a1, sR l1, sI sv, sR mb, g4, g5, g6, g7, g8] [])) t := fun t k => P275 t (by
          refine XS.astore X274.here hx rfl (hb hby dp22_1_84) rfl rfl (l' := #[sR a1, sR l1, sI sv, sR mb, sI 2, sR b274, g6, g7, g8]) rfl ?_
          refine XS.iload X274.here hx rfl (hb hby dp22_1_86) rfl ?_
          show Sg p e below (T274.setTop (mkF m 88 #[sR a1, sR l1, sI sv, sR mb, sI 2, sR b274, g6, g7, g8] [(.int (2 : Int32))])) _
          exact st279 _ k)
        have Z281 : n0 ≤ h279.size := Nat.le_trans Z276 E279.1
        have K282 : Keep h0 h279 [] := K277.ext E279
        have v283 : Arv Z h279 b279 k279 .long (2 : Int32) [(.long (0 : Int64)), (.long (0 : Int64))] (.long (0 : Int64)) := (Arv.new A279 (by decide)).pad (pad_rep [] (.long (0 : Int64)) 2)
        have f284 := ((f272.ext E274).ext E279)
        have f285 := (v278.ext E279)
        have P286 : ∀ t, Sg p e below (T279.setTop (mkF m 98 #[sR a1, sR l1, sI sv, sR mb, sI 2, sR b274, sR b279, sI (-1), sI 0] [])) t → Sg p e below (T0.setTop (mkF m 34 #[sR a1, sR l1, sI sv, sR mb, g4, g5, g6, g7, g8] [])) t := fun t k => P280 t (by
          refine XS.astoreS X279.here hx rfl (hb hby dp22_1_90) rfl rfl rfl rfl ho6 ?_
          show Sg p e below (T279.setTop (mkF m 92 #[sR a1, sR l1, sI sv, sR mb, sI 2, sR b274, sR b279, g7, g8] [])) _
          refine XS.iconst X279.here hx rfl (hb hby dp22_1_92) ?_
          refine XS.istoreS X279.here hx rfl (hb hby dp22_1_93) rfl rfl ho7 ?_
          show Sg p e below (T279.setTop (mkF m 95 #[sR a1, sR l1, sI sv, sR mb, sI 2, sR b274, sR b279, sI (-1), g8] [])) _
          refine XS.iconst X279.here hx rfl (hb hby dp22_1_95) ?_
          refine XS.istoreS X279.here hx rfl (hb hby dp22_1_96) rfl rfl ho8 ?_
          show Sg p e below (T279.setTop (mkF m 98 #[sR a1, sR l1, sI sv, sR mb, sI 2, sR b274, sR b279, sI (-1), sI 0] [])) _
          exact k)
        obtain ⟨T287, h287, L287, X287, e287, Nq287, K287, u287_0, u287_1, st287⟩ := pc_t2f a1 l1 mb b274 b279 kM k274 k279 sv (3 : Int32) (2 : Int32) (2 : Int32) x0 (0 : Int64) [(.int x0), (.int x1), (.int x2)] [(.int (0 : Int32)), (.int (0 : Int32))] [(.long (0 : Int64)), (.long (0 : Int64))] X279 hx hZ hw hby hml hown e279 Nq268 Z281 (by omega) (by omega) (Nat.le_trans (Nat.le_of_ble_eq_true rfl) hfr) (Nat.le_trans (Nat.le_of_ble_eq_true rfl) hlo) f284 (by decide) ⟨by decide, by decide⟩ rfl g_b274 g_b279 (Nat.ne_of_lt (Nat.lt_of_lt_of_le f272.lt (Nat.le_of_eq g274.symm))) (Nat.ne_of_lt (Nat.lt_of_lt_of_le B274.lt (Nat.le_of_eq g279.symm))) f285 v283 ⟨by decide, by decide⟩ rfl (Nat.le_of_ble_eq_true rfl) (Nat.le_of_ble_eq_true rfl) rfl
        have P288 : ∀ t, Sg p e below (T287.setTop (mkF m 98 #[sR a1, sR l1, sI sv, sR mb, sI 2, sR b274, sR b279, sI 0, sI 1] [])) t → Sg p e below (T0.setTop (mkF m 34 #[sR a1, sR l1, sI sv, sR mb, g4, g5, g6, g7, g8] [])) t := fun t k => P286 t (by
          exact st287 _ k)
        have Z289 : n0 ≤ h287.size := Nat.le_trans Z281 K287.1
        have K290 : Keep h0 h287 [] := K282.trans K287 ((allS (Or.inr sz_b274) (allS (Or.inr sz_b279) all0)))
        have AP287 : Arv Z h287 b274 k274 .int (2 : Int32) [(.int (own_sh x0)), (.int (0 : Int32))] (.int (0 : Int32)) := u287_0
        have AW287 : Arv Z h287 b279 k279 .long (2 : Int32) [(.long ((0 : Int64) ||| own_bit x0)), (.long (0 : Int64))] (.long (0 : Int64)) := u287_1
        have f291 := (f284.keep K287 (ninS (Nat.ne_of_lt (Nat.lt_of_lt_of_le f272.lt (Nat.le_of_eq g274.symm))) (ninS (Nat.ne_of_lt (Nat.lt_of_lt_of_le (f272.ext E274).lt (Nat.le_of_eq g279.symm))) nin0)))
        obtain ⟨T292, h292, L292, X292, e292, Nq292, K292, u292_0, u292_1, st292⟩ := pc_t2n a1 l1 mb b274 b279 kM k274 k279 sv (3 : Int32) (2 : Int32) (2 : Int32) x1 (0 : Int32) (1 : Int32) x0 (0 : Int64) [(.int x0), (.int x1), (.int x2)] [(.int (own_sh x0)), (.int (0 : Int32))] [(.long ((0 : Int64) ||| own_bit x0)), (.long (0 : Int64))] 1 X287 hx hZ hw hby hml hown e287 Nq287 Z289 (by omega) (by omega) (Nat.le_trans (Nat.le_of_ble_eq_true rfl) hfr) (Nat.le_trans (Nat.le_of_ble_eq_true rfl) hlo) f291 (by decide) ⟨by decide, by decide⟩ rfl (by decide) ⟨by decide, by decide⟩ rfl q175 g_b274 g_b279 (Nat.ne_of_lt (Nat.lt_of_lt_of_le f272.lt (Nat.le_of_eq g274.symm))) (Nat.ne_of_lt (Nat.lt_of_lt_of_le B274.lt (Nat.le_of_eq g279.symm))) AP287 AW287 ⟨by decide, by decide⟩ rfl (Nat.le_of_ble_eq_true rfl) (Nat.le_of_ble_eq_true rfl) rfl
        have P293 : ∀ t, Sg p e below (T292.setTop (mkF m 98 #[sR a1, sR l1, sI sv, sR mb, sI 2, sR b274, sR b279, sI 1, sI 2] [])) t → Sg p e below (T0.setTop (mkF m 34 #[sR a1, sR l1, sI sv, sR mb, g4, g5, g6, g7, g8] [])) t := fun t k => P288 t (by
          exact st292 _ k)
        have Z294 : n0 ≤ h292.size := Nat.le_trans Z289 K292.1
        have K295 : Keep h0 h292 [] := K290.trans K292 ((allS (Or.inr sz_b274) (allS (Or.inr sz_b279) all0)))
        have AP292 : Arv Z h292 b274 k274 .int (2 : Int32) [(.int (own_sh x0)), (.int (own_sh x1))] (.int (0 : Int32)) := u292_0
        have AW292 : Arv Z h292 b279 k279 .long (2 : Int32) [(.long ((0 : Int64) ||| own_bit x0)), (.long ((0 : Int64) ||| own_bit x1))] (.long (0 : Int64)) := u292_1
        have f296 := (f291.keep K292 (ninS (Nat.ne_of_lt (Nat.lt_of_lt_of_le f272.lt (Nat.le_of_eq g274.symm))) (ninS (Nat.ne_of_lt (Nat.lt_of_lt_of_le (f272.ext E274).lt (Nat.le_of_eq g279.symm))) nin0)))
        obtain ⟨T297, h297, L297, X297, e297, Nq297, K297, u297_0, st297⟩ := pc_t2s a1 l1 mb b274 b279 kM k274 k279 sv (3 : Int32) (2 : Int32) (2 : Int32) x2 (1 : Int32) (2 : Int32) x1 ((0 : Int64) ||| own_bit x1) [(.int x0), (.int x1), (.int x2)] [(.int (own_sh x0)), (.int (own_sh x1))] [(.long ((0 : Int64) ||| own_bit x0)), (.long ((0 : Int64) ||| own_bit x1))] 1 X292 hx hZ hw hby hml hown e292 Nq292 Z294 (by omega) (by omega) (Nat.le_trans (Nat.le_of_ble_eq_true rfl) hfr) (Nat.le_trans (Nat.le_of_ble_eq_true rfl) hlo) f296 (by decide) ⟨by decide, by decide⟩ rfl (by decide) ⟨by decide, by decide⟩ rfl q266 g_b274 g_b279 (Nat.ne_of_lt (Nat.lt_of_lt_of_le f272.lt (Nat.le_of_eq g274.symm))) (Nat.ne_of_lt (Nat.lt_of_lt_of_le B274.lt (Nat.le_of_eq g279.symm))) AP292 AW292 ⟨by decide, by decide⟩ rfl (Nat.le_of_ble_eq_true rfl) (Nat.le_of_ble_eq_true rfl) rfl
        have P298 : ∀ t, Sg p e below (T297.setTop (mkF m 98 #[sR a1, sR l1, sI sv, sR mb, sI 2, sR b274, sR b279, sI 1, sI 3] [])) t → Sg p e below (T0.setTop (mkF m 34 #[sR a1, sR l1, sI sv, sR mb, g4, g5, g6, g7, g8] [])) t := fun t k => P293 t (by
          exact st297 _ k)
        have Z299 : n0 ≤ h297.size := Nat.le_trans Z294 K297.1
        have K300 : Keep h0 h297 [] := K295.trans K297 ((allS (Or.inr sz_b279) all0))
        have AW297 : Arv Z h297 b279 k279 .long (2 : Int32) [(.long ((0 : Int64) ||| own_bit x0)), (.long (((0 : Int64) ||| own_bit x1) ||| own_bit x2))] (.long (0 : Int64)) := u297_0
        have f301 := (f296.keep K297 (ninS (Nat.ne_of_lt (Nat.lt_of_lt_of_le (f272.ext E274).lt (Nat.le_of_eq g279.symm))) nin0))
        obtain ⟨cl302, Ar302, -, S302, N302, -, -⟩ := id f301
        have f303 := (AP292.keep K297 (ninS (Nat.ne_of_lt (Nat.lt_of_lt_of_le B274.lt (Nat.le_of_eq g279.symm))) nin0))
        have f304 := ((((B274.ext E279).keep K287).keep K292).keep K297)
        have f305 := (((B279.keep K287).keep K292).keep K297)
        have P306 : ∀ t, Sg p e below (T297.setTop (mkF m 164 #[sR a1, sR l1, sI sv, sR mb, sI 2, sR b274, sR b279, sI 1, sI 3] [])) t → Sg p e below (T0.setTop (mkF m 34 #[sR a1, sR l1, sI sv, sR mb, g4, g5, g6, g7, g8] [])) t := fun t k => P298 t (by
          refine XS.iload X297.here hx rfl (hb hby dp22_1_98) rfl ?_
          refine XS.aloadN X297.here hx rfl (hb hby dp22_1_100) rfl rfl ?_
          show Sg p e below (T297.setTop (mkF m 101 #[sR a1, sR l1, sI sv, sR mb, sI 2, sR b274, sR b279, sI 1, sI 3] [(.ref mb), (.int (3 : Int32))])) _
          refine X297.arraylength hx (by rw [e297]; exact Ar302.1) (State.isArrayOf_alike hZ.alike Ar302.2.1) (g := (mkF m 101 #[sR a1, sR l1, sI sv, sR mb, sI 2, sR b274, sR b279, sI 1, sI 3] [(.ref mb), (.int (3 : Int32))])) rfl rfl (hb hby dp22_1_101) _ ?_
          rw [len_of S302 N302]
          show Sg p e below (T297.setTop (mkF m 102 #[sR a1, sR l1, sI sv, sR mb, sI 2, sR b274, sR b279, sI 1, sI 3] [(.int (3 : Int32)), (.int (3 : Int32))])) _
          refine XS.icmpYes X297.here hx rfl (pc0 := 102) (pc' := 164) rfl (hb hby dp22_1_102) rfl (flt (show ¬ ((3 : Int32) < (3 : Int32)) from (by decide))).2.1 (by decide) (by decide) ?_
          show Sg p e below (T297.setTop (mkF m 164 #[sR a1, sR l1, sI sv, sR mb, sI 2, sR b274, sR b279, sI 1, sI 3] [])) _
          exact k)
        exact ⟨T297, h297, _, b274, b279, k274, k279, ([(own_sh x0), (own_sh x1)] : List Int32), ([((0 : Int64) ||| own_bit x0), (((0 : Int64) ||| own_bit x1) ||| own_bit x2)] : List Int64), (2 : Int32), (1 : Int32), (3 : Int32), X297.more (by omega) (by omega), e297, Nq297, K300, ((if_neg q175).trans ((if_pos q266))).symm, ((if_neg q175).trans ((if_pos q266))).symm, rfl, f303, AW297, f304, f305, sz_b274, sz_b279, P306⟩
      · skip
        have f307 := (AM.keep K262 nin0)
        obtain ⟨T308, h308, L308, X308, e308, Nq308, K308, st308⟩ := pc_t1n a1 l1 mb kM sv (3 : Int32) (2 : Int32) (2 : Int32) x2 x1 [(.int x0), (.int x1), (.int x2)] g6 g7 g8 X262 hx hZ hw hby hml hown e262 Nq262 Z264 (by omega) (by omega) (Nat.le_trans (Nat.le_of_ble_eq_true rfl) hfr) (Nat.le_trans (Nat.le_of_ble_eq_true rfl) hlo) f307 (by decide) ⟨by decide, by decide⟩ rfl (by decide) ⟨by decide, by decide⟩ rfl q266
        have P309 : ∀ t, Sg p e below (T308.setTop (mkF m 40 #[sR a1, sR l1, sI sv, sR mb, sI 3, sI 3, g6, g7, g8] [])) t → Sg p e below (T0.setTop (mkF m 34 #[sR a1, sR l1, sI sv, sR mb, g4, g5, g6, g7, g8] [])) t := fun t k => P263 t (by
          exact st308 _ k)
        have Z310 : n0 ≤ h308.size := Nat.le_trans Z264 K308.1
        have K311 : Keep h0 h308 [] := K265.trans K308 (all0)
        have f312 := (f307.keep K308 nin0)
        obtain ⟨cl313, Ar313, -, S313, N313, -, -⟩ := id f312
        obtain ⟨T314, h314, k314, X314, e314, E314, A314, B314, st314⟩ := newPE X308 hx hZ (own_hw hw 9 rfl) e308 (g := (mkF m 82 #[sR a1, sR l1, sI sv, sR mb, sI 3, sI 3, g6, g7, g8] [(.int (3 : Int32))])) rfl (hb hby dp22_1_82) rfl (by decide) (cap := 3) (by decide) (by decide) (by omega) (by omega) (ad := "[I") (by decide)
        obtain ⟨b314, g314⟩ : ∃ z, z = h308.size := ⟨_, rfl⟩
        rw [← g314] at A314 B314 st314
        have g_b314 : n0 ≤ b314 := Nat.le_trans Z310 (Nat.le_of_eq g314.symm)
        have sz_b314 : h0.size ≤ b314 := Nat.le_trans K311.1 (Nat.le_of_eq g314.symm)
        have P315 : ∀ t, Sg p e below (T314.setTop (mkF m 84 #[sR a1, sR l1, sI sv, sR mb, sI 3, sI 3, g6, g7, g8] [(.ref b314)])) t → Sg p e below (T0.setTop (mkF m 34 #[sR a1, sR l1, sI sv, sR mb, g4, g5, g6, g7, g8] [])) t := fun t k => P309 t (by
          refine XS.iload X308.here hx rfl (hb hby dp22_1_40) rfl ?_
          refine XS.aloadN X308.here hx rfl (hb hby dp22_1_42) rfl rfl ?_
          show Sg p e below (T308.setTop (mkF m 43 #[sR a1, sR l1, sI sv, sR mb, sI 3, sI 3, g6, g7, g8] [(.ref mb), (.int (3 : Int32))])) _
          refine X308.arraylength hx (by rw [e308]; exact Ar313.1) (State.isArrayOf_alike hZ.alike Ar313.2.1) (g := (mkF m 43 #[sR a1, sR l1, sI sv, sR mb, sI 3, sI 3, g6, g7, g8] [(.ref mb), (.int (3 : Int32))])) rfl rfl (hb hby dp22_1_43) _ ?_
          rw [len_of S313 N313]
          show Sg p e below (T308.setTop (mkF m 44 #[sR a1, sR l1, sI sv, sR mb, sI 3, sI 3, g6, g7, g8] [(.int (3 : Int32)), (.int (3 : Int32))])) _
          refine XS.icmpYes X308.here hx rfl (pc0 := 44) (pc' := 80) rfl (hb hby dp22_1_44) rfl (flt (show ¬ ((3 : Int32) < (3 : Int32)) from (by decide))).2.1 (by decide) (by decide) ?_
          refine XS.iload X308.here hx rfl (hb hby dp22_1_80) rfl ?_
          show Sg p e below (T308.setTop (mkF m 82 #[sR a1, sR l1, sI sv, sR mb, sI 3, sI 3, g6, g7, g8] [(.int (3 : Int32))])) _
          exact st314 _ k)
        have Z316 : n0 ≤ h314.size := Nat.le_trans Z310 E314.1
        have K317 : Keep h0 h314 [] := K311.ext E314
        have v318 : Arv Z h314 b314 k314 .int (3 : Int32) [(.int (0 : Int32)), (.int (0 : Int32)), (.int (0 : Int32))] (.int (0 : Int32)) := (Arv.new A314 (by decide)).pad (pad_rep [] (.int (0 : Int32)) 3)
        obtain ⟨T319, h319, k319, X319, e319, E319, A319, B319, st319⟩ := newPE X314 hx hZ (own_hw hw 29 rfl) e314 (g := (mkF m 88 #[sR a1, sR l1, sI sv, sR mb, sI 3, sR b314, g6, g7, g8] [(.int (3 : Int32))])) rfl (hb hby dp22_1_88) rfl (by decide) (cap := 3) (by decide) (by decide) (by omega) (by omega) (ad := "[J") (by decide)
        obtain ⟨b319, g319⟩ : ∃ z, z = h314.size := ⟨_, rfl⟩
        rw [← g319] at A319 B319 st319
        have g_b319 : n0 ≤ b319 := Nat.le_trans Z316 (Nat.le_of_eq g319.symm)
        have sz_b319 : h0.size ≤ b319 := Nat.le_trans K317.1 (Nat.le_of_eq g319.symm)
        have P320 : ∀ t, Sg p e below (T319.setTop (mkF m 90 #[sR a1, sR l1, sI sv, sR mb, sI 3, sR b314, g6, g7, g8] [(.ref b319)])) t → Sg p e below (T0.setTop (mkF m 34 #[sR a1, sR l1, sI sv, sR mb, g4, g5, g6, g7, g8] [])) t := fun t k => P315 t (by
          refine XS.astore X314.here hx rfl (hb hby dp22_1_84) rfl rfl (l' := #[sR a1, sR l1, sI sv, sR mb, sI 3, sR b314, g6, g7, g8]) rfl ?_
          refine XS.iload X314.here hx rfl (hb hby dp22_1_86) rfl ?_
          show Sg p e below (T314.setTop (mkF m 88 #[sR a1, sR l1, sI sv, sR mb, sI 3, sR b314, g6, g7, g8] [(.int (3 : Int32))])) _
          exact st319 _ k)
        have Z321 : n0 ≤ h319.size := Nat.le_trans Z316 E319.1
        have K322 : Keep h0 h319 [] := K317.ext E319
        have v323 : Arv Z h319 b319 k319 .long (3 : Int32) [(.long (0 : Int64)), (.long (0 : Int64)), (.long (0 : Int64))] (.long (0 : Int64)) := (Arv.new A319 (by decide)).pad (pad_rep [] (.long (0 : Int64)) 3)
        have f324 := ((f312.ext E314).ext E319)
        have f325 := (v318.ext E319)
        have P326 : ∀ t, Sg p e below (T319.setTop (mkF m 98 #[sR a1, sR l1, sI sv, sR mb, sI 3, sR b314, sR b319, sI (-1), sI 0] [])) t → Sg p e below (T0.setTop (mkF m 34 #[sR a1, sR l1, sI sv, sR mb, g4, g5, g6, g7, g8] [])) t := fun t k => P320 t (by
          refine XS.astoreS X319.here hx rfl (hb hby dp22_1_90) rfl rfl rfl rfl ho6 ?_
          show Sg p e below (T319.setTop (mkF m 92 #[sR a1, sR l1, sI sv, sR mb, sI 3, sR b314, sR b319, g7, g8] [])) _
          refine XS.iconst X319.here hx rfl (hb hby dp22_1_92) ?_
          refine XS.istoreS X319.here hx rfl (hb hby dp22_1_93) rfl rfl ho7 ?_
          show Sg p e below (T319.setTop (mkF m 95 #[sR a1, sR l1, sI sv, sR mb, sI 3, sR b314, sR b319, sI (-1), g8] [])) _
          refine XS.iconst X319.here hx rfl (hb hby dp22_1_95) ?_
          refine XS.istoreS X319.here hx rfl (hb hby dp22_1_96) rfl rfl ho8 ?_
          show Sg p e below (T319.setTop (mkF m 98 #[sR a1, sR l1, sI sv, sR mb, sI 3, sR b314, sR b319, sI (-1), sI 0] [])) _
          exact k)
        obtain ⟨T327, h327, L327, X327, e327, Nq327, K327, u327_0, u327_1, st327⟩ := pc_t2f a1 l1 mb b314 b319 kM k314 k319 sv (3 : Int32) (3 : Int32) (3 : Int32) x0 (0 : Int64) [(.int x0), (.int x1), (.int x2)] [(.int (0 : Int32)), (.int (0 : Int32)), (.int (0 : Int32))] [(.long (0 : Int64)), (.long (0 : Int64)), (.long (0 : Int64))] X319 hx hZ hw hby hml hown e319 Nq308 Z321 (by omega) (by omega) (Nat.le_trans (Nat.le_of_ble_eq_true rfl) hfr) (Nat.le_trans (Nat.le_of_ble_eq_true rfl) hlo) f324 (by decide) ⟨by decide, by decide⟩ rfl g_b314 g_b319 (Nat.ne_of_lt (Nat.lt_of_lt_of_le f312.lt (Nat.le_of_eq g314.symm))) (Nat.ne_of_lt (Nat.lt_of_lt_of_le B314.lt (Nat.le_of_eq g319.symm))) f325 v323 ⟨by decide, by decide⟩ rfl (Nat.le_of_ble_eq_true rfl) (Nat.le_of_ble_eq_true rfl) rfl
        have P328 : ∀ t, Sg p e below (T327.setTop (mkF m 98 #[sR a1, sR l1, sI sv, sR mb, sI 3, sR b314, sR b319, sI 0, sI 1] [])) t → Sg p e below (T0.setTop (mkF m 34 #[sR a1, sR l1, sI sv, sR mb, g4, g5, g6, g7, g8] [])) t := fun t k => P326 t (by
          exact st327 _ k)
        have Z329 : n0 ≤ h327.size := Nat.le_trans Z321 K327.1
        have K330 : Keep h0 h327 [] := K322.trans K327 ((allS (Or.inr sz_b314) (allS (Or.inr sz_b319) all0)))
        have AP327 : Arv Z h327 b314 k314 .int (3 : Int32) [(.int (own_sh x0)), (.int (0 : Int32)), (.int (0 : Int32))] (.int (0 : Int32)) := u327_0
        have AW327 : Arv Z h327 b319 k319 .long (3 : Int32) [(.long ((0 : Int64) ||| own_bit x0)), (.long (0 : Int64)), (.long (0 : Int64))] (.long (0 : Int64)) := u327_1
        have f331 := (f324.keep K327 (ninS (Nat.ne_of_lt (Nat.lt_of_lt_of_le f312.lt (Nat.le_of_eq g314.symm))) (ninS (Nat.ne_of_lt (Nat.lt_of_lt_of_le (f312.ext E314).lt (Nat.le_of_eq g319.symm))) nin0)))
        obtain ⟨T332, h332, L332, X332, e332, Nq332, K332, u332_0, u332_1, st332⟩ := pc_t2n a1 l1 mb b314 b319 kM k314 k319 sv (3 : Int32) (3 : Int32) (3 : Int32) x1 (0 : Int32) (1 : Int32) x0 (0 : Int64) [(.int x0), (.int x1), (.int x2)] [(.int (own_sh x0)), (.int (0 : Int32)), (.int (0 : Int32))] [(.long ((0 : Int64) ||| own_bit x0)), (.long (0 : Int64)), (.long (0 : Int64))] 1 X327 hx hZ hw hby hml hown e327 Nq327 Z329 (by omega) (by omega) (Nat.le_trans (Nat.le_of_ble_eq_true rfl) hfr) (Nat.le_trans (Nat.le_of_ble_eq_true rfl) hlo) f331 (by decide) ⟨by decide, by decide⟩ rfl (by decide) ⟨by decide, by decide⟩ rfl q175 g_b314 g_b319 (Nat.ne_of_lt (Nat.lt_of_lt_of_le f312.lt (Nat.le_of_eq g314.symm))) (Nat.ne_of_lt (Nat.lt_of_lt_of_le B314.lt (Nat.le_of_eq g319.symm))) AP327 AW327 ⟨by decide, by decide⟩ rfl (Nat.le_of_ble_eq_true rfl) (Nat.le_of_ble_eq_true rfl) rfl
        have P333 : ∀ t, Sg p e below (T332.setTop (mkF m 98 #[sR a1, sR l1, sI sv, sR mb, sI 3, sR b314, sR b319, sI 1, sI 2] [])) t → Sg p e below (T0.setTop (mkF m 34 #[sR a1, sR l1, sI sv, sR mb, g4, g5, g6, g7, g8] [])) t := fun t k => P328 t (by
          exact st332 _ k)
        have Z334 : n0 ≤ h332.size := Nat.le_trans Z329 K332.1
        have K335 : Keep h0 h332 [] := K330.trans K332 ((allS (Or.inr sz_b314) (allS (Or.inr sz_b319) all0)))
        have AP332 : Arv Z h332 b314 k314 .int (3 : Int32) [(.int (own_sh x0)), (.int (own_sh x1)), (.int (0 : Int32))] (.int (0 : Int32)) := u332_0
        have AW332 : Arv Z h332 b319 k319 .long (3 : Int32) [(.long ((0 : Int64) ||| own_bit x0)), (.long ((0 : Int64) ||| own_bit x1)), (.long (0 : Int64))] (.long (0 : Int64)) := u332_1
        have f336 := (f331.keep K332 (ninS (Nat.ne_of_lt (Nat.lt_of_lt_of_le f312.lt (Nat.le_of_eq g314.symm))) (ninS (Nat.ne_of_lt (Nat.lt_of_lt_of_le (f312.ext E314).lt (Nat.le_of_eq g319.symm))) nin0)))
        obtain ⟨T337, h337, L337, X337, e337, Nq337, K337, u337_0, u337_1, st337⟩ := pc_t2n a1 l1 mb b314 b319 kM k314 k319 sv (3 : Int32) (3 : Int32) (3 : Int32) x2 (1 : Int32) (2 : Int32) x1 (0 : Int64) [(.int x0), (.int x1), (.int x2)] [(.int (own_sh x0)), (.int (own_sh x1)), (.int (0 : Int32))] [(.long ((0 : Int64) ||| own_bit x0)), (.long ((0 : Int64) ||| own_bit x1)), (.long (0 : Int64))] 2 X332 hx hZ hw hby hml hown e332 Nq332 Z334 (by omega) (by omega) (Nat.le_trans (Nat.le_of_ble_eq_true rfl) hfr) (Nat.le_trans (Nat.le_of_ble_eq_true rfl) hlo) f336 (by decide) ⟨by decide, by decide⟩ rfl (by decide) ⟨by decide, by decide⟩ rfl q266 g_b314 g_b319 (Nat.ne_of_lt (Nat.lt_of_lt_of_le f312.lt (Nat.le_of_eq g314.symm))) (Nat.ne_of_lt (Nat.lt_of_lt_of_le B314.lt (Nat.le_of_eq g319.symm))) AP332 AW332 ⟨by decide, by decide⟩ rfl (Nat.le_of_ble_eq_true rfl) (Nat.le_of_ble_eq_true rfl) rfl
        have P338 : ∀ t, Sg p e below (T337.setTop (mkF m 98 #[sR a1, sR l1, sI sv, sR mb, sI 3, sR b314, sR b319, sI 2, sI 3] [])) t → Sg p e below (T0.setTop (mkF m 34 #[sR a1, sR l1, sI sv, sR mb, g4, g5, g6, g7, g8] [])) t := fun t k => P333 t (by
          exact st337 _ k)
        have Z339 : n0 ≤ h337.size := Nat.le_trans Z334 K337.1
        have K340 : Keep h0 h337 [] := K335.trans K337 ((allS (Or.inr sz_b314) (allS (Or.inr sz_b319) all0)))
        have AP337 : Arv Z h337 b314 k314 .int (3 : Int32) [(.int (own_sh x0)), (.int (own_sh x1)), (.int (own_sh x2))] (.int (0 : Int32)) := u337_0
        have AW337 : Arv Z h337 b319 k319 .long (3 : Int32) [(.long ((0 : Int64) ||| own_bit x0)), (.long ((0 : Int64) ||| own_bit x1)), (.long ((0 : Int64) ||| own_bit x2))] (.long (0 : Int64)) := u337_1
        have f341 := (f336.keep K337 (ninS (Nat.ne_of_lt (Nat.lt_of_lt_of_le f312.lt (Nat.le_of_eq g314.symm))) (ninS (Nat.ne_of_lt (Nat.lt_of_lt_of_le (f312.ext E314).lt (Nat.le_of_eq g319.symm))) nin0)))
        obtain ⟨cl342, Ar342, -, S342, N342, -, -⟩ := id f341
        have f343 := ((((B314.ext E319).keep K327).keep K332).keep K337)
        have f344 := (((B319.keep K327).keep K332).keep K337)
        have P345 : ∀ t, Sg p e below (T337.setTop (mkF m 164 #[sR a1, sR l1, sI sv, sR mb, sI 3, sR b314, sR b319, sI 2, sI 3] [])) t → Sg p e below (T0.setTop (mkF m 34 #[sR a1, sR l1, sI sv, sR mb, g4, g5, g6, g7, g8] [])) t := fun t k => P338 t (by
          refine XS.iload X337.here hx rfl (hb hby dp22_1_98) rfl ?_
          refine XS.aloadN X337.here hx rfl (hb hby dp22_1_100) rfl rfl ?_
          show Sg p e below (T337.setTop (mkF m 101 #[sR a1, sR l1, sI sv, sR mb, sI 3, sR b314, sR b319, sI 2, sI 3] [(.ref mb), (.int (3 : Int32))])) _
          refine X337.arraylength hx (by rw [e337]; exact Ar342.1) (State.isArrayOf_alike hZ.alike Ar342.2.1) (g := (mkF m 101 #[sR a1, sR l1, sI sv, sR mb, sI 3, sR b314, sR b319, sI 2, sI 3] [(.ref mb), (.int (3 : Int32))])) rfl rfl (hb hby dp22_1_101) _ ?_
          rw [len_of S342 N342]
          show Sg p e below (T337.setTop (mkF m 102 #[sR a1, sR l1, sI sv, sR mb, sI 3, sR b314, sR b319, sI 2, sI 3] [(.int (3 : Int32)), (.int (3 : Int32))])) _
          refine XS.icmpYes X337.here hx rfl (pc0 := 102) (pc' := 164) rfl (hb hby dp22_1_102) rfl (flt (show ¬ ((3 : Int32) < (3 : Int32)) from (by decide))).2.1 (by decide) (by decide) ?_
          show Sg p e below (T337.setTop (mkF m 164 #[sR a1, sR l1, sI sv, sR mb, sI 3, sR b314, sR b319, sI 2, sI 3] [])) _
          exact k)
        exact ⟨T337, h337, _, b314, b319, k314, k319, ([(own_sh x0), (own_sh x1), (own_sh x2)] : List Int32), ([((0 : Int64) ||| own_bit x0), ((0 : Int64) ||| own_bit x1), ((0 : Int64) ||| own_bit x2)] : List Int64), (3 : Int32), (2 : Int32), (3 : Int32), X337.more (by omega) (by omega), e337, Nq337, K340, ((if_neg q175).trans ((if_neg q266))).symm, ((if_neg q175).trans ((if_neg q266))).symm, rfl, AP337, AW337, f343, f344, sz_b314, sz_b319, P345⟩
  · exact absurd hx3 (by simp)
theorem dp22_1_0 : decode prog_22_method_1_code 0 = .ok (.aload_n 0, 1) := by decide +kernel
theorem dp22_1_1 : decode prog_22_method_1_code 1 = .ok (.invokespecial 1, 3) := by decide +kernel
theorem dp22_1_4 : decode prog_22_method_1_code 4 = .ok (.aload_n 0, 1) := by decide +kernel
theorem dp22_1_5 : decode prog_22_method_1_code 5 = .ok (.aload_n 1, 1) := by decide +kernel
theorem dp22_1_6 : decode prog_22_method_1_code 6 = .ok (.arraylength, 1) := by decide +kernel
theorem dp22_1_7 : decode prog_22_method_1_code 7 = .ok (.anewarray 7, 3) := by decide +kernel
theorem dp22_1_10 : decode prog_22_method_1_code 10 = .ok (.putfield 9, 3) := by decide +kernel
theorem dp22_1_13 : decode prog_22_method_1_code 13 = .ok (.aload_n 0, 1) := by decide +kernel
theorem dp22_1_14 : decode prog_22_method_1_code 14 = .ok (.aload_n 1, 1) := by decide +kernel
theorem dp22_1_15 : decode prog_22_method_1_code 15 = .ok (.arraylength, 1) := by decide +kernel
theorem dp22_1_16 : decode prog_22_method_1_code 16 = .ok (.anewarray 15, 3) := by decide +kernel
theorem dp22_1_19 : decode prog_22_method_1_code 19 = .ok (.putfield 17, 3) := by decide +kernel
theorem dp22_1_22 : decode prog_22_method_1_code 22 = .ok (.iconst 0, 1) := by decide +kernel
theorem dp22_1_23 : decode prog_22_method_1_code 23 = .ok (.istore_n 2, 1) := by decide +kernel
theorem dp22_1_24 : decode prog_22_method_1_code 24 = .ok (.iload_n 2, 1) := by decide +kernel
theorem dp22_1_25 : decode prog_22_method_1_code 25 = .ok (.aload_n 1, 1) := by decide +kernel
theorem dp22_1_26 : decode prog_22_method_1_code 26 = .ok (.arraylength, 1) := by decide +kernel
theorem dp22_1_27 : decode prog_22_method_1_code 27 = .ok (.if_icmp .ge 159, 3) := by decide +kernel
theorem dp22_1_30 : decode prog_22_method_1_code 30 = .ok (.aload_n 1, 1) := by decide +kernel
theorem dp22_1_31 : decode prog_22_method_1_code 31 = .ok (.iload_n 2, 1) := by decide +kernel
theorem dp22_1_32 : decode prog_22_method_1_code 32 = .ok (.aaload, 1) := by decide +kernel
theorem dp22_1_33 : decode prog_22_method_1_code 33 = .ok (.astore_n 3, 1) := by decide +kernel
theorem dp22_1_164 : decode prog_22_method_1_code 164 = .ok (.aload_n 0, 1) := by decide +kernel
theorem dp22_1_165 : decode prog_22_method_1_code 165 = .ok (.getfield 9, 3) := by decide +kernel
theorem dp22_1_168 : decode prog_22_method_1_code 168 = .ok (.iload_n 2, 1) := by decide +kernel
theorem dp22_1_169 : decode prog_22_method_1_code 169 = .ok (.aload 5, 2) := by decide +kernel
theorem dp22_1_171 : decode prog_22_method_1_code 171 = .ok (.aastore, 1) := by decide +kernel
theorem dp22_1_172 : decode prog_22_method_1_code 172 = .ok (.aload_n 0, 1) := by decide +kernel
theorem dp22_1_173 : decode prog_22_method_1_code 173 = .ok (.getfield 17, 3) := by decide +kernel
theorem dp22_1_176 : decode prog_22_method_1_code 176 = .ok (.iload_n 2, 1) := by decide +kernel
theorem dp22_1_177 : decode prog_22_method_1_code 177 = .ok (.aload 6, 2) := by decide +kernel
theorem dp22_1_179 : decode prog_22_method_1_code 179 = .ok (.aastore, 1) := by decide +kernel
theorem dp22_1_180 : decode prog_22_method_1_code 180 = .ok (.iinc 2 1, 3) := by decide +kernel
theorem dp22_1_183 : decode prog_22_method_1_code 183 = .ok (.goto (-159), 3) := by decide +kernel
theorem dp22_1_186 : decode prog_22_method_1_code 186 = .ok (.return_, 1) := by decide +kernel
theorem pn_com_example_whittle_whittle_engine_WordSets : plainName "com/example/whittle/whittle/engine/WordSets" = true := by first | (simp [plainName, overriddenIn]; done) | decide +kernel
theorem ef_wsInit (m : MethodId) (x0 : Addr) (x1 : Addr) : entryFrame m #[(.ref x0), (.ref x1)] 9 = mkF m 0 #[sR x0, sR x1, sU, sU, sU, sU, sU, sU, sU] [] := by (first | (simp [entryFrame, mkF, argsToLocals, Value.category]; done) | rfl)
def Q_wsInit (Z : State) (a1 : Addr) (xs0 xs1 : List Int32) (h0 : Heap) (n0 : Nat) (v : Option Value) (h : Heap) (L : List Loc) : Prop := v = none ∧ Fr n0 L ∧ Keep h0 h [a1] ∧ Exa Z h a1 sW ∧ ∃ (PP WW : Addr) (kP kW : ClassId) (P0 P1 W0 W1 : Addr), Fld Z h a1 sW "places" "[[I" (.ref PP) ∧ Fld Z h a1 sW "words" "[[J" (.ref WW) ∧ Arv Z h PP kP (.array .int) (2 : Int32) [(.ref P0), (.ref P1)] .null ∧ Arv Z h WW kW (.array .long) (2 : Int32) [(.ref W0), (.ref W1)] .null ∧ h0.size ≤ PP ∧ h0.size ≤ WW ∧ (∃ (k k2 : ClassId) (pl : List Int32) (wl : List Int64) (N : Int32), pl = own_pl xs0 ∧ wl = own_wl xs0 ∧ N = Int32.ofNat pl.length ∧ Arv Z h P0 k .int N (pl.map Value.int) (.int (0 : Int32)) ∧ Arv Z h W0 k2 .long N (wl.map Value.long) (.long (0 : Int64)) ∧ Exa Z h P0 "[I" ∧ Exa Z h W0 "[J" ∧ h0.size ≤ P0 ∧ h0.size ≤ W0) ∧ (∃ (k k2 : ClassId) (pl : List Int32) (wl : List Int64) (N : Int32), pl = own_pl xs1 ∧ wl = own_wl xs1 ∧ N = Int32.ofNat pl.length ∧ Arv Z h P1 k .int N (pl.map Value.int) (.int (0 : Int32)) ∧ Arv Z h W1 k2 .long N (wl.map Value.long) (.long (0 : Int64)) ∧ Exa Z h P1 "[I" ∧ Exa Z h W1 "[J" ∧ h0.size ≤ P1 ∧ h0.size ≤ W1)
set_option maxRecDepth 65536 in
set_option maxHeartbeats 40000000 in
theorem rm_wsInit (l : Launch) (Z : State) (a0 : Array Value) (hw : ∀ d ∈ tables_1, d.before a0 Z = true) (ws : List Jvm.Cond) (a1 l1 : Addr) (kl : ClassId) (f0 f1 : Addr) (kf0 kf1 : ClassId) (M0 M1 : Int32) (xs0 xs1 : List Int32) (h0 : Heap) (n0 : Nat) (Z0 : n0 ≤ h0.size) (g_a1 : n0 ≤ a1) (E1 : Exa Z h0 a1 sW) (Fp : Fld Z h0 a1 sW "places" "[[I" .null) (Fw : Fld Z h0 a1 sW "words" "[[J" .null) (Al : Arv Z h0 l1 kl (.array .int) (2 : Int32) [(.ref f0), (.ref f1)] .null) (A_f0 : Arv Z h0 f0 kf0 .int M0 (xs0.map Value.int) (.int (0 : Int32))) (hM0 : M0 = Int32.ofNat xs0.length) (hx0 : xs0.length ≤ 3) (A_f1 : Arv Z h0 f1 kf1 .int M1 (xs1.map Value.int) (.int (0 : Int32))) (hM1 : M1 = Int32.ofNat xs1.length) (hx1 : xs1.length ≤ 3) :
    MetFree l (⟨"com/example/whittle/whittle/engine/WordSets", "<init>", "([[I)V"⟩ : MethodName) (head1 (Jvm.Cond.code (⟨"com/example/whittle/whittle/engine/WordSets", "<init>", "([[I)V"⟩ : MethodName) prog_22_method_1_code 9 none :: ws) ({ frames := 1, cells := 6, slots := 16, locals := 12 } : Room)) (fun a U => a = #[(.ref a1), (.ref l1)] ∧ Z.Warmed39 U.vm ∧ U.heap = h0) (fun _ _ _ _ _ => True) (fun _ U o U' => ∃ v L, o = .returned v ∧ Q_wsInit Z a1 xs0 xs1 h0 n0 v U'.heap L ∧ FrameEnd U o U' L ({ frames := 1, cells := 6, slots := 16, locals := 12 } : Room).cells ({ frames := 1, cells := 6, slots := 16, locals := 12 } : Room).slots) := by
  refine MetFree.of_bodySF (plainFor_of_name pn_com_example_whittle_whittle_engine_WordSets) hisR ?_
  intro p e s m args below meth c s₁ Bd hml0 hP hK
  obtain ⟨rfl, hZ, hh⟩ := hP
  have hx := Bd.exec
  have hby := Bd.bytes
  have hml : c.maxLocals = 9 := hml0
  have hown : s.vm.findClass "com/example/whittle/whittle/engine/WordSets" = some m.cls := findClass_of_methodNamed Bd.named
  have hnm := (name_of_methodNamed Bd.named Bd.method).1
  have X0 : Stand p l e ({ frames := 1, cells := 6, slots := 16, locals := 12 } : Room) s m #[(.ref a1), (.ref l1)] below meth c s₁ [] 0 0 := Stand.of_body Bd
  have e0 : s₁.heap = h0 := by rw [← hh, Bd.state]; rfl
  have N0 := Fr.nil n0
  have pre0 : ∀ t, Sg p e below (s₁.setTop (mkF m 0 #[sR a1, sR l1, sU, sU, sU, sU, sU, sU, sU] [])) t → Steps p.tables e below (s₁.setTop (entryFrame m #[(.ref a1), (.ref l1)] 9)) t := fun t k => castTop (ef_wsInit m a1 l1) k
  have P0 : ∀ t, Sg p e below (s₁.setTop (mkF m 0 #[sR a1, sR l1, sU, sU, sU, sU, sU, sU, sU] [])) t → Sg p e below (s₁.setTop (mkF m 0 #[sR a1, sR l1, sU, sU, sU, sU, sU, sU, sU] [])) t := fun t k => k
  obtain ⟨B0, pre0, P0⟩ : ∃ B : State, (∀ t, Steps p.tables e below B t → Steps p.tables e below (s₁.setTop (entryFrame m #[(.ref a1), (.ref l1)] 9)) t) ∧ Rg p e below (s₁.setTop (mkF m 0 #[sR a1, sR l1, sU, sU, sU, sU, sU, sU, sU] [])) B := ⟨_, pre0, P0⟩
  obtain ⟨T346, X346, e346, st346⟩ := initO X0 hx hZ hown (own_hw hw 19 rfl) (own_hw hw 20 rfl) (own_hw hw 21 rfl) e0 (g := (mkF m 1 #[sR a1, sR l1, sU, sU, sU, sU, sU, sU, sU] [(.ref a1)])) rfl (by rw [hml]; rfl) rfl (hb hby dp22_1_1) (by decide) (W := 0) (by show 2 * 0 + _ ≤ _; exact Nat.le_of_eq rfl) (by decide)
  have P347 : Rg p e below (T346.setTop (mkF m 4 #[sR a1, sR l1, sU, sU, sU, sU, sU, sU, sU] [])) B0 := fun t k => P0 t (by
    refine XS.aloadN X0.here hx rfl (hb hby dp22_1_0) rfl rfl ?_
    show Sg p e below (s₁.setTop (mkF m 1 #[sR a1, sR l1, sU, sU, sU, sU, sU, sU, sU] [(.ref a1)])) _
    exact st346 _ k)
  obtain ⟨cl348, Ar348, -, S348, N348, -, -⟩ := id Al
  obtain ⟨T349, h349, k349, X349, e349, E349, A349, B349, O349, st349⟩ := newRA X346 hx hZ hown (C := "[I") (ty := .int) (by decide) (own_hw hw 22 rfl) (own_hw hw 14 rfl) e346 (g := (mkF m 7 #[sR a1, sR l1, sU, sU, sU, sU, sU, sU, sU] [(.int (2 : Int32)), (.ref a1)])) rfl (hb hby dp22_1_7) rfl (by decide) (cap := 2) (by decide) (by decide) (by decide) (by decide) (ad := "[[I") (by decide)
  obtain ⟨b349, g349⟩ : ∃ z, z = h0.size := ⟨_, rfl⟩
  rw [← g349] at A349 B349 st349
  have g_b349 : n0 ≤ b349 := Nat.le_trans Z0 (Nat.le_of_eq g349.symm)
  have sz_b349 : h0.size ≤ b349 := Nat.le_trans (Keep.refl h0 [a1]).1 (Nat.le_of_eq g349.symm)
  have P350 : Rg p e below (T349.setTop (mkF m 10 #[sR a1, sR l1, sU, sU, sU, sU, sU, sU, sU] [(.ref b349), (.ref a1)])) B0 := fun t k => P347 t (by
    refine XS.aloadN X346.here hx rfl (hb hby dp22_1_4) rfl rfl ?_
    refine XS.aloadN X346.here hx rfl (hb hby dp22_1_5) rfl rfl ?_
    show Sg p e below (T346.setTop (mkF m 6 #[sR a1, sR l1, sU, sU, sU, sU, sU, sU, sU] [(.ref l1), (.ref a1)])) _
    refine X346.arraylength hx (by rw [e346]; exact Ar348.1) (State.isArrayOf_alike hZ.alike Ar348.2.1) (g := (mkF m 6 #[sR a1, sR l1, sU, sU, sU, sU, sU, sU, sU] [(.ref l1), (.ref a1)])) rfl rfl (hb hby dp22_1_6) _ ?_
    rw [len_of S348 N348]
    show Sg p e below (T346.setTop (mkF m 7 #[sR a1, sR l1, sU, sU, sU, sU, sU, sU, sU] [(.int (2 : Int32)), (.ref a1)])) _
    exact st349 _ k)
  have Z351 : n0 ≤ h349.size := Nat.le_trans Z0 E349.1
  have K352 : Keep h0 h349 [a1] := (Keep.refl h0 [a1]).ext E349
  have v353 : Arv Z h349 b349 k349 (.array .int) (2 : Int32) [.null, .null] .null := (Arv.new A349 (by decide)).pad (pad_rep [] .null 2)
  have f354 := (Fp.ext E349)
  have f355 := (E1.ext E349)
  obtain ⟨T356, h356, X356, e356, W356, st356⟩ := putF X349 hx hZ hown (host := "") (Or.inl (own_hw hw 23 rfl)) Via.refl e349 f354 f355 (Or.inr ⟨(own_hw hw 24 rfl), rfl, hnm⟩) (own_hw hw 11 rfl) (ty := (.array (.array .int))) (by decide) rfl rfl (g := (mkF m 10 #[sR a1, sR l1, sU, sU, sU, sU, sU, sU, sU] [(.ref b349), (.ref a1)])) rfl rfl (hb hby dp22_1_10)
  have P357 : Rg p e below (T356.setTop (mkF m 13 #[sR a1, sR l1, sU, sU, sU, sU, sU, sU, sU] [])) B0 := fun t k => P350 t (by
    exact st356 _ k)
  have f358 := f354.same W356
  have N359 := Fr.snoc X356 N0 g_a1
  have Z360 : n0 ≤ h356.size := Nat.le_trans Z351 (Keep.of_wr W356).1
  have K361 : Keep h0 h356 [a1] := K352.wr W356 (Or.inl (List.mem_of_getElem? (i := 0) rfl))
  have f362 := ((Al.ext E349).other W356 (Ne.symm (Exa.neArv E1 Al (own_hw hw 11 rfl))))
  obtain ⟨cl363, Ar363, -, S363, N363, -, -⟩ := id f362
  obtain ⟨T364, h364, k364, X364, e364, E364, A364, B364, O364, st364⟩ := newRA X356 hx hZ hown (C := "[J") (ty := .long) (by decide) (own_hw hw 25 rfl) (own_hw hw 26 rfl) e356 (g := (mkF m 16 #[sR a1, sR l1, sU, sU, sU, sU, sU, sU, sU] [(.int (2 : Int32)), (.ref a1)])) rfl (hb hby dp22_1_16) rfl (by decide) (cap := 2) (by decide) (by decide) (by decide) (by decide) (ad := "[[J") (by decide)
  obtain ⟨b364, g364⟩ : ∃ z, z = h356.size := ⟨_, rfl⟩
  rw [← g364] at A364 B364 st364
  have g_b364 : n0 ≤ b364 := Nat.le_trans Z360 (Nat.le_of_eq g364.symm)
  have sz_b364 : h0.size ≤ b364 := Nat.le_trans K361.1 (Nat.le_of_eq g364.symm)
  have P365 : Rg p e below (T364.setTop (mkF m 19 #[sR a1, sR l1, sU, sU, sU, sU, sU, sU, sU] [(.ref b364), (.ref a1)])) B0 := fun t k => P357 t (by
    refine XS.aloadN X356.here hx rfl (hb hby dp22_1_13) rfl rfl ?_
    refine XS.aloadN X356.here hx rfl (hb hby dp22_1_14) rfl rfl ?_
    show Sg p e below (T356.setTop (mkF m 15 #[sR a1, sR l1, sU, sU, sU, sU, sU, sU, sU] [(.ref l1), (.ref a1)])) _
    refine X356.arraylength hx (by rw [e356]; exact Ar363.1) (State.isArrayOf_alike hZ.alike Ar363.2.1) (g := (mkF m 15 #[sR a1, sR l1, sU, sU, sU, sU, sU, sU, sU] [(.ref l1), (.ref a1)])) rfl rfl (hb hby dp22_1_15) _ ?_
    rw [len_of S363 N363]
    show Sg p e below (T356.setTop (mkF m 16 #[sR a1, sR l1, sU, sU, sU, sU, sU, sU, sU] [(.int (2 : Int32)), (.ref a1)])) _
    exact st364 _ k)
  have Z366 : n0 ≤ h364.size := Nat.le_trans Z360 E364.1
  have K367 : Keep h0 h364 [a1] := K361.ext E364
  have v368 : Arv Z h364 b364 k364 (.array .long) (2 : Int32) [.null, .null] .null := (Arv.new A364 (by decide)).pad (pad_rep [] .null 2)
  have f369 := (((Fw.ext E349).other W356 (Or.inr (slot_ne (Or.inr (own_hw hw 28 rfl)) (Or.inr (own_hw hw 24 rfl)) (by decide) (t := (.array (.array .long))) (t' := (.array (.array .int))) (by decide) (by decide)))).ext E364)
  have f370 := ((f355.wr W356).ext E364)
  obtain ⟨T371, h371, X371, e371, W371, st371⟩ := putF X364 hx hZ hown (host := "") (Or.inl (own_hw hw 27 rfl)) Via.refl e364 f369 f370 (Or.inr ⟨(own_hw hw 28 rfl), rfl, hnm⟩) (own_hw hw 11 rfl) (ty := (.array (.array .long))) (by decide) rfl rfl (g := (mkF m 19 #[sR a1, sR l1, sU, sU, sU, sU, sU, sU, sU] [(.ref b364), (.ref a1)])) rfl rfl (hb hby dp22_1_19)
  have P372 : Rg p e below (T371.setTop (mkF m 22 #[sR a1, sR l1, sU, sU, sU, sU, sU, sU, sU] [])) B0 := fun t k => P365 t (by
    exact st371 _ k)
  have f373 := f369.same W371
  have N374 := Fr.snoc X371 N359 g_a1
  have Z375 : n0 ≤ h371.size := Nat.le_trans Z366 (Keep.of_wr W371).1
  have K376 : Keep h0 h371 [a1] := K367.wr W371 (Or.inl (List.mem_of_getElem? (i := 0) rfl))
  have f377 := ((f362.ext E364).other W371 (Ne.symm (Exa.neArv E1 Al (own_hw hw 11 rfl))))
  obtain ⟨cl378, Ar378, -, S378, N378, -, -⟩ := id f377
  obtain ⟨cl379, Ar379, -, S379, N379, H379, -⟩ := id f377
  have hin379 : ¬ ((0 : Int32) < 0 ∨ cl379.slots.size ≤ ((0 : Int32)).toNatClampNeg) := inb_of S379 ⟨by decide, by decide⟩
  have f380 := ((((A_f0.ext E349).other W356 (Ne.symm (Exa.neArv E1 A_f0 (own_hw hw 11 rfl)))).ext E364).other W371 (Ne.symm (Exa.neArv E1 A_f0 (own_hw hw 11 rfl))))
  have P381 : Rg p e below (T371.setTop (mkF m 34 #[sR a1, sR l1, sI 0, sR f0, sU, sU, sU, sU, sU] [])) B0 := fun t k => P372 t (by
    refine XS.iconst X371.here hx rfl (hb hby dp22_1_22) ?_
    refine XS.istoreN X371.here hx rfl (hb hby dp22_1_23) rfl (l' := #[sR a1, sR l1, sI 0, sU, sU, sU, sU, sU, sU]) rfl ?_
    refine XS.iloadN X371.here hx rfl (hb hby dp22_1_24) rfl ?_
    refine XS.aloadN X371.here hx rfl (hb hby dp22_1_25) rfl rfl ?_
    show Sg p e below (T371.setTop (mkF m 26 #[sR a1, sR l1, sI 0, sU, sU, sU, sU, sU, sU] [(.ref l1), (.int (0 : Int32))])) _
    refine X371.arraylength hx (by rw [e371]; exact Ar378.1) (State.isArrayOf_alike hZ.alike Ar378.2.1) (g := (mkF m 26 #[sR a1, sR l1, sI 0, sU, sU, sU, sU, sU, sU] [(.ref l1), (.int (0 : Int32))])) rfl rfl (hb hby dp22_1_26) _ ?_
    rw [len_of S378 N378]
    show Sg p e below (T371.setTop (mkF m 27 #[sR a1, sR l1, sI 0, sU, sU, sU, sU, sU, sU] [(.int (2 : Int32)), (.int (0 : Int32))])) _
    refine XS.icmpNo X371.here hx rfl (hb hby dp22_1_27) rfl (tlt (show (0 : Int32) < (2 : Int32) from (by decide))).2.1 ?_
    refine XS.aloadN X371.here hx rfl (hb hby dp22_1_30) rfl rfl ?_
    refine XS.iloadN X371.here hx rfl (hb hby dp22_1_31) rfl ?_
    show Sg p e below (T371.setTop (mkF m 32 #[sR a1, sR l1, sI 0, sU, sU, sU, sU, sU, sU] [(.int (0 : Int32)), (.ref l1)])) _
    refine X371.aaload hx (j := (0 : Int32)) (v := (.ref f0)) (by rw [e371]; exact Ar379.1) (State.isArrayOf_alike hZ.alike Ar379.2.1) rfl Ar379.2.2 hin379 (H379.at hin379 rfl) (g := (mkF m 32 #[sR a1, sR l1, sI 0, sU, sU, sU, sU, sU, sU] [(.int (0 : Int32)), (.ref l1)])) rfl rfl (hb hby dp22_1_32) _ ?_
    show Sg p e below (T371.setTop (mkF m 33 #[sR a1, sR l1, sI 0, sU, sU, sU, sU, sU, sU] [(.ref f0)])) _
    refine XS.astoreN X371.here hx rfl (hb hby dp22_1_33) rfl rfl (l' := #[sR a1, sR l1, sI 0, sR f0, sU, sU, sU, sU, sU]) rfl ?_
    show Sg p e below (T371.setTop (mkF m 34 #[sR a1, sR l1, sI 0, sR f0, sU, sU, sU, sU, sU] [])) _
    exact k)
  obtain ⟨T382, h382, L382, P2382, W2382, k5382, k6382, pl382, wl382, N2382, at2382, iv2382, X382, e382, Nq382, K382, u382_0, u382_1, u382_2, u382_3, u382_4, u382_5, u382_6, u382_7, u382_8, st382⟩ := pc_cbd a1 l1 f0 kf0 (0 : Int32) M0 xs0 sU sU sU sU sU X371 hx hZ hw hby hml hown e371 N374 Z375 (Nat.le_of_ble_eq_true rfl) (Nat.le_of_ble_eq_true rfl) (by decide) (by decide) f380 hM0 hx0 (Or.inl rfl) (Or.inl rfl) (Or.inl rfl) (Or.inl rfl) (Or.inl rfl)
  have P383 : Rg p e below (T382.setTop (mkF m 164 #[sR a1, sR l1, sI 0, sR f0, sI N2382, sR P2382, sR W2382, sI at2382, sI iv2382] [])) B0 := fun t k => P381 t (by
    exact st382 _ k)
  have Z384 : n0 ≤ h382.size := Nat.le_trans Z375 K382.1
  have K385 : Keep h0 h382 [a1] := K376.trans K382 (all0)
  have g_P2382 : n0 ≤ P2382 := Nat.le_trans Z375 u382_7
  have sz_P2382 : h0.size ≤ P2382 := Nat.le_trans K376.1 u382_7
  have g_W2382 : n0 ≤ W2382 := Nat.le_trans Z375 u382_8
  have sz_W2382 : h0.size ≤ W2382 := Nat.le_trans K376.1 u382_8
  have f386 := (((f358.ext E364).other W371 (Or.inr (slot_ne (Or.inr (own_hw hw 24 rfl)) (Or.inr (own_hw hw 28 rfl)) (by decide) (t := (.array (.array .int))) (t' := (.array (.array .long))) (by decide) (by decide)))).keep K382 nin0)
  obtain ⟨T387, X387, e387, st387⟩ := getF X382 hx hZ hown (host := "") (Or.inl (own_hw hw 23 rfl)) Via.refl e382 f386 (g := (mkF m 165 #[sR a1, sR l1, sI 0, sR f0, sI N2382, sR P2382, sR W2382, sI at2382, sI iv2382] [(.ref a1)])) rfl rfl (hb hby dp22_1_165)
  have P388 : Rg p e below (T387.setTop (mkF m 168 #[sR a1, sR l1, sI 0, sR f0, sI N2382, sR P2382, sR W2382, sI at2382, sI iv2382] [(.ref b349)])) B0 := fun t k => P383 t (by
    refine XS.aloadN X382.here hx rfl (hb hby dp22_1_164) rfl rfl ?_
    show Sg p e below (T382.setTop (mkF m 165 #[sR a1, sR l1, sI 0, sR f0, sI N2382, sR P2382, sR W2382, sI at2382, sI iv2382] [(.ref a1)])) _
    exact st387 _ k)
  have f389 := ((((v353.other W356 (Ne.symm (Nat.ne_of_lt (Nat.lt_of_lt_of_le Fw.lt (Nat.le_of_eq g349.symm))))).ext E364).other W371 (Ne.symm (Nat.ne_of_lt (Nat.lt_of_lt_of_le Fw.lt (Nat.le_of_eq g349.symm))))).keep K382 nin0)
  obtain ⟨cl390, Ar390, q390, S390, N390, H390, G390⟩ := id f389
  obtain ⟨T390, h390, X390, e390, W390, st390⟩ := stR X387 hx hZ e387 Ar390 (j := (0 : Int32)) (inb_of S390 ⟨by decide, by decide⟩) rfl (Sto.ofVA Ar390 q390 O349 (Ins.self u382_5)) (g := (mkF m 171 #[sR a1, sR l1, sI 0, sR f0, sI N2382, sR P2382, sR W2382, sI at2382, sI iv2382] [(.ref P2382), (.int (0 : Int32)), (.ref b349)])) rfl rfl (hb hby dp22_1_171)
  have v391 : Arv Z h390 b349 k349 (.array .int) (2 : Int32) [(.ref P2382), .null] .null := Arv.set Ar390 q390 S390 N390 H390 G390 rfl W390 0 rfl (Nat.le_of_ble_eq_true rfl)
  have P392 : Rg p e below (T390.setTop (mkF m 172 #[sR a1, sR l1, sI 0, sR f0, sI N2382, sR P2382, sR W2382, sI at2382, sI iv2382] [])) B0 := fun t k => P388 t (by
    refine XS.iloadN X387.here hx rfl (hb hby dp22_1_168) rfl ?_
    refine XS.aload X387.here hx rfl (hb hby dp22_1_169) rfl rfl ?_
    show Sg p e below (T387.setTop (mkF m 171 #[sR a1, sR l1, sI 0, sR f0, sI N2382, sR P2382, sR W2382, sI at2382, sI iv2382] [(.ref P2382), (.int (0 : Int32)), (.ref b349)])) _
    exact st390 _ k)
  have N393 := Fr.snoc X390 Nq382 g_b349
  have Z394 : n0 ≤ h390.size := Nat.le_trans Z384 (Keep.of_wr W390).1
  have K395 : Keep h0 h390 [a1] := K385.wr W390 (Or.inr sz_b349)
  have f396 := ((f373.keep K382 nin0).other W390 (Or.inl (Nat.ne_of_lt (Nat.lt_of_lt_of_le Fw.lt (Nat.le_of_eq g349.symm)))))
  obtain ⟨T397, X397, e397, st397⟩ := getF X390 hx hZ hown (host := "") (Or.inl (own_hw hw 27 rfl)) Via.refl e390 f396 (g := (mkF m 173 #[sR a1, sR l1, sI 0, sR f0, sI N2382, sR P2382, sR W2382, sI at2382, sI iv2382] [(.ref a1)])) rfl rfl (hb hby dp22_1_173)
  have P398 : Rg p e below (T397.setTop (mkF m 176 #[sR a1, sR l1, sI 0, sR f0, sI N2382, sR P2382, sR W2382, sI at2382, sI iv2382] [(.ref b364)])) B0 := fun t k => P392 t (by
    refine XS.aloadN X390.here hx rfl (hb hby dp22_1_172) rfl rfl ?_
    show Sg p e below (T390.setTop (mkF m 173 #[sR a1, sR l1, sI 0, sR f0, sI N2382, sR P2382, sR W2382, sI at2382, sI iv2382] [(.ref a1)])) _
    exact st397 _ k)
  have f399 := (((v368.other W371 (Ne.symm (Nat.ne_of_lt (Nat.lt_of_lt_of_le f358.lt (Nat.le_of_eq g364.symm))))).keep K382 nin0).other W390 (Ne.symm (Nat.ne_of_lt (Nat.lt_of_lt_of_le (v353.other W356 (Ne.symm (Nat.ne_of_lt (Nat.lt_of_lt_of_le Fw.lt (Nat.le_of_eq g349.symm))))).lt (Nat.le_of_eq g364.symm)))))
  have f401 := (u382_6.wr W390)
  obtain ⟨cl400, Ar400, q400, S400, N400, H400, G400⟩ := id f399
  obtain ⟨T400, h400, X400, e400, W400, st400⟩ := stR X397 hx hZ e397 Ar400 (j := (0 : Int32)) (inb_of S400 ⟨by decide, by decide⟩) rfl (Sto.ofVA Ar400 q400 O364 (Ins.self f401)) (g := (mkF m 179 #[sR a1, sR l1, sI 0, sR f0, sI N2382, sR P2382, sR W2382, sI at2382, sI iv2382] [(.ref W2382), (.int (0 : Int32)), (.ref b364)])) rfl rfl (hb hby dp22_1_179)
  have v402 : Arv Z h400 b364 k364 (.array .long) (2 : Int32) [(.ref W2382), .null] .null := Arv.set Ar400 q400 S400 N400 H400 G400 rfl W400 0 rfl (Nat.le_of_ble_eq_true rfl)
  have P403 : Rg p e below (T400.setTop (mkF m 180 #[sR a1, sR l1, sI 0, sR f0, sI N2382, sR P2382, sR W2382, sI at2382, sI iv2382] [])) B0 := fun t k => P398 t (by
    refine XS.iloadN X397.here hx rfl (hb hby dp22_1_176) rfl ?_
    refine XS.aload X397.here hx rfl (hb hby dp22_1_177) rfl rfl ?_
    show Sg p e below (T397.setTop (mkF m 179 #[sR a1, sR l1, sI 0, sR f0, sI N2382, sR P2382, sR W2382, sI at2382, sI iv2382] [(.ref W2382), (.int (0 : Int32)), (.ref b364)])) _
    exact st400 _ k)
  have N404 := Fr.snoc X400 N393 g_b364
  have Z405 : n0 ≤ h400.size := Nat.le_trans Z394 (Keep.of_wr W400).1
  have K406 : Keep h0 h400 [a1] := K395.wr W400 (Or.inr sz_b364)
  have f407 := (((f377.keep K382 nin0).other W390 (Nat.ne_of_lt (Nat.lt_of_lt_of_le Al.lt (Nat.le_of_eq g349.symm)))).other W400 (Nat.ne_of_lt (Nat.lt_of_lt_of_le f362.lt (Nat.le_of_eq g364.symm))))
  obtain ⟨cl408, Ar408, -, S408, N408, -, -⟩ := id f407
  obtain ⟨cl409, Ar409, -, S409, N409, H409, -⟩ := id f407
  have hin409 : ¬ ((1 : Int32) < 0 ∨ cl409.slots.size ≤ ((1 : Int32)).toNatClampNeg) := inb_of S409 ⟨by decide, by decide⟩
  have f410 := (((((((A_f1.ext E349).other W356 (Ne.symm (Exa.neArv E1 A_f1 (own_hw hw 11 rfl)))).ext E364).other W371 (Ne.symm (Exa.neArv E1 A_f1 (own_hw hw 11 rfl)))).keep K382 nin0).other W390 (Nat.ne_of_lt (Nat.lt_of_lt_of_le A_f1.lt (Nat.le_of_eq g349.symm)))).other W400 (Nat.ne_of_lt (Nat.lt_of_lt_of_le ((A_f1.ext E349).other W356 (Ne.symm (Exa.neArv E1 A_f1 (own_hw hw 11 rfl)))).lt (Nat.le_of_eq g364.symm))))
  have P411 : Rg p e below (T400.setTop (mkF m 34 #[sR a1, sR l1, sI 1, sR f1, sI N2382, sR P2382, sR W2382, sI at2382, sI iv2382] [])) B0 := fun t k => P403 t (by
    refine XS.iinc X400.here hx rfl (hb hby dp22_1_180) rfl (l' := #[sR a1, sR l1, sI 1, sR f0, sI N2382, sR P2382, sR W2382, sI at2382, sI iv2382]) rfl ?_
    refine XS.goto X400.here hx rfl (pc0 := 183) (pc' := 24) rfl (hb hby dp22_1_183) (by decide) (by decide) ?_
    refine XS.iloadN X400.here hx rfl (hb hby dp22_1_24) rfl ?_
    refine XS.aloadN X400.here hx rfl (hb hby dp22_1_25) rfl rfl ?_
    show Sg p e below (T400.setTop (mkF m 26 #[sR a1, sR l1, sI 1, sR f0, sI N2382, sR P2382, sR W2382, sI at2382, sI iv2382] [(.ref l1), (.int (1 : Int32))])) _
    refine X400.arraylength hx (by rw [e400]; exact Ar408.1) (State.isArrayOf_alike hZ.alike Ar408.2.1) (g := (mkF m 26 #[sR a1, sR l1, sI 1, sR f0, sI N2382, sR P2382, sR W2382, sI at2382, sI iv2382] [(.ref l1), (.int (1 : Int32))])) rfl rfl (hb hby dp22_1_26) _ ?_
    rw [len_of S408 N408]
    show Sg p e below (T400.setTop (mkF m 27 #[sR a1, sR l1, sI 1, sR f0, sI N2382, sR P2382, sR W2382, sI at2382, sI iv2382] [(.int (2 : Int32)), (.int (1 : Int32))])) _
    refine XS.icmpNo X400.here hx rfl (hb hby dp22_1_27) rfl (tlt (show (1 : Int32) < (2 : Int32) from (by decide))).2.1 ?_
    refine XS.aloadN X400.here hx rfl (hb hby dp22_1_30) rfl rfl ?_
    refine XS.iloadN X400.here hx rfl (hb hby dp22_1_31) rfl ?_
    show Sg p e below (T400.setTop (mkF m 32 #[sR a1, sR l1, sI 1, sR f0, sI N2382, sR P2382, sR W2382, sI at2382, sI iv2382] [(.int (1 : Int32)), (.ref l1)])) _
    refine X400.aaload hx (j := (1 : Int32)) (v := (.ref f1)) (by rw [e400]; exact Ar409.1) (State.isArrayOf_alike hZ.alike Ar409.2.1) rfl Ar409.2.2 hin409 (H409.at hin409 rfl) (g := (mkF m 32 #[sR a1, sR l1, sI 1, sR f0, sI N2382, sR P2382, sR W2382, sI at2382, sI iv2382] [(.int (1 : Int32)), (.ref l1)])) rfl rfl (hb hby dp22_1_32) _ ?_
    show Sg p e below (T400.setTop (mkF m 33 #[sR a1, sR l1, sI 1, sR f0, sI N2382, sR P2382, sR W2382, sI at2382, sI iv2382] [(.ref f1)])) _
    refine XS.astoreN X400.here hx rfl (hb hby dp22_1_33) rfl rfl (l' := #[sR a1, sR l1, sI 1, sR f1, sI N2382, sR P2382, sR W2382, sI at2382, sI iv2382]) rfl ?_
    show Sg p e below (T400.setTop (mkF m 34 #[sR a1, sR l1, sI 1, sR f1, sI N2382, sR P2382, sR W2382, sI at2382, sI iv2382] [])) _
    exact k)
  obtain ⟨T412, h412, L412, P2412, W2412, k5412, k6412, pl412, wl412, N2412, at2412, iv2412, X412, e412, Nq412, K412, u412_0, u412_1, u412_2, u412_3, u412_4, u412_5, u412_6, u412_7, u412_8, st412⟩ := pc_cbd a1 l1 f1 kf1 (1 : Int32) M1 xs1 (sI N2382) (sR P2382) (sR W2382) (sI at2382) (sI iv2382) X400 hx hZ hw hby hml hown e400 N404 Z405 (Nat.le_of_ble_eq_true rfl) (Nat.le_of_ble_eq_true rfl) (by decide) (by decide) f410 hM1 hx1 (Or.inr ⟨_, rfl, rfl⟩) (Or.inr ⟨_, rfl, rfl⟩) (Or.inr ⟨_, rfl, rfl⟩) (Or.inr ⟨_, rfl, rfl⟩) (Or.inr ⟨_, rfl, rfl⟩)
  have P413 : Rg p e below (T412.setTop (mkF m 164 #[sR a1, sR l1, sI 1, sR f1, sI N2412, sR P2412, sR W2412, sI at2412, sI iv2412] [])) B0 := fun t k => P411 t (by
    exact st412 _ k)
  have Z414 : n0 ≤ h412.size := Nat.le_trans Z405 K412.1
  have K415 : Keep h0 h412 [a1] := K406.trans K412 (all0)
  have g_P2412 : n0 ≤ P2412 := Nat.le_trans Z405 u412_7
  have sz_P2412 : h0.size ≤ P2412 := Nat.le_trans K406.1 u412_7
  have g_W2412 : n0 ≤ W2412 := Nat.le_trans Z405 u412_8
  have sz_W2412 : h0.size ≤ W2412 := Nat.le_trans K406.1 u412_8
  have f416 := (((f386.other W390 (Or.inl (Nat.ne_of_lt (Nat.lt_of_lt_of_le Fw.lt (Nat.le_of_eq g349.symm))))).other W400 (Or.inl (Nat.ne_of_lt (Nat.lt_of_lt_of_le f358.lt (Nat.le_of_eq g364.symm))))).keep K412 nin0)
  obtain ⟨T417, X417, e417, st417⟩ := getF X412 hx hZ hown (host := "") (Or.inl (own_hw hw 23 rfl)) Via.refl e412 f416 (g := (mkF m 165 #[sR a1, sR l1, sI 1, sR f1, sI N2412, sR P2412, sR W2412, sI at2412, sI iv2412] [(.ref a1)])) rfl rfl (hb hby dp22_1_165)
  have P418 : Rg p e below (T417.setTop (mkF m 168 #[sR a1, sR l1, sI 1, sR f1, sI N2412, sR P2412, sR W2412, sI at2412, sI iv2412] [(.ref b349)])) B0 := fun t k => P413 t (by
    refine XS.aloadN X412.here hx rfl (hb hby dp22_1_164) rfl rfl ?_
    show Sg p e below (T412.setTop (mkF m 165 #[sR a1, sR l1, sI 1, sR f1, sI N2412, sR P2412, sR W2412, sI at2412, sI iv2412] [(.ref a1)])) _
    exact st417 _ k)
  have f419 := ((v391.other W400 (Nat.ne_of_lt (Nat.lt_of_lt_of_le (v353.other W356 (Ne.symm (Nat.ne_of_lt (Nat.lt_of_lt_of_le Fw.lt (Nat.le_of_eq g349.symm))))).lt (Nat.le_of_eq g364.symm)))).keep K412 nin0)
  obtain ⟨cl420, Ar420, q420, S420, N420, H420, G420⟩ := id f419
  obtain ⟨T420, h420, X420, e420, W420, st420⟩ := stR X417 hx hZ e417 Ar420 (j := (1 : Int32)) (inb_of S420 ⟨by decide, by decide⟩) rfl (Sto.ofVA Ar420 q420 O349 (Ins.self u412_5)) (g := (mkF m 171 #[sR a1, sR l1, sI 1, sR f1, sI N2412, sR P2412, sR W2412, sI at2412, sI iv2412] [(.ref P2412), (.int (1 : Int32)), (.ref b349)])) rfl rfl (hb hby dp22_1_171)
  have v421 : Arv Z h420 b349 k349 (.array .int) (2 : Int32) [(.ref P2382), (.ref P2412)] .null := Arv.set Ar420 q420 S420 N420 H420 G420 rfl W420 1 rfl (Nat.le_of_ble_eq_true rfl)
  have P422 : Rg p e below (T420.setTop (mkF m 172 #[sR a1, sR l1, sI 1, sR f1, sI N2412, sR P2412, sR W2412, sI at2412, sI iv2412] [])) B0 := fun t k => P418 t (by
    refine XS.iloadN X417.here hx rfl (hb hby dp22_1_168) rfl ?_
    refine XS.aload X417.here hx rfl (hb hby dp22_1_169) rfl rfl ?_
    show Sg p e below (T417.setTop (mkF m 171 #[sR a1, sR l1, sI 1, sR f1, sI N2412, sR P2412, sR W2412, sI at2412, sI iv2412] [(.ref P2412), (.int (1 : Int32)), (.ref b349)])) _
    exact st420 _ k)
  have N423 := Fr.snoc X420 Nq412 g_b349
  have Z424 : n0 ≤ h420.size := Nat.le_trans Z414 (Keep.of_wr W420).1
  have K425 : Keep h0 h420 [a1] := K415.wr W420 (Or.inr sz_b349)
  have f426 := (((f396.other W400 (Or.inl (Nat.ne_of_lt (Nat.lt_of_lt_of_le f358.lt (Nat.le_of_eq g364.symm))))).keep K412 nin0).other W420 (Or.inl (Nat.ne_of_lt (Nat.lt_of_lt_of_le Fw.lt (Nat.le_of_eq g349.symm)))))
  obtain ⟨T427, X427, e427, st427⟩ := getF X420 hx hZ hown (host := "") (Or.inl (own_hw hw 27 rfl)) Via.refl e420 f426 (g := (mkF m 173 #[sR a1, sR l1, sI 1, sR f1, sI N2412, sR P2412, sR W2412, sI at2412, sI iv2412] [(.ref a1)])) rfl rfl (hb hby dp22_1_173)
  have P428 : Rg p e below (T427.setTop (mkF m 176 #[sR a1, sR l1, sI 1, sR f1, sI N2412, sR P2412, sR W2412, sI at2412, sI iv2412] [(.ref b364)])) B0 := fun t k => P422 t (by
    refine XS.aloadN X420.here hx rfl (hb hby dp22_1_172) rfl rfl ?_
    show Sg p e below (T420.setTop (mkF m 173 #[sR a1, sR l1, sI 1, sR f1, sI N2412, sR P2412, sR W2412, sI at2412, sI iv2412] [(.ref a1)])) _
    exact st427 _ k)
  have f429 := ((v402.keep K412 nin0).other W420 (Ne.symm (Nat.ne_of_lt (Nat.lt_of_lt_of_le (v353.other W356 (Ne.symm (Nat.ne_of_lt (Nat.lt_of_lt_of_le Fw.lt (Nat.le_of_eq g349.symm))))).lt (Nat.le_of_eq g364.symm)))))
  have f431 := (u412_6.wr W420)
  obtain ⟨cl430, Ar430, q430, S430, N430, H430, G430⟩ := id f429
  obtain ⟨T430, h430, X430, e430, W430, st430⟩ := stR X427 hx hZ e427 Ar430 (j := (1 : Int32)) (inb_of S430 ⟨by decide, by decide⟩) rfl (Sto.ofVA Ar430 q430 O364 (Ins.self f431)) (g := (mkF m 179 #[sR a1, sR l1, sI 1, sR f1, sI N2412, sR P2412, sR W2412, sI at2412, sI iv2412] [(.ref W2412), (.int (1 : Int32)), (.ref b364)])) rfl rfl (hb hby dp22_1_179)
  have v432 : Arv Z h430 b364 k364 (.array .long) (2 : Int32) [(.ref W2382), (.ref W2412)] .null := Arv.set Ar430 q430 S430 N430 H430 G430 rfl W430 1 rfl (Nat.le_of_ble_eq_true rfl)
  have P433 : Rg p e below (T430.setTop (mkF m 180 #[sR a1, sR l1, sI 1, sR f1, sI N2412, sR P2412, sR W2412, sI at2412, sI iv2412] [])) B0 := fun t k => P428 t (by
    refine XS.iloadN X427.here hx rfl (hb hby dp22_1_176) rfl ?_
    refine XS.aload X427.here hx rfl (hb hby dp22_1_177) rfl rfl ?_
    show Sg p e below (T427.setTop (mkF m 179 #[sR a1, sR l1, sI 1, sR f1, sI N2412, sR P2412, sR W2412, sI at2412, sI iv2412] [(.ref W2412), (.int (1 : Int32)), (.ref b364)])) _
    exact st430 _ k)
  have N434 := Fr.snoc X430 N423 g_b364
  have Z435 : n0 ≤ h430.size := Nat.le_trans Z424 (Keep.of_wr W430).1
  have K436 : Keep h0 h430 [a1] := K425.wr W430 (Or.inr sz_b364)
  have f437 := (((f407.keep K412 nin0).other W420 (Nat.ne_of_lt (Nat.lt_of_lt_of_le Al.lt (Nat.le_of_eq g349.symm)))).other W430 (Nat.ne_of_lt (Nat.lt_of_lt_of_le f362.lt (Nat.le_of_eq g364.symm))))
  obtain ⟨cl438, Ar438, -, S438, N438, -, -⟩ := id f437
  have f439 := (((((u382_3.other W390 (Ne.symm (Nat.ne_of_lt (Nat.lt_of_lt_of_le (((v353.other W356 (Ne.symm (Nat.ne_of_lt (Nat.lt_of_lt_of_le Fw.lt (Nat.le_of_eq g349.symm))))).ext E364).other W371 (Ne.symm (Nat.ne_of_lt (Nat.lt_of_lt_of_le Fw.lt (Nat.le_of_eq g349.symm))))).lt u382_7)))).other W400 (Ne.symm (Nat.ne_of_lt (Nat.lt_of_lt_of_le (v368.other W371 (Ne.symm (Nat.ne_of_lt (Nat.lt_of_lt_of_le f358.lt (Nat.le_of_eq g364.symm))))).lt u382_7)))).keep K412 nin0).other W420 (Ne.symm (Nat.ne_of_lt (Nat.lt_of_lt_of_le (((v353.other W356 (Ne.symm (Nat.ne_of_lt (Nat.lt_of_lt_of_le Fw.lt (Nat.le_of_eq g349.symm))))).ext E364).other W371 (Ne.symm (Nat.ne_of_lt (Nat.lt_of_lt_of_le Fw.lt (Nat.le_of_eq g349.symm))))).lt u382_7)))).other W430 (Ne.symm (Nat.ne_of_lt (Nat.lt_of_lt_of_le (v368.other W371 (Ne.symm (Nat.ne_of_lt (Nat.lt_of_lt_of_le f358.lt (Nat.le_of_eq g364.symm))))).lt u382_7))))
  have f440 := (((((u382_4.other W390 (Ne.symm (Nat.ne_of_lt (Nat.lt_of_lt_of_le (((v353.other W356 (Ne.symm (Nat.ne_of_lt (Nat.lt_of_lt_of_le Fw.lt (Nat.le_of_eq g349.symm))))).ext E364).other W371 (Ne.symm (Nat.ne_of_lt (Nat.lt_of_lt_of_le Fw.lt (Nat.le_of_eq g349.symm))))).lt u382_8)))).other W400 (Ne.symm (Nat.ne_of_lt (Nat.lt_of_lt_of_le (v368.other W371 (Ne.symm (Nat.ne_of_lt (Nat.lt_of_lt_of_le f358.lt (Nat.le_of_eq g364.symm))))).lt u382_8)))).keep K412 nin0).other W420 (Ne.symm (Nat.ne_of_lt (Nat.lt_of_lt_of_le (((v353.other W356 (Ne.symm (Nat.ne_of_lt (Nat.lt_of_lt_of_le Fw.lt (Nat.le_of_eq g349.symm))))).ext E364).other W371 (Ne.symm (Nat.ne_of_lt (Nat.lt_of_lt_of_le Fw.lt (Nat.le_of_eq g349.symm))))).lt u382_8)))).other W430 (Ne.symm (Nat.ne_of_lt (Nat.lt_of_lt_of_le (v368.other W371 (Ne.symm (Nat.ne_of_lt (Nat.lt_of_lt_of_le f358.lt (Nat.le_of_eq g364.symm))))).lt u382_8))))
  have f441 := (((((u382_5.wr W390).wr W400).keep K412).wr W420).wr W430)
  have f442 := ((((f401.wr W400).keep K412).wr W420).wr W430)
  have f443 := ((u412_3.other W420 (Ne.symm (Nat.ne_of_lt (Nat.lt_of_lt_of_le (v391.other W400 (Nat.ne_of_lt (Nat.lt_of_lt_of_le (v353.other W356 (Ne.symm (Nat.ne_of_lt (Nat.lt_of_lt_of_le Fw.lt (Nat.le_of_eq g349.symm))))).lt (Nat.le_of_eq g364.symm)))).lt u412_7)))).other W430 (Ne.symm (Nat.ne_of_lt (Nat.lt_of_lt_of_le v402.lt u412_7))))
  have f444 := ((u412_4.other W420 (Ne.symm (Nat.ne_of_lt (Nat.lt_of_lt_of_le (v391.other W400 (Nat.ne_of_lt (Nat.lt_of_lt_of_le (v353.other W356 (Ne.symm (Nat.ne_of_lt (Nat.lt_of_lt_of_le Fw.lt (Nat.le_of_eq g349.symm))))).lt (Nat.le_of_eq g364.symm)))).lt u412_8)))).other W430 (Ne.symm (Nat.ne_of_lt (Nat.lt_of_lt_of_le v402.lt u412_8))))
  have f445 := ((u412_5.wr W420).wr W430)
  have f446 := (f431.wr W430)
  have f447 := (((((((f370.wr W371).keep K382).wr W390).wr W400).keep K412).wr W420).wr W430)
  have f448 := ((f416.other W420 (Or.inl (Nat.ne_of_lt (Nat.lt_of_lt_of_le Fw.lt (Nat.le_of_eq g349.symm))))).other W430 (Or.inl (Nat.ne_of_lt (Nat.lt_of_lt_of_le f358.lt (Nat.le_of_eq g364.symm)))))
  have f449 := (f426.other W430 (Or.inl (Nat.ne_of_lt (Nat.lt_of_lt_of_le f358.lt (Nat.le_of_eq g364.symm)))))
  have f450 := (v421.other W430 (Nat.ne_of_lt (Nat.lt_of_lt_of_le (v353.other W356 (Ne.symm (Nat.ne_of_lt (Nat.lt_of_lt_of_le Fw.lt (Nat.le_of_eq g349.symm))))).lt (Nat.le_of_eq g364.symm))))
  obtain ⟨fs451, hr451, hrun451, hended451, hW451, hsame451⟩ := X430.leave (v := none) (fun _ => rfl)
  refine ⟨_, _, pre0 _ (P433 _ ?_), hrun451, hended451, _, _, rfl, ?_, ⟨⟨_, rfl⟩, hW451, hsame451.mono (Nat.le_of_ble_eq_true rfl) (Nat.le_of_ble_eq_true rfl)⟩⟩
  · show Sg p e below (T430.setTop (mkF m 180 #[sR a1, sR l1, sI 1, sR f1, sI N2412, sR P2412, sR W2412, sI at2412, sI iv2412] [])) _
    refine XS.iinc X430.here hx rfl (hb hby dp22_1_180) rfl (l' := #[sR a1, sR l1, sI 2, sR f1, sI N2412, sR P2412, sR W2412, sI at2412, sI iv2412]) rfl ?_
    refine XS.goto X430.here hx rfl (pc0 := 183) (pc' := 24) rfl (hb hby dp22_1_183) (by decide) (by decide) ?_
    refine XS.iloadN X430.here hx rfl (hb hby dp22_1_24) rfl ?_
    refine XS.aloadN X430.here hx rfl (hb hby dp22_1_25) rfl rfl ?_
    show Sg p e below (T430.setTop (mkF m 26 #[sR a1, sR l1, sI 2, sR f1, sI N2412, sR P2412, sR W2412, sI at2412, sI iv2412] [(.ref l1), (.int (2 : Int32))])) _
    refine X430.arraylength hx (by rw [e430]; exact Ar438.1) (State.isArrayOf_alike hZ.alike Ar438.2.1) (g := (mkF m 26 #[sR a1, sR l1, sI 2, sR f1, sI N2412, sR P2412, sR W2412, sI at2412, sI iv2412] [(.ref l1), (.int (2 : Int32))])) rfl rfl (hb hby dp22_1_26) _ ?_
    rw [len_of S438 N438]
    show Sg p e below (T430.setTop (mkF m 27 #[sR a1, sR l1, sI 2, sR f1, sI N2412, sR P2412, sR W2412, sI at2412, sI iv2412] [(.int (2 : Int32)), (.int (2 : Int32))])) _
    refine XS.icmpYes X430.here hx rfl (pc0 := 27) (pc' := 186) rfl (hb hby dp22_1_27) rfl (flt (show ¬ ((2 : Int32) < (2 : Int32)) from (by decide))).2.1 (by decide) (by decide) ?_
    show Sg p e below (T430.setTop (mkF m 186 #[sR a1, sR l1, sI 2, sR f1, sI N2412, sR P2412, sR W2412, sI at2412, sI iv2412] [])) _
    exact X430.returnOut hx Bd.returns (hb hby dp22_1_186) hr451
  · show Q_wsInit Z a1 xs0 xs1 h0 n0 _ T430.heap _
    rw [e430]
    exact ⟨rfl, N434, K436, f447, b349, b364, _, _, P2382, P2412, W2382, W2412, f448, f449, f450, v432, sz_b349, sz_b364, ⟨_, _, pl382, wl382, N2382, u382_0, u382_1, u382_2, f439, f440, f441, f442, sz_P2382, sz_W2382⟩, ⟨_, _, pl412, wl412, N2412, u412_0, u412_1, u412_2, f443, f444, f445, f446, sz_P2412, sz_W2412⟩⟩
theorem dp23_2_49 : decode prog_23_method_2_code 49 = .ok (.iload 5, 2) := by decide +kernel
theorem dp23_2_51 : decode prog_23_method_2_code 51 = .ok (.aload_n 3, 1) := by decide +kernel
theorem dp23_2_52 : decode prog_23_method_2_code 52 = .ok (.arraylength, 1) := by decide +kernel
theorem dp23_2_53 : decode prog_23_method_2_code 53 = .ok (.if_icmp .ge 53, 3) := by decide +kernel
theorem dp23_2_56 : decode prog_23_method_2_code 56 = .ok (.aload 4, 2) := by decide +kernel
theorem dp23_2_58 : decode prog_23_method_2_code 58 = .ok (.iload 5, 2) := by decide +kernel
theorem dp23_2_60 : decode prog_23_method_2_code 60 = .ok (.laload, 1) := by decide +kernel
theorem dp23_2_61 : decode prog_23_method_2_code 61 = .ok (.lconst 0, 1) := by decide +kernel
theorem dp23_2_62 : decode prog_23_method_2_code 62 = .ok (.lcmp, 1) := by decide +kernel
theorem dp23_2_63 : decode prog_23_method_2_code 63 = .ok (.ifCond .eq 37, 3) := by decide +kernel
theorem dp23_2_66 : decode prog_23_method_2_code 66 = .ok (.aload_n 0, 1) := by decide +kernel
theorem dp23_2_67 : decode prog_23_method_2_code 67 = .ok (.getfield 7, 3) := by decide +kernel
theorem dp23_2_70 : decode prog_23_method_2_code 70 = .ok (.aload_n 0, 1) := by decide +kernel
theorem dp23_2_71 : decode prog_23_method_2_code 71 = .ok (.getfield 25, 3) := by decide +kernel
theorem dp23_2_74 : decode prog_23_method_2_code 74 = .ok (.aload_n 3, 1) := by decide +kernel
theorem dp23_2_75 : decode prog_23_method_2_code 75 = .ok (.iload 5, 2) := by decide +kernel
theorem dp23_2_77 : decode prog_23_method_2_code 77 = .ok (.iaload, 1) := by decide +kernel
theorem dp23_2_78 : decode prog_23_method_2_code 78 = .ok (.iastore, 1) := by decide +kernel
theorem dp23_2_79 : decode prog_23_method_2_code 79 = .ok (.aload_n 0, 1) := by decide +kernel
theorem dp23_2_80 : decode prog_23_method_2_code 80 = .ok (.getfield 13, 3) := by decide +kernel
theorem dp23_2_83 : decode prog_23_method_2_code 83 = .ok (.aload_n 0, 1) := by decide +kernel
theorem dp23_2_84 : decode prog_23_method_2_code 84 = .ok (.dup, 1) := by decide +kernel
theorem dp23_2_85 : decode prog_23_method_2_code 85 = .ok (.getfield 25, 3) := by decide +kernel
theorem dp23_2_88 : decode prog_23_method_2_code 88 = .ok (.dup_x1, 1) := by decide +kernel
theorem dp23_2_89 : decode prog_23_method_2_code 89 = .ok (.iconst 1, 1) := by decide +kernel
theorem dp23_2_90 : decode prog_23_method_2_code 90 = .ok (.iadd, 1) := by decide +kernel
theorem dp23_2_91 : decode prog_23_method_2_code 91 = .ok (.putfield 25, 3) := by decide +kernel
theorem dp23_2_94 : decode prog_23_method_2_code 94 = .ok (.aload 4, 2) := by decide +kernel
theorem dp23_2_96 : decode prog_23_method_2_code 96 = .ok (.iload 5, 2) := by decide +kernel
theorem dp23_2_98 : decode prog_23_method_2_code 98 = .ok (.laload, 1) := by decide +kernel
theorem dp23_2_99 : decode prog_23_method_2_code 99 = .ok (.lastore, 1) := by decide +kernel
theorem dp23_2_100 : decode prog_23_method_2_code 100 = .ok (.iinc 5 1, 3) := by decide +kernel
theorem dp23_2_103 : decode prog_23_method_2_code 103 = .ok (.goto (-54), 3) := by decide +kernel
set_option maxRecDepth 65536 in
set_option maxHeartbeats 40000000 in
theorem pc_cpt {p : Program} {l : Launch} {e : Env} {R : Room} {s : State} {m : MethodId} {args : Array Value} {below : List Frame} {meth : Method} {c : Code} {T0 : State} {locs : List Loc} {cells slots : Nat} {Z : State} {a0 : Array Value} {h0 : Heap} {n0 : Nat} (a1 fa f g P W : Addr) (kf kg kP kW : ClassId) (sv N M cn iv px : Int32) (y : Int64) (vf vg vp vw : List Value) (kk : Nat) (X0 : Stand p l e R s m args below meth c T0 locs cells slots) (hx : p.tables.exec = Jvm.exec) (hZ : Z.Warmed39 s.vm) (hw : ∀ d ∈ tables_1, d.before a0 Z = true) (hby : c.code = prog_23_method_2_code) (hml : c.maxLocals = 6) (hown : s.vm.findClass "com/example/whittle/whittle/engine/WordSets$Meet" = some m.cls) (e0 : T0.heap = h0) (N0 : Fr n0 locs) (Z0 : n0 ≤ h0.size) (hcc : cells + 0 ≤ R.cells) (hcs : slots + 0 ≤ R.slots) (hfr : 0 ≤ R.frames) (hlo : 0 ≤ R.locals) (g_a1 : n0 ≤ a1) (g_P : n0 ≤ P) (g_W : n0 ≤ W) (E1 : Exa Z h0 a1 "com/example/whittle/whittle/engine/WordSets$Meet") (EP : Exa Z h0 P "[I") (EW1 : Exa Z h0 W "[J") (Eg : Exa Z h0 g "[J") (Fp : Fld Z h0 a1 "com/example/whittle/whittle/engine/WordSets$Meet" "places" "[I" (.ref P)) (Fw : Fld Z h0 a1 "com/example/whittle/whittle/engine/WordSets$Meet" "words" "[J" (.ref W)) (Fc : Fld Z h0 a1 "com/example/whittle/whittle/engine/WordSets$Meet" "count" "I" (.int cn)) (Af : Arv Z h0 f kf .int N vf (.int (0 : Int32))) (Ag : Arv Z h0 g kg .long N vg (.long (0 : Int64))) (AP : Arv Z h0 P kP .int M vp (.int (0 : Int32))) (AW : Arv Z h0 W kW .long M vw (.long (0 : Int64))) (hlt : iv < N) (h1 : ¬ iv < 0 ∧ iv < N) (ef : vf.getD iv.toNatClampNeg (.int (0 : Int32)) = .int px) (eg : vg.getD iv.toNatClampNeg (.long (0 : Int64)) = .long y) (nz : ¬ y = (0 : Int64)) (hin : ¬ cn < 0 ∧ cn < M) (hk : cn.toNatClampNeg = kk) (hlp : kk < vp.length) (hlw : kk < vw.length) :
    ∃ (T' : State) (h' : Heap) (locs' : List Loc), Stand p l e R s m args below meth c T' locs' (cells + 0) (slots + 0) ∧ T'.heap = h' ∧ Fr n0 locs' ∧ Keep h0 h' [a1, P, W] ∧ Fld Z h' a1 sM "places" "[I" (.ref P) ∧ Fld Z h' a1 sM "words" "[J" (.ref W) ∧ Fld Z h' a1 sM "count" "I" (.int (cn + (1 : Int32))) ∧ Arv Z h' P kP .int M (vp.set kk (.int px)) (.int (0 : Int32)) ∧ Arv Z h' W kW .long M (vw.set kk (.long y)) (.long (0 : Int64)) ∧ ∀ t, Sg p e below (T'.setTop (mkF m 49 #[sR a1, sR fa, sI sv, sR f, sR g, .val (.int (iv + (1 : Int32)))] [])) t → Sg p e below (T0.setTop (mkF m 49 #[sR a1, sR fa, sI sv, sR f, sR g, sI iv] [])) t := by
  have P0 : ∀ t, Sg p e below (T0.setTop (mkF m 49 #[sR a1, sR fa, sI sv, sR f, sR g, sI iv] [])) t → Sg p e below (T0.setTop (mkF m 49 #[sR a1, sR fa, sI sv, sR f, sR g, sI iv] [])) t := fun t k => k
  obtain ⟨cl452, Ar452, -, S452, N452, -, -⟩ := id Af
  obtain ⟨cl453, Ar453, -, S453, N453, H453, -⟩ := id Ag
  have hin453 : ¬ (iv < 0 ∨ cl453.slots.size ≤ (iv).toNatClampNeg) := inb_of S453 h1
  obtain ⟨T454, X454, e454, st454⟩ := getF X0 hx hZ hown (host := "") (Or.inl (own_hw hw 38 rfl)) Via.refl e0 Fp (g := (mkF m 67 #[sR a1, sR fa, sI sv, sR f, sR g, sI iv] [(.ref a1)])) rfl rfl (hb hby dp23_2_67)
  have P455 : ∀ t, Sg p e below (T454.setTop (mkF m 70 #[sR a1, sR fa, sI sv, sR f, sR g, sI iv] [(.ref P)])) t → Sg p e below (T0.setTop (mkF m 49 #[sR a1, sR fa, sI sv, sR f, sR g, sI iv] [])) t := fun t k => P0 t (by
    refine XS.iload X0.here hx rfl (hb hby dp23_2_49) rfl ?_
    refine XS.aloadN X0.here hx rfl (hb hby dp23_2_51) rfl rfl ?_
    show Sg p e below (T0.setTop (mkF m 52 #[sR a1, sR fa, sI sv, sR f, sR g, sI iv] [(.ref f), (.int iv)])) _
    refine X0.arraylength hx (by rw [e0]; exact Ar452.1) (State.isArrayOf_alike hZ.alike Ar452.2.1) (g := (mkF m 52 #[sR a1, sR fa, sI sv, sR f, sR g, sI iv] [(.ref f), (.int iv)])) rfl rfl (hb hby dp23_2_52) _ ?_
    rw [len_of S452 N452]
    show Sg p e below (T0.setTop (mkF m 53 #[sR a1, sR fa, sI sv, sR f, sR g, sI iv] [(.int N), (.int iv)])) _
    refine XS.icmpNo X0.here hx rfl (hb hby dp23_2_53) rfl (tlt (show iv < N from hlt)).2.1 ?_
    refine XS.aload X0.here hx rfl (hb hby dp23_2_56) rfl rfl ?_
    refine XS.iload X0.here hx rfl (hb hby dp23_2_58) rfl ?_
    show Sg p e below (T0.setTop (mkF m 60 #[sR a1, sR fa, sI sv, sR f, sR g, sI iv] [(.int iv), (.ref g)])) _
    refine X0.laload hx (j := iv) (v := (.long y)) (by rw [e0]; exact Ar453.1) (State.isArrayOf_alike hZ.alike Ar453.2.1) Ar453.2.2 hin453 (H453.at hin453 eg) (g := (mkF m 60 #[sR a1, sR fa, sI sv, sR f, sR g, sI iv] [(.int iv), (.ref g)])) rfl rfl (hb hby dp23_2_60) _ ?_
    show Sg p e below (T0.setTop (mkF m 61 #[sR a1, sR fa, sI sv, sR f, sR g, sI iv] [(.long y)])) _
    refine XS.lconst X0.here hx rfl (hb hby dp23_2_61) ?_
    refine XS.lcmp X0.here hx rfl (hb hby dp23_2_62) rfl ?_
    refine XS.ifNo X0.here hx rfl (hb hby dp23_2_63) rfl (XT.ll_eq_f (show ¬ (y = (0 : Int64)) from nz)) ?_
    refine XS.aloadN X0.here hx rfl (hb hby dp23_2_66) rfl rfl ?_
    show Sg p e below (T0.setTop (mkF m 67 #[sR a1, sR fa, sI sv, sR f, sR g, sI iv] [(.ref a1)])) _
    exact st454 _ k)
  obtain ⟨T456, X456, e456, st456⟩ := getF X454 hx hZ hown (host := "") (Or.inl (own_hw hw 49 rfl)) Via.refl e454 Fc (g := (mkF m 71 #[sR a1, sR fa, sI sv, sR f, sR g, sI iv] [(.ref a1), (.ref P)])) rfl rfl (hb hby dp23_2_71)
  have P457 : ∀ t, Sg p e below (T456.setTop (mkF m 74 #[sR a1, sR fa, sI sv, sR f, sR g, sI iv] [(.int cn), (.ref P)])) t → Sg p e below (T0.setTop (mkF m 49 #[sR a1, sR fa, sI sv, sR f, sR g, sI iv] [])) t := fun t k => P455 t (by
    refine XS.aloadN X454.here hx rfl (hb hby dp23_2_70) rfl rfl ?_
    show Sg p e below (T454.setTop (mkF m 71 #[sR a1, sR fa, sI sv, sR f, sR g, sI iv] [(.ref a1), (.ref P)])) _
    exact st456 _ k)
  obtain ⟨cl458, Ar458, -, S458, N458, H458, -⟩ := id Af
  have hin458 : ¬ (iv < 0 ∨ cl458.slots.size ≤ (iv).toNatClampNeg) := inb_of S458 h1
  obtain ⟨cl459, Ar459, q459, S459, N459, H459, G459⟩ := id AP
  obtain ⟨T459, h459, X459, e459, W459, st459⟩ := stI X456 hx hZ e456 Ar459 (j := cn) (inb_of S459 hin) (g := (mkF m 78 #[sR a1, sR fa, sI sv, sR f, sR g, sI iv] [(.int px), (.int cn), (.ref P)])) rfl rfl (hb hby dp23_2_78)
  have v460 : Arv Z h459 P kP .int M (vp.set kk (.int px)) (.int (0 : Int32)) := Arv.set Ar459 q459 S459 N459 H459 G459 rfl W459 kk hk hlp
  have P461 : ∀ t, Sg p e below (T459.setTop (mkF m 79 #[sR a1, sR fa, sI sv, sR f, sR g, sI iv] [])) t → Sg p e below (T0.setTop (mkF m 49 #[sR a1, sR fa, sI sv, sR f, sR g, sI iv] [])) t := fun t k => P457 t (by
    refine XS.aloadN X456.here hx rfl (hb hby dp23_2_74) rfl rfl ?_
    refine XS.iload X456.here hx rfl (hb hby dp23_2_75) rfl ?_
    show Sg p e below (T456.setTop (mkF m 77 #[sR a1, sR fa, sI sv, sR f, sR g, sI iv] [(.int iv), (.ref f), (.int cn), (.ref P)])) _
    refine X456.iaload hx (j := iv) (v := (.int px)) (by rw [e456]; exact Ar458.1) (State.isArrayOf_alike hZ.alike Ar458.2.1) Ar458.2.2 hin458 (H458.at hin458 ef) (g := (mkF m 77 #[sR a1, sR fa, sI sv, sR f, sR g, sI iv] [(.int iv), (.ref f), (.int cn), (.ref P)])) rfl rfl (hb hby dp23_2_77) _ ?_
    show Sg p e below (T456.setTop (mkF m 78 #[sR a1, sR fa, sI sv, sR f, sR g, sI iv] [(.int px), (.int cn), (.ref P)])) _
    exact st459 _ k)
  have N462 := Fr.snoc X459 N0 g_P
  have Z463 : n0 ≤ h459.size := Nat.le_trans Z0 (Keep.of_wr W459).1
  have K464 : Keep h0 h459 [a1, P, W] := (Keep.refl h0 [a1, P, W]).wr W459 (Or.inl (List.mem_of_getElem? (i := 1) rfl))
  have f465 := (Fw.other W459 (Or.inl (Exa.ne E1 EP (by decide))))
  obtain ⟨T466, X466, e466, st466⟩ := getF X459 hx hZ hown (host := "") (Or.inl (own_hw hw 40 rfl)) Via.refl e459 f465 (g := (mkF m 80 #[sR a1, sR fa, sI sv, sR f, sR g, sI iv] [(.ref a1)])) rfl rfl (hb hby dp23_2_80)
  have P467 : ∀ t, Sg p e below (T466.setTop (mkF m 83 #[sR a1, sR fa, sI sv, sR f, sR g, sI iv] [(.ref W)])) t → Sg p e below (T0.setTop (mkF m 49 #[sR a1, sR fa, sI sv, sR f, sR g, sI iv] [])) t := fun t k => P461 t (by
    refine XS.aloadN X459.here hx rfl (hb hby dp23_2_79) rfl rfl ?_
    show Sg p e below (T459.setTop (mkF m 80 #[sR a1, sR fa, sI sv, sR f, sR g, sI iv] [(.ref a1)])) _
    exact st466 _ k)
  have f468 := (Fc.other W459 (Or.inl (Exa.ne E1 EP (by decide))))
  obtain ⟨T469, X469, e469, st469⟩ := getF X466 hx hZ hown (host := "") (Or.inl (own_hw hw 49 rfl)) Via.refl e466 f468 (g := (mkF m 85 #[sR a1, sR fa, sI sv, sR f, sR g, sI iv] [(.ref a1), (.ref a1), (.ref W)])) rfl rfl (hb hby dp23_2_85)
  have P470 : ∀ t, Sg p e below (T469.setTop (mkF m 88 #[sR a1, sR fa, sI sv, sR f, sR g, sI iv] [(.int cn), (.ref a1), (.ref W)])) t → Sg p e below (T0.setTop (mkF m 49 #[sR a1, sR fa, sI sv, sR f, sR g, sI iv] [])) t := fun t k => P467 t (by
    refine XS.aloadN X466.here hx rfl (hb hby dp23_2_83) rfl rfl ?_
    refine XS.dup X466.here hx rfl (hb hby dp23_2_84) rfl rfl ?_
    show Sg p e below (T466.setTop (mkF m 85 #[sR a1, sR fa, sI sv, sR f, sR g, sI iv] [(.ref a1), (.ref a1), (.ref W)])) _
    exact st469 _ k)
  have f471 := (E1.wr W459)
  obtain ⟨T472, h472, X472, e472, W472, st472⟩ := putF X469 hx hZ hown (host := "") (Or.inl (own_hw hw 49 rfl)) Via.refl e469 f468 f471 (Or.inl (own_hw hw 50 rfl)) (own_hw hw 32 rfl) (ty := .int) (by decide) rfl rfl (g := (mkF m 91 #[sR a1, sR fa, sI sv, sR f, sR g, sI iv] [(.int (cn + (1 : Int32))), (.ref a1), (.int cn), (.ref W)])) rfl rfl (hb hby dp23_2_91)
  have P473 : ∀ t, Sg p e below (T472.setTop (mkF m 94 #[sR a1, sR fa, sI sv, sR f, sR g, sI iv] [(.int cn), (.ref W)])) t → Sg p e below (T0.setTop (mkF m 49 #[sR a1, sR fa, sI sv, sR f, sR g, sI iv] [])) t := fun t k => P470 t (by
    refine XT.dupX1 X469.here hx rfl (hb hby dp23_2_88) rfl rfl rfl ?_
    refine XS.iconst X469.here hx rfl (hb hby dp23_2_89) ?_
    refine XS.iadd X469.here hx rfl (hb hby dp23_2_90) rfl ?_
    show Sg p e below (T469.setTop (mkF m 91 #[sR a1, sR fa, sI sv, sR f, sR g, sI iv] [(.int (cn + (1 : Int32))), (.ref a1), (.int cn), (.ref W)])) _
    exact st472 _ k)
  have f474 := f468.same W472
  have N475 := Fr.snoc X472 N462 g_a1
  have Z476 : n0 ≤ h472.size := Nat.le_trans Z463 (Keep.of_wr W472).1
  have K477 : Keep h0 h472 [a1, P, W] := K464.wr W472 (Or.inl (List.mem_of_getElem? (i := 0) rfl))
  have f478 := ((Ag.other W459 (Exa.ne Eg EP (by decide))).other W472 (Exa.ne Eg E1 (by decide)))
  obtain ⟨cl479, Ar479, -, S479, N479, H479, -⟩ := id f478
  have hin479 : ¬ (iv < 0 ∨ cl479.slots.size ≤ (iv).toNatClampNeg) := inb_of S479 h1
  have f480 := ((AW.other W459 (Exa.ne EW1 EP (by decide))).other W472 (Exa.ne EW1 E1 (by decide)))
  obtain ⟨cl481, Ar481, q481, S481, N481, H481, G481⟩ := id f480
  obtain ⟨T481, h481, X481, e481, W481, st481⟩ := stJ X472 hx hZ e472 Ar481 (j := cn) (inb_of S481 hin) (g := (mkF m 99 #[sR a1, sR fa, sI sv, sR f, sR g, sI iv] [(.long y), (.int cn), (.ref W)])) rfl rfl (hb hby dp23_2_99)
  have v482 : Arv Z h481 W kW .long M (vw.set kk (.long y)) (.long (0 : Int64)) := Arv.set Ar481 q481 S481 N481 H481 G481 rfl W481 kk hk hlw
  have P483 : ∀ t, Sg p e below (T481.setTop (mkF m 100 #[sR a1, sR fa, sI sv, sR f, sR g, sI iv] [])) t → Sg p e below (T0.setTop (mkF m 49 #[sR a1, sR fa, sI sv, sR f, sR g, sI iv] [])) t := fun t k => P473 t (by
    refine XS.aload X472.here hx rfl (hb hby dp23_2_94) rfl rfl ?_
    refine XS.iload X472.here hx rfl (hb hby dp23_2_96) rfl ?_
    show Sg p e below (T472.setTop (mkF m 98 #[sR a1, sR fa, sI sv, sR f, sR g, sI iv] [(.int iv), (.ref g), (.int cn), (.ref W)])) _
    refine X472.laload hx (j := iv) (v := (.long y)) (by rw [e472]; exact Ar479.1) (State.isArrayOf_alike hZ.alike Ar479.2.1) Ar479.2.2 hin479 (H479.at hin479 eg) (g := (mkF m 98 #[sR a1, sR fa, sI sv, sR f, sR g, sI iv] [(.int iv), (.ref g), (.int cn), (.ref W)])) rfl rfl (hb hby dp23_2_98) _ ?_
    show Sg p e below (T472.setTop (mkF m 99 #[sR a1, sR fa, sI sv, sR f, sR g, sI iv] [(.long y), (.int cn), (.ref W)])) _
    exact st481 _ k)
  have N484 := Fr.snoc X481 N475 g_W
  have Z485 : n0 ≤ h481.size := Nat.le_trans Z476 (Keep.of_wr W481).1
  have K486 : Keep h0 h481 [a1, P, W] := K477.wr W481 (Or.inl (List.mem_of_getElem? (i := 2) rfl))
  have f487 := (((Fp.other W459 (Or.inl (Exa.ne E1 EP (by decide)))).other W472 (Or.inr (slot_ne (Or.inl (own_hw hw 39 rfl)) (Or.inl (own_hw hw 50 rfl)) (by decide) (t := (.array .int)) (t' := .int) (by decide) (by decide)))).other W481 (Or.inl (Exa.ne E1 EW1 (by decide))))
  have f488 := ((f465.other W472 (Or.inr (slot_ne (Or.inl (own_hw hw 41 rfl)) (Or.inl (own_hw hw 50 rfl)) (by decide) (t := (.array .long)) (t' := .int) (by decide) (by decide)))).other W481 (Or.inl (Exa.ne E1 EW1 (by decide))))
  have f489 := (f474.other W481 (Or.inl (Exa.ne E1 EW1 (by decide))))
  have f490 := ((v460.other W472 (Exa.ne EP E1 (by decide))).other W481 (Exa.ne EP EW1 (by decide)))
  have P491 : ∀ t, Sg p e below (T481.setTop (mkF m 49 #[sR a1, sR fa, sI sv, sR f, sR g, .val (.int (iv + (1 : Int32)))] [])) t → Sg p e below (T0.setTop (mkF m 49 #[sR a1, sR fa, sI sv, sR f, sR g, sI iv] [])) t := fun t k => P483 t (by
    refine XS.iinc X481.here hx rfl (hb hby dp23_2_100) rfl (l' := #[sR a1, sR fa, sI sv, sR f, sR g, .val (.int (iv + (1 : Int32)))]) rfl ?_
    refine XS.goto X481.here hx rfl (pc0 := 103) (pc' := 49) rfl (hb hby dp23_2_103) (by decide) (by decide) ?_
    show Sg p e below (T481.setTop (mkF m 49 #[sR a1, sR fa, sI sv, sR f, sR g, .val (.int (iv + (1 : Int32)))] [])) _
    exact k)
  exact ⟨T481, h481, _, X481.more (by omega) (by omega), e481, N484, K486, f487, f488, f489, f490, v482, P491⟩
theorem dp23_2_0 : decode prog_23_method_2_code 0 = .ok (.aload_n 1, 1) := by decide +kernel
theorem dp23_2_1 : decode prog_23_method_2_code 1 = .ok (.getfield 17, 3) := by decide +kernel
theorem dp23_2_4 : decode prog_23_method_2_code 4 = .ok (.iload_n 2, 1) := by decide +kernel
theorem dp23_2_5 : decode prog_23_method_2_code 5 = .ok (.aaload, 1) := by decide +kernel
theorem dp23_2_6 : decode prog_23_method_2_code 6 = .ok (.astore_n 3, 1) := by decide +kernel
theorem dp23_2_7 : decode prog_23_method_2_code 7 = .ok (.aload_n 1, 1) := by decide +kernel
theorem dp23_2_8 : decode prog_23_method_2_code 8 = .ok (.getfield 22, 3) := by decide +kernel
theorem dp23_2_11 : decode prog_23_method_2_code 11 = .ok (.iload_n 2, 1) := by decide +kernel
theorem dp23_2_12 : decode prog_23_method_2_code 12 = .ok (.aaload, 1) := by decide +kernel
theorem dp23_2_13 : decode prog_23_method_2_code 13 = .ok (.astore 4, 2) := by decide +kernel
theorem dp23_2_15 : decode prog_23_method_2_code 15 = .ok (.aload_n 0, 1) := by decide +kernel
theorem dp23_2_16 : decode prog_23_method_2_code 16 = .ok (.getfield 7, 3) := by decide +kernel
theorem dp23_2_19 : decode prog_23_method_2_code 19 = .ok (.arraylength, 1) := by decide +kernel
theorem dp23_2_20 : decode prog_23_method_2_code 20 = .ok (.aload_n 3, 1) := by decide +kernel
theorem dp23_2_21 : decode prog_23_method_2_code 21 = .ok (.arraylength, 1) := by decide +kernel
theorem dp23_2_22 : decode prog_23_method_2_code 22 = .ok (.if_icmp .ge 19, 3) := by decide +kernel
theorem dp23_2_25 : decode prog_23_method_2_code 25 = .ok (.aload_n 0, 1) := by decide +kernel
theorem dp23_2_26 : decode prog_23_method_2_code 26 = .ok (.aload_n 3, 1) := by decide +kernel
theorem dp23_2_27 : decode prog_23_method_2_code 27 = .ok (.arraylength, 1) := by decide +kernel
theorem dp23_2_28 : decode prog_23_method_2_code 28 = .ok (.newarray .int, 2) := by decide +kernel
theorem dp23_2_30 : decode prog_23_method_2_code 30 = .ok (.putfield 7, 3) := by decide +kernel
theorem dp23_2_33 : decode prog_23_method_2_code 33 = .ok (.aload_n 0, 1) := by decide +kernel
theorem dp23_2_34 : decode prog_23_method_2_code 34 = .ok (.aload_n 3, 1) := by decide +kernel
theorem dp23_2_35 : decode prog_23_method_2_code 35 = .ok (.arraylength, 1) := by decide +kernel
theorem dp23_2_36 : decode prog_23_method_2_code 36 = .ok (.newarray .long, 2) := by decide +kernel
theorem dp23_2_38 : decode prog_23_method_2_code 38 = .ok (.putfield 13, 3) := by decide +kernel
theorem dp23_2_41 : decode prog_23_method_2_code 41 = .ok (.aload_n 0, 1) := by decide +kernel
theorem dp23_2_42 : decode prog_23_method_2_code 42 = .ok (.iconst 0, 1) := by decide +kernel
theorem dp23_2_43 : decode prog_23_method_2_code 43 = .ok (.putfield 25, 3) := by decide +kernel
theorem dp23_2_46 : decode prog_23_method_2_code 46 = .ok (.iconst 0, 1) := by decide +kernel
theorem dp23_2_47 : decode prog_23_method_2_code 47 = .ok (.istore 5, 2) := by decide +kernel
theorem dp23_2_106 : decode prog_23_method_2_code 106 = .ok (.return_, 1) := by decide +kernel
theorem pn_com_example_whittle_whittle_engine_WordSets_Meet : plainName "com/example/whittle/whittle/engine/WordSets$Meet" = true := by first | (simp [plainName, overriddenIn]; done) | decide +kernel
theorem ef_stf (m : MethodId) (x0 : Addr) (x1 : Addr) (x2 : Int32) : entryFrame m #[(.ref x0), (.ref x1), (.int x2)] 6 = mkF m 0 #[sR x0, sR x1, sI x2, sU, sU, sU] [] := by (first | (simp [entryFrame, mkF, argsToLocals, Value.category]; done) | rfl)
def Q_stf (Z : State) (a1 : Addr) (N : Int32) (pl : List Int32) (wl : List Int64) (h0 : Heap) (n0 : Nat) (v : Option Value) (h : Heap) (L : List Loc) : Prop := v = none ∧ Fr n0 L ∧ Keep h0 h [a1] ∧ Exa Z h a1 sM ∧ Fld Z h a1 sM "count" "I" (.int N) ∧ ∃ (P2 W2 : Addr) (k k2 : ClassId), Fld Z h a1 sM "places" "[I" (.ref P2) ∧ Fld Z h a1 sM "words" "[J" (.ref W2) ∧ Arv Z h P2 k .int N (pl.map Value.int) (.int (0 : Int32)) ∧ Arv Z h W2 k2 .long N (wl.map Value.long) (.long (0 : Int64)) ∧ Exa Z h P2 "[I" ∧ Exa Z h W2 "[J" ∧ h0.size ≤ P2 ∧ h0.size ≤ W2
set_option maxRecDepth 65536 in
set_option maxHeartbeats 40000000 in
theorem rm_stf (l : Launch) (Z : State) (a0 : Array Value) (hw : ∀ d ∈ tables_1, d.before a0 Z = true) (ws : List Jvm.Cond) (a1 P W : Addr) (kP : ClassId) (fa PP WW f0 f1 g0 g1 : Addr) (kPP kWW kf kg : ClassId) (N : Int32) (pl : List Int32) (wl : List Int64) (h0 : Heap) (n0 : Nat) (Z0 : n0 ≤ h0.size) (g_a1 : n0 ≤ a1) (E1 : Exa Z h0 a1 sM) (Fp : Fld Z h0 a1 sM "places" "[I" (.ref P)) (Fw : Fld Z h0 a1 sM "words" "[J" (.ref W)) (Fc : Fld Z h0 a1 sM "count" "I" (.int (0 : Int32))) (Ef : Exa Z h0 fa sW) (Ffp : Fld Z h0 fa sW "places" "[[I" (.ref PP)) (Ffw : Fld Z h0 fa sW "words" "[[J" (.ref WW)) (APP : Arv Z h0 PP kPP (.array .int) (2 : Int32) [(.ref f0), (.ref f1)] .null) (AWW : Arv Z h0 WW kWW (.array .long) (2 : Int32) [(.ref g0), (.ref g1)] .null) (Af : Arv Z h0 f1 kf .int N (pl.map Value.int) (.int (0 : Int32))) (Ag : Arv Z h0 g1 kg .long N (wl.map Value.long) (.long (0 : Int64))) (EEf : Exa Z h0 f1 "[I") (EEg : Exa Z h0 g1 "[J") (hN : N = Int32.ofNat pl.length) (hpl : pl.length ≤ 3) (hwl : wl.length = pl.length) (AP : Arv Z h0 P kP .int (0 : Int32) ([] : List Value) (.int (0 : Int32))) (hp0 : 0 < pl.length) (hnz : ∀ y ∈ wl, ¬ y = (0 : Int64)) :
    MetFree l (⟨"com/example/whittle/whittle/engine/WordSets$Meet", "start", "(Lcom/example/whittle/whittle/engine/WordSets;I)V"⟩ : MethodName) (head1 (Jvm.Cond.code (⟨"com/example/whittle/whittle/engine/WordSets$Meet", "start", "(Lcom/example/whittle/whittle/engine/WordSets;I)V"⟩ : MethodName) prog_23_method_2_code 6 none :: ws) ({ frames := 0, cells := 2, slots := 6, locals := 0 } : Room)) (fun a U => a = #[(.ref a1), (.ref fa), (.int (1 : Int32))] ∧ Z.Warmed39 U.vm ∧ U.heap = h0) (fun _ _ _ _ _ => True) (fun _ U o U' => ∃ v L, o = .returned v ∧ Q_stf Z a1 N pl wl h0 n0 v U'.heap L ∧ FrameEnd U o U' L ({ frames := 0, cells := 2, slots := 6, locals := 0 } : Room).cells ({ frames := 0, cells := 2, slots := 6, locals := 0 } : Room).slots) := by
  refine MetFree.of_bodySF (plainFor_of_name pn_com_example_whittle_whittle_engine_WordSets_Meet) hisR ?_
  intro p e s m args below meth c s₁ Bd hml0 hP hK
  obtain ⟨rfl, hZ, hh⟩ := hP
  have hx := Bd.exec
  have hby := Bd.bytes
  have hml : c.maxLocals = 6 := hml0
  have hown : s.vm.findClass "com/example/whittle/whittle/engine/WordSets$Meet" = some m.cls := findClass_of_methodNamed Bd.named
  have hnm := (name_of_methodNamed Bd.named Bd.method).1
  have X0 : Stand p l e ({ frames := 0, cells := 2, slots := 6, locals := 0 } : Room) s m #[(.ref a1), (.ref fa), (.int (1 : Int32))] below meth c s₁ [] 0 0 := Stand.of_body Bd
  have e0 : s₁.heap = h0 := by rw [← hh, Bd.state]; rfl
  have N0 := Fr.nil n0
  have pre0 : ∀ t, Sg p e below (s₁.setTop (mkF m 0 #[sR a1, sR fa, sI 1, sU, sU, sU] [])) t → Steps p.tables e below (s₁.setTop (entryFrame m #[(.ref a1), (.ref fa), (.int (1 : Int32))] 6)) t := fun t k => castTop (ef_stf m a1 fa (1 : Int32)) k
  have P0 : ∀ t, Sg p e below (s₁.setTop (mkF m 0 #[sR a1, sR fa, sI 1, sU, sU, sU] [])) t → Sg p e below (s₁.setTop (mkF m 0 #[sR a1, sR fa, sI 1, sU, sU, sU] [])) t := fun t k => k
  obtain ⟨B0, pre0, P0⟩ : ∃ B : State, (∀ t, Steps p.tables e below B t → Steps p.tables e below (s₁.setTop (entryFrame m #[(.ref a1), (.ref fa), (.int (1 : Int32))] 6)) t) ∧ Rg p e below (s₁.setTop (mkF m 0 #[sR a1, sR fa, sI 1, sU, sU, sU] [])) B := ⟨_, pre0, P0⟩
  rcases pl with _ | ⟨x0, _ | ⟨x1, _ | ⟨x2, _ | ⟨x3, pl⟩⟩⟩⟩
  · skip
    exact absurd hp0 (by simp)
  · skip
    obtain ⟨y0, rfl⟩ := own_len1 hwl
    have hN' : N = (1 : Int32) := hN
    subst hN'
    obtain ⟨T492, X492, e492, st492⟩ := getF X0 hx hZ hown (Or.inr (own_hw hw 47 rfl)) Via.refl e0 Ffp (g := (mkF m 1 #[sR a1, sR fa, sI 1, sU, sU, sU] [(.ref fa)])) rfl rfl (hb hby dp23_2_1)
    have P493 : Rg p e below (T492.setTop (mkF m 4 #[sR a1, sR fa, sI 1, sU, sU, sU] [(.ref PP)])) B0 := fun t k => P0 t (by
      refine XS.aloadN X0.here hx rfl (hb hby dp23_2_0) rfl rfl ?_
      show Sg p e below (s₁.setTop (mkF m 1 #[sR a1, sR fa, sI 1, sU, sU, sU] [(.ref fa)])) _
      exact st492 _ k)
    obtain ⟨cl494, Ar494, -, S494, N494, H494, -⟩ := id APP
    have hin494 : ¬ ((1 : Int32) < 0 ∨ cl494.slots.size ≤ ((1 : Int32)).toNatClampNeg) := inb_of S494 ⟨by decide, by decide⟩
    obtain ⟨T495, X495, e495, st495⟩ := getF X492 hx hZ hown (Or.inr (own_hw hw 48 rfl)) Via.refl e492 Ffw (g := (mkF m 8 #[sR a1, sR fa, sI 1, sR f1, sU, sU] [(.ref fa)])) rfl rfl (hb hby dp23_2_8)
    have P496 : Rg p e below (T495.setTop (mkF m 11 #[sR a1, sR fa, sI 1, sR f1, sU, sU] [(.ref WW)])) B0 := fun t k => P493 t (by
      refine XS.iloadN X492.here hx rfl (hb hby dp23_2_4) rfl ?_
      show Sg p e below (T492.setTop (mkF m 5 #[sR a1, sR fa, sI 1, sU, sU, sU] [(.int (1 : Int32)), (.ref PP)])) _
      refine X492.aaload hx (j := (1 : Int32)) (v := (.ref f1)) (by rw [e492]; exact Ar494.1) (State.isArrayOf_alike hZ.alike Ar494.2.1) rfl Ar494.2.2 hin494 (H494.at hin494 rfl) (g := (mkF m 5 #[sR a1, sR fa, sI 1, sU, sU, sU] [(.int (1 : Int32)), (.ref PP)])) rfl rfl (hb hby dp23_2_5) _ ?_
      show Sg p e below (T492.setTop (mkF m 6 #[sR a1, sR fa, sI 1, sU, sU, sU] [(.ref f1)])) _
      refine XS.astoreN X492.here hx rfl (hb hby dp23_2_6) rfl rfl (l' := #[sR a1, sR fa, sI 1, sR f1, sU, sU]) rfl ?_
      refine XS.aloadN X492.here hx rfl (hb hby dp23_2_7) rfl rfl ?_
      show Sg p e below (T492.setTop (mkF m 8 #[sR a1, sR fa, sI 1, sR f1, sU, sU] [(.ref fa)])) _
      exact st495 _ k)
    obtain ⟨cl497, Ar497, -, S497, N497, H497, -⟩ := id AWW
    have hin497 : ¬ ((1 : Int32) < 0 ∨ cl497.slots.size ≤ ((1 : Int32)).toNatClampNeg) := inb_of S497 ⟨by decide, by decide⟩
    obtain ⟨T498, X498, e498, st498⟩ := getF X495 hx hZ hown (host := "") (Or.inl (own_hw hw 38 rfl)) Via.refl e495 Fp (g := (mkF m 16 #[sR a1, sR fa, sI 1, sR f1, sR g1, sU] [(.ref a1)])) rfl rfl (hb hby dp23_2_16)
    have P499 : Rg p e below (T498.setTop (mkF m 19 #[sR a1, sR fa, sI 1, sR f1, sR g1, sU] [(.ref P)])) B0 := fun t k => P496 t (by
      refine XS.iloadN X495.here hx rfl (hb hby dp23_2_11) rfl ?_
      show Sg p e below (T495.setTop (mkF m 12 #[sR a1, sR fa, sI 1, sR f1, sU, sU] [(.int (1 : Int32)), (.ref WW)])) _
      refine X495.aaload hx (j := (1 : Int32)) (v := (.ref g1)) (by rw [e495]; exact Ar497.1) (State.isArrayOf_alike hZ.alike Ar497.2.1) rfl Ar497.2.2 hin497 (H497.at hin497 rfl) (g := (mkF m 12 #[sR a1, sR fa, sI 1, sR f1, sU, sU] [(.int (1 : Int32)), (.ref WW)])) rfl rfl (hb hby dp23_2_12) _ ?_
      show Sg p e below (T495.setTop (mkF m 13 #[sR a1, sR fa, sI 1, sR f1, sU, sU] [(.ref g1)])) _
      refine XS.astore X495.here hx rfl (hb hby dp23_2_13) rfl rfl (l' := #[sR a1, sR fa, sI 1, sR f1, sR g1, sU]) rfl ?_
      refine XS.aloadN X495.here hx rfl (hb hby dp23_2_15) rfl rfl ?_
      show Sg p e below (T495.setTop (mkF m 16 #[sR a1, sR fa, sI 1, sR f1, sR g1, sU] [(.ref a1)])) _
      exact st498 _ k)
    obtain ⟨cl500, Ar500, -, S500, N500, -, -⟩ := id AP
    obtain ⟨cl501, Ar501, -, S501, N501, -, -⟩ := id Af
    obtain ⟨cl502, Ar502, -, S502, N502, -, -⟩ := id Af
    obtain ⟨T503, h503, k503, X503, e503, E503, A503, B503, st503⟩ := newPE X498 hx hZ (own_hw hw 9 rfl) e498 (g := (mkF m 28 #[sR a1, sR fa, sI 1, sR f1, sR g1, sU] [(.int (1 : Int32)), (.ref a1)])) rfl (hb hby dp23_2_28) rfl (by decide) (cap := 1) (by decide) (by decide) (by decide) (by decide) (ad := "[I") (by decide)
    obtain ⟨b503, g503⟩ : ∃ z, z = h0.size := ⟨_, rfl⟩
    rw [← g503] at A503 B503 st503
    have g_b503 : n0 ≤ b503 := Nat.le_trans Z0 (Nat.le_of_eq g503.symm)
    have sz_b503 : h0.size ≤ b503 := Nat.le_trans (Keep.refl h0 [a1]).1 (Nat.le_of_eq g503.symm)
    have P504 : Rg p e below (T503.setTop (mkF m 30 #[sR a1, sR fa, sI 1, sR f1, sR g1, sU] [(.ref b503), (.ref a1)])) B0 := fun t k => P499 t (by
      refine X498.arraylength hx (by rw [e498]; exact Ar500.1) (State.isArrayOf_alike hZ.alike Ar500.2.1) (g := (mkF m 19 #[sR a1, sR fa, sI 1, sR f1, sR g1, sU] [(.ref P)])) rfl rfl (hb hby dp23_2_19) _ ?_
      rw [len_of S500 N500]
      show Sg p e below (T498.setTop (mkF m 20 #[sR a1, sR fa, sI 1, sR f1, sR g1, sU] [(.int (0 : Int32))])) _
      refine XS.aloadN X498.here hx rfl (hb hby dp23_2_20) rfl rfl ?_
      show Sg p e below (T498.setTop (mkF m 21 #[sR a1, sR fa, sI 1, sR f1, sR g1, sU] [(.ref f1), (.int (0 : Int32))])) _
      refine X498.arraylength hx (by rw [e498]; exact Ar501.1) (State.isArrayOf_alike hZ.alike Ar501.2.1) (g := (mkF m 21 #[sR a1, sR fa, sI 1, sR f1, sR g1, sU] [(.ref f1), (.int (0 : Int32))])) rfl rfl (hb hby dp23_2_21) _ ?_
      rw [len_of S501 N501]
      show Sg p e below (T498.setTop (mkF m 22 #[sR a1, sR fa, sI 1, sR f1, sR g1, sU] [(.int (1 : Int32)), (.int (0 : Int32))])) _
      refine XS.icmpNo X498.here hx rfl (hb hby dp23_2_22) rfl (tlt (show (0 : Int32) < (1 : Int32) from (by decide))).2.1 ?_
      refine XS.aloadN X498.here hx rfl (hb hby dp23_2_25) rfl rfl ?_
      refine XS.aloadN X498.here hx rfl (hb hby dp23_2_26) rfl rfl ?_
      show Sg p e below (T498.setTop (mkF m 27 #[sR a1, sR fa, sI 1, sR f1, sR g1, sU] [(.ref f1), (.ref a1)])) _
      refine X498.arraylength hx (by rw [e498]; exact Ar502.1) (State.isArrayOf_alike hZ.alike Ar502.2.1) (g := (mkF m 27 #[sR a1, sR fa, sI 1, sR f1, sR g1, sU] [(.ref f1), (.ref a1)])) rfl rfl (hb hby dp23_2_27) _ ?_
      rw [len_of S502 N502]
      show Sg p e below (T498.setTop (mkF m 28 #[sR a1, sR fa, sI 1, sR f1, sR g1, sU] [(.int (1 : Int32)), (.ref a1)])) _
      exact st503 _ k)
    have Z505 : n0 ≤ h503.size := Nat.le_trans Z0 E503.1
    have K506 : Keep h0 h503 [a1] := (Keep.refl h0 [a1]).ext E503
    have v507 : Arv Z h503 b503 k503 .int (1 : Int32) [(.int (0 : Int32))] (.int (0 : Int32)) := (Arv.new A503 (by decide)).pad (pad_rep [] (.int (0 : Int32)) 1)
    have f508 := (Fp.ext E503)
    have f509 := (E1.ext E503)
    obtain ⟨T510, h510, X510, e510, W510, st510⟩ := putF X503 hx hZ hown (host := "") (Or.inl (own_hw hw 38 rfl)) Via.refl e503 f508 f509 (Or.inl (own_hw hw 39 rfl)) (own_hw hw 32 rfl) (ty := (.array .int)) (by decide) rfl rfl (g := (mkF m 30 #[sR a1, sR fa, sI 1, sR f1, sR g1, sU] [(.ref b503), (.ref a1)])) rfl rfl (hb hby dp23_2_30)
    have P511 : Rg p e below (T510.setTop (mkF m 33 #[sR a1, sR fa, sI 1, sR f1, sR g1, sU] [])) B0 := fun t k => P504 t (by
      exact st510 _ k)
    have f512 := f508.same W510
    have N513 := Fr.snoc X510 N0 g_a1
    have Z514 : n0 ≤ h510.size := Nat.le_trans Z505 (Keep.of_wr W510).1
    have K515 : Keep h0 h510 [a1] := K506.wr W510 (Or.inl (List.mem_of_getElem? (i := 0) rfl))
    have f516 := ((Af.ext E503).other W510 (Exa.ne EEf E1 (by decide)))
    obtain ⟨cl517, Ar517, -, S517, N517, -, -⟩ := id f516
    obtain ⟨T518, h518, k518, X518, e518, E518, A518, B518, st518⟩ := newPE X510 hx hZ (own_hw hw 29 rfl) e510 (g := (mkF m 36 #[sR a1, sR fa, sI 1, sR f1, sR g1, sU] [(.int (1 : Int32)), (.ref a1)])) rfl (hb hby dp23_2_36) rfl (by decide) (cap := 1) (by decide) (by decide) (by decide) (by decide) (ad := "[J") (by decide)
    obtain ⟨b518, g518⟩ : ∃ z, z = h510.size := ⟨_, rfl⟩
    rw [← g518] at A518 B518 st518
    have g_b518 : n0 ≤ b518 := Nat.le_trans Z514 (Nat.le_of_eq g518.symm)
    have sz_b518 : h0.size ≤ b518 := Nat.le_trans K515.1 (Nat.le_of_eq g518.symm)
    have P519 : Rg p e below (T518.setTop (mkF m 38 #[sR a1, sR fa, sI 1, sR f1, sR g1, sU] [(.ref b518), (.ref a1)])) B0 := fun t k => P511 t (by
      refine XS.aloadN X510.here hx rfl (hb hby dp23_2_33) rfl rfl ?_
      refine XS.aloadN X510.here hx rfl (hb hby dp23_2_34) rfl rfl ?_
      show Sg p e below (T510.setTop (mkF m 35 #[sR a1, sR fa, sI 1, sR f1, sR g1, sU] [(.ref f1), (.ref a1)])) _
      refine X510.arraylength hx (by rw [e510]; exact Ar517.1) (State.isArrayOf_alike hZ.alike Ar517.2.1) (g := (mkF m 35 #[sR a1, sR fa, sI 1, sR f1, sR g1, sU] [(.ref f1), (.ref a1)])) rfl rfl (hb hby dp23_2_35) _ ?_
      rw [len_of S517 N517]
      show Sg p e below (T510.setTop (mkF m 36 #[sR a1, sR fa, sI 1, sR f1, sR g1, sU] [(.int (1 : Int32)), (.ref a1)])) _
      exact st518 _ k)
    have Z520 : n0 ≤ h518.size := Nat.le_trans Z514 E518.1
    have K521 : Keep h0 h518 [a1] := K515.ext E518
    have v522 : Arv Z h518 b518 k518 .long (1 : Int32) [(.long (0 : Int64))] (.long (0 : Int64)) := (Arv.new A518 (by decide)).pad (pad_rep [] (.long (0 : Int64)) 1)
    have f523 := (((Fw.ext E503).other W510 (Or.inr (slot_ne (Or.inl (own_hw hw 41 rfl)) (Or.inl (own_hw hw 39 rfl)) (by decide) (t := (.array .long)) (t' := (.array .int)) (by decide) (by decide)))).ext E518)
    have f524 := ((f509.wr W510).ext E518)
    obtain ⟨T525, h525, X525, e525, W525, st525⟩ := putF X518 hx hZ hown (host := "") (Or.inl (own_hw hw 40 rfl)) Via.refl e518 f523 f524 (Or.inl (own_hw hw 41 rfl)) (own_hw hw 32 rfl) (ty := (.array .long)) (by decide) rfl rfl (g := (mkF m 38 #[sR a1, sR fa, sI 1, sR f1, sR g1, sU] [(.ref b518), (.ref a1)])) rfl rfl (hb hby dp23_2_38)
    have P526 : Rg p e below (T525.setTop (mkF m 41 #[sR a1, sR fa, sI 1, sR f1, sR g1, sU] [])) B0 := fun t k => P519 t (by
      exact st525 _ k)
    have f527 := f523.same W525
    have N528 := Fr.snoc X525 N513 g_a1
    have Z529 : n0 ≤ h525.size := Nat.le_trans Z520 (Keep.of_wr W525).1
    have K530 : Keep h0 h525 [a1] := K521.wr W525 (Or.inl (List.mem_of_getElem? (i := 0) rfl))
    have f531 := ((((Fc.ext E503).other W510 (Or.inr (slot_ne (Or.inl (own_hw hw 50 rfl)) (Or.inl (own_hw hw 39 rfl)) (by decide) (t := .int) (t' := (.array .int)) (by decide) (by decide)))).ext E518).other W525 (Or.inr (slot_ne (Or.inl (own_hw hw 50 rfl)) (Or.inl (own_hw hw 41 rfl)) (by decide) (t := .int) (t' := (.array .long)) (by decide) (by decide))))
    have f532 := (f524.wr W525)
    obtain ⟨T533, h533, X533, e533, W533, st533⟩ := putF X525 hx hZ hown (host := "") (Or.inl (own_hw hw 49 rfl)) Via.refl e525 f531 f532 (Or.inl (own_hw hw 50 rfl)) (own_hw hw 32 rfl) (ty := .int) (by decide) rfl rfl (g := (mkF m 43 #[sR a1, sR fa, sI 1, sR f1, sR g1, sU] [(.int (0 : Int32)), (.ref a1)])) rfl rfl (hb hby dp23_2_43)
    have P534 : Rg p e below (T533.setTop (mkF m 46 #[sR a1, sR fa, sI 1, sR f1, sR g1, sU] [])) B0 := fun t k => P526 t (by
      refine XS.aloadN X525.here hx rfl (hb hby dp23_2_41) rfl rfl ?_
      refine XS.iconst X525.here hx rfl (hb hby dp23_2_42) ?_
      show Sg p e below (T525.setTop (mkF m 43 #[sR a1, sR fa, sI 1, sR f1, sR g1, sU] [(.int (0 : Int32)), (.ref a1)])) _
      exact st533 _ k)
    have f535 := f531.same W533
    have N536 := Fr.snoc X533 N528 g_a1
    have Z537 : n0 ≤ h533.size := Nat.le_trans Z529 (Keep.of_wr W533).1
    have K538 : Keep h0 h533 [a1] := K530.wr W533 (Or.inl (List.mem_of_getElem? (i := 0) rfl))
    have f539 := (f532.wr W533)
    have f540 := ((((B503.wr W510).ext E518).wr W525).wr W533)
    have f541 := ((B518.wr W525).wr W533)
    have f542 := (((((EEg.ext E503).wr W510).ext E518).wr W525).wr W533)
    have f543 := (((f512.ext E518).other W525 (Or.inr (slot_ne (Or.inl (own_hw hw 39 rfl)) (Or.inl (own_hw hw 41 rfl)) (by decide) (t := (.array .int)) (t' := (.array .long)) (by decide) (by decide)))).other W533 (Or.inr (slot_ne (Or.inl (own_hw hw 39 rfl)) (Or.inl (own_hw hw 50 rfl)) (by decide) (t := (.array .int)) (t' := .int) (by decide) (by decide))))
    have f544 := (f527.other W533 (Or.inr (slot_ne (Or.inl (own_hw hw 41 rfl)) (Or.inl (own_hw hw 50 rfl)) (by decide) (t := (.array .long)) (t' := .int) (by decide) (by decide))))
    have f545 := (((f516.ext E518).other W525 (Exa.ne EEf E1 (by decide))).other W533 (Exa.ne EEf E1 (by decide)))
    have f546 := (((((Ag.ext E503).other W510 (Exa.ne EEg E1 (by decide))).ext E518).other W525 (Exa.ne EEg E1 (by decide))).other W533 (Exa.ne EEg E1 (by decide)))
    have f547 := ((((v507.other W510 (Ne.symm (Nat.ne_of_lt (Nat.lt_of_lt_of_le Fc.lt (Nat.le_of_eq g503.symm))))).ext E518).other W525 (Ne.symm (Nat.ne_of_lt (Nat.lt_of_lt_of_le Fc.lt (Nat.le_of_eq g503.symm))))).other W533 (Ne.symm (Nat.ne_of_lt (Nat.lt_of_lt_of_le Fc.lt (Nat.le_of_eq g503.symm)))))
    have f548 := ((v522.other W525 (Ne.symm (Nat.ne_of_lt (Nat.lt_of_lt_of_le f512.lt (Nat.le_of_eq g518.symm))))).other W533 (Ne.symm (Nat.ne_of_lt (Nat.lt_of_lt_of_le f512.lt (Nat.le_of_eq g518.symm)))))
    have P549 : Rg p e below (T533.setTop (mkF m 49 #[sR a1, sR fa, sI 1, sR f1, sR g1, sI 0] [])) B0 := fun t k => P534 t (by
      refine XS.iconst X533.here hx rfl (hb hby dp23_2_46) ?_
      refine XS.istore X533.here hx rfl (hb hby dp23_2_47) rfl (l' := #[sR a1, sR fa, sI 1, sR f1, sR g1, sI 0]) rfl ?_
      show Sg p e below (T533.setTop (mkF m 49 #[sR a1, sR fa, sI 1, sR f1, sR g1, sI 0] [])) _
      exact k)
    obtain ⟨T550, h550, L550, X550, e550, Nq550, K550, u550_0, u550_1, u550_2, u550_3, u550_4, st550⟩ := pc_cpt a1 fa f1 g1 b503 b518 kf kg k503 k518 (1 : Int32) (1 : Int32) (1 : Int32) (0 : Int32) (0 : Int32) x0 y0 [(.int x0)] [(.long y0)] [(.int (0 : Int32))] [(.long (0 : Int64))] 0 X533 hx hZ hw hby hml hown e533 N536 Z537 (Nat.le_of_ble_eq_true rfl) (Nat.le_of_ble_eq_true rfl) (by decide) (by decide) g_a1 g_b503 g_b518 f539 f540 f541 f542 f543 f544 f535 f545 f546 f547 f548 (by decide) ⟨by decide, by decide⟩ rfl rfl (hnz y0 (by simp)) ⟨by decide, by decide⟩ rfl (Nat.le_of_ble_eq_true rfl) (Nat.le_of_ble_eq_true rfl)
    have P551 : Rg p e below (T550.setTop (mkF m 49 #[sR a1, sR fa, sI 1, sR f1, sR g1, sI 1] [])) B0 := fun t k => P549 t (by
      exact st550 _ k)
    have Z552 : n0 ≤ h550.size := Nat.le_trans Z537 K550.1
    have K553 : Keep h0 h550 [a1] := K538.trans K550 ((allS (Or.inl (List.mem_of_getElem? (i := 0) rfl)) (allS (Or.inr sz_b503) (allS (Or.inr sz_b518) all0))))
    have AP550 : Arv Z h550 b503 k503 .int (1 : Int32) [(.int x0)] (.int (0 : Int32)) := u550_3
    have AW550 : Arv Z h550 b518 k518 .long (1 : Int32) [(.long y0)] (.long (0 : Int64)) := u550_4
    have f554 := (f545.keep K550 (ninS (Exa.ne EEf E1 (by decide)) (ninS (Nat.ne_of_lt (Nat.lt_of_lt_of_le Af.lt (Nat.le_of_eq g503.symm))) (ninS (Nat.ne_of_lt (Nat.lt_of_lt_of_le f516.lt (Nat.le_of_eq g518.symm))) nin0))))
    obtain ⟨cl555, Ar555, -, S555, N555, -, -⟩ := id f554
    have f556 := (f539.keep K550)
    have f557 := (f540.keep K550)
    have f558 := (f541.keep K550)
    obtain ⟨fs559, hr559, hrun559, hended559, hW559, hsame559⟩ := X550.leave (v := none) (fun _ => rfl)
    refine ⟨_, _, pre0 _ (P551 _ ?_), hrun559, hended559, _, _, rfl, ?_, ⟨⟨_, rfl⟩, hW559, hsame559.mono (Nat.le_of_ble_eq_true rfl) (Nat.le_of_ble_eq_true rfl)⟩⟩
    · show Sg p e below (T550.setTop (mkF m 49 #[sR a1, sR fa, sI 1, sR f1, sR g1, sI 1] [])) _
      refine XS.iload X550.here hx rfl (hb hby dp23_2_49) rfl ?_
      refine XS.aloadN X550.here hx rfl (hb hby dp23_2_51) rfl rfl ?_
      show Sg p e below (T550.setTop (mkF m 52 #[sR a1, sR fa, sI 1, sR f1, sR g1, sI 1] [(.ref f1), (.int (1 : Int32))])) _
      refine X550.arraylength hx (by rw [e550]; exact Ar555.1) (State.isArrayOf_alike hZ.alike Ar555.2.1) (g := (mkF m 52 #[sR a1, sR fa, sI 1, sR f1, sR g1, sI 1] [(.ref f1), (.int (1 : Int32))])) rfl rfl (hb hby dp23_2_52) _ ?_
      rw [len_of S555 N555]
      show Sg p e below (T550.setTop (mkF m 53 #[sR a1, sR fa, sI 1, sR f1, sR g1, sI 1] [(.int (1 : Int32)), (.int (1 : Int32))])) _
      refine XS.icmpYes X550.here hx rfl (pc0 := 53) (pc' := 106) rfl (hb hby dp23_2_53) rfl (flt (show ¬ ((1 : Int32) < (1 : Int32)) from (by decide))).2.1 (by decide) (by decide) ?_
      show Sg p e below (T550.setTop (mkF m 106 #[sR a1, sR fa, sI 1, sR f1, sR g1, sI 1] [])) _
      exact X550.returnOut hx Bd.returns (hb hby dp23_2_106) hr559
    · show Q_stf Z a1 (1 : Int32) [x0] [y0] h0 n0 _ T550.heap _
      rw [e550]
      exact ⟨rfl, Nq550, K553, f556, u550_2, b503, b518, _, _, u550_0, u550_1, AP550, AW550, f557, f558, sz_b503, sz_b518⟩
  · skip
    obtain ⟨y0, y1, rfl⟩ := own_len2 hwl
    have hN' : N = (2 : Int32) := hN
    subst hN'
    obtain ⟨T560, X560, e560, st560⟩ := getF X0 hx hZ hown (Or.inr (own_hw hw 47 rfl)) Via.refl e0 Ffp (g := (mkF m 1 #[sR a1, sR fa, sI 1, sU, sU, sU] [(.ref fa)])) rfl rfl (hb hby dp23_2_1)
    have P561 : Rg p e below (T560.setTop (mkF m 4 #[sR a1, sR fa, sI 1, sU, sU, sU] [(.ref PP)])) B0 := fun t k => P0 t (by
      refine XS.aloadN X0.here hx rfl (hb hby dp23_2_0) rfl rfl ?_
      show Sg p e below (s₁.setTop (mkF m 1 #[sR a1, sR fa, sI 1, sU, sU, sU] [(.ref fa)])) _
      exact st560 _ k)
    obtain ⟨cl562, Ar562, -, S562, N562, H562, -⟩ := id APP
    have hin562 : ¬ ((1 : Int32) < 0 ∨ cl562.slots.size ≤ ((1 : Int32)).toNatClampNeg) := inb_of S562 ⟨by decide, by decide⟩
    obtain ⟨T563, X563, e563, st563⟩ := getF X560 hx hZ hown (Or.inr (own_hw hw 48 rfl)) Via.refl e560 Ffw (g := (mkF m 8 #[sR a1, sR fa, sI 1, sR f1, sU, sU] [(.ref fa)])) rfl rfl (hb hby dp23_2_8)
    have P564 : Rg p e below (T563.setTop (mkF m 11 #[sR a1, sR fa, sI 1, sR f1, sU, sU] [(.ref WW)])) B0 := fun t k => P561 t (by
      refine XS.iloadN X560.here hx rfl (hb hby dp23_2_4) rfl ?_
      show Sg p e below (T560.setTop (mkF m 5 #[sR a1, sR fa, sI 1, sU, sU, sU] [(.int (1 : Int32)), (.ref PP)])) _
      refine X560.aaload hx (j := (1 : Int32)) (v := (.ref f1)) (by rw [e560]; exact Ar562.1) (State.isArrayOf_alike hZ.alike Ar562.2.1) rfl Ar562.2.2 hin562 (H562.at hin562 rfl) (g := (mkF m 5 #[sR a1, sR fa, sI 1, sU, sU, sU] [(.int (1 : Int32)), (.ref PP)])) rfl rfl (hb hby dp23_2_5) _ ?_
      show Sg p e below (T560.setTop (mkF m 6 #[sR a1, sR fa, sI 1, sU, sU, sU] [(.ref f1)])) _
      refine XS.astoreN X560.here hx rfl (hb hby dp23_2_6) rfl rfl (l' := #[sR a1, sR fa, sI 1, sR f1, sU, sU]) rfl ?_
      refine XS.aloadN X560.here hx rfl (hb hby dp23_2_7) rfl rfl ?_
      show Sg p e below (T560.setTop (mkF m 8 #[sR a1, sR fa, sI 1, sR f1, sU, sU] [(.ref fa)])) _
      exact st563 _ k)
    obtain ⟨cl565, Ar565, -, S565, N565, H565, -⟩ := id AWW
    have hin565 : ¬ ((1 : Int32) < 0 ∨ cl565.slots.size ≤ ((1 : Int32)).toNatClampNeg) := inb_of S565 ⟨by decide, by decide⟩
    obtain ⟨T566, X566, e566, st566⟩ := getF X563 hx hZ hown (host := "") (Or.inl (own_hw hw 38 rfl)) Via.refl e563 Fp (g := (mkF m 16 #[sR a1, sR fa, sI 1, sR f1, sR g1, sU] [(.ref a1)])) rfl rfl (hb hby dp23_2_16)
    have P567 : Rg p e below (T566.setTop (mkF m 19 #[sR a1, sR fa, sI 1, sR f1, sR g1, sU] [(.ref P)])) B0 := fun t k => P564 t (by
      refine XS.iloadN X563.here hx rfl (hb hby dp23_2_11) rfl ?_
      show Sg p e below (T563.setTop (mkF m 12 #[sR a1, sR fa, sI 1, sR f1, sU, sU] [(.int (1 : Int32)), (.ref WW)])) _
      refine X563.aaload hx (j := (1 : Int32)) (v := (.ref g1)) (by rw [e563]; exact Ar565.1) (State.isArrayOf_alike hZ.alike Ar565.2.1) rfl Ar565.2.2 hin565 (H565.at hin565 rfl) (g := (mkF m 12 #[sR a1, sR fa, sI 1, sR f1, sU, sU] [(.int (1 : Int32)), (.ref WW)])) rfl rfl (hb hby dp23_2_12) _ ?_
      show Sg p e below (T563.setTop (mkF m 13 #[sR a1, sR fa, sI 1, sR f1, sU, sU] [(.ref g1)])) _
      refine XS.astore X563.here hx rfl (hb hby dp23_2_13) rfl rfl (l' := #[sR a1, sR fa, sI 1, sR f1, sR g1, sU]) rfl ?_
      refine XS.aloadN X563.here hx rfl (hb hby dp23_2_15) rfl rfl ?_
      show Sg p e below (T563.setTop (mkF m 16 #[sR a1, sR fa, sI 1, sR f1, sR g1, sU] [(.ref a1)])) _
      exact st566 _ k)
    obtain ⟨cl568, Ar568, -, S568, N568, -, -⟩ := id AP
    obtain ⟨cl569, Ar569, -, S569, N569, -, -⟩ := id Af
    obtain ⟨cl570, Ar570, -, S570, N570, -, -⟩ := id Af
    obtain ⟨T571, h571, k571, X571, e571, E571, A571, B571, st571⟩ := newPE X566 hx hZ (own_hw hw 9 rfl) e566 (g := (mkF m 28 #[sR a1, sR fa, sI 1, sR f1, sR g1, sU] [(.int (2 : Int32)), (.ref a1)])) rfl (hb hby dp23_2_28) rfl (by decide) (cap := 2) (by decide) (by decide) (by decide) (by decide) (ad := "[I") (by decide)
    obtain ⟨b571, g571⟩ : ∃ z, z = h0.size := ⟨_, rfl⟩
    rw [← g571] at A571 B571 st571
    have g_b571 : n0 ≤ b571 := Nat.le_trans Z0 (Nat.le_of_eq g571.symm)
    have sz_b571 : h0.size ≤ b571 := Nat.le_trans (Keep.refl h0 [a1]).1 (Nat.le_of_eq g571.symm)
    have P572 : Rg p e below (T571.setTop (mkF m 30 #[sR a1, sR fa, sI 1, sR f1, sR g1, sU] [(.ref b571), (.ref a1)])) B0 := fun t k => P567 t (by
      refine X566.arraylength hx (by rw [e566]; exact Ar568.1) (State.isArrayOf_alike hZ.alike Ar568.2.1) (g := (mkF m 19 #[sR a1, sR fa, sI 1, sR f1, sR g1, sU] [(.ref P)])) rfl rfl (hb hby dp23_2_19) _ ?_
      rw [len_of S568 N568]
      show Sg p e below (T566.setTop (mkF m 20 #[sR a1, sR fa, sI 1, sR f1, sR g1, sU] [(.int (0 : Int32))])) _
      refine XS.aloadN X566.here hx rfl (hb hby dp23_2_20) rfl rfl ?_
      show Sg p e below (T566.setTop (mkF m 21 #[sR a1, sR fa, sI 1, sR f1, sR g1, sU] [(.ref f1), (.int (0 : Int32))])) _
      refine X566.arraylength hx (by rw [e566]; exact Ar569.1) (State.isArrayOf_alike hZ.alike Ar569.2.1) (g := (mkF m 21 #[sR a1, sR fa, sI 1, sR f1, sR g1, sU] [(.ref f1), (.int (0 : Int32))])) rfl rfl (hb hby dp23_2_21) _ ?_
      rw [len_of S569 N569]
      show Sg p e below (T566.setTop (mkF m 22 #[sR a1, sR fa, sI 1, sR f1, sR g1, sU] [(.int (2 : Int32)), (.int (0 : Int32))])) _
      refine XS.icmpNo X566.here hx rfl (hb hby dp23_2_22) rfl (tlt (show (0 : Int32) < (2 : Int32) from (by decide))).2.1 ?_
      refine XS.aloadN X566.here hx rfl (hb hby dp23_2_25) rfl rfl ?_
      refine XS.aloadN X566.here hx rfl (hb hby dp23_2_26) rfl rfl ?_
      show Sg p e below (T566.setTop (mkF m 27 #[sR a1, sR fa, sI 1, sR f1, sR g1, sU] [(.ref f1), (.ref a1)])) _
      refine X566.arraylength hx (by rw [e566]; exact Ar570.1) (State.isArrayOf_alike hZ.alike Ar570.2.1) (g := (mkF m 27 #[sR a1, sR fa, sI 1, sR f1, sR g1, sU] [(.ref f1), (.ref a1)])) rfl rfl (hb hby dp23_2_27) _ ?_
      rw [len_of S570 N570]
      show Sg p e below (T566.setTop (mkF m 28 #[sR a1, sR fa, sI 1, sR f1, sR g1, sU] [(.int (2 : Int32)), (.ref a1)])) _
      exact st571 _ k)
    have Z573 : n0 ≤ h571.size := Nat.le_trans Z0 E571.1
    have K574 : Keep h0 h571 [a1] := (Keep.refl h0 [a1]).ext E571
    have v575 : Arv Z h571 b571 k571 .int (2 : Int32) [(.int (0 : Int32)), (.int (0 : Int32))] (.int (0 : Int32)) := (Arv.new A571 (by decide)).pad (pad_rep [] (.int (0 : Int32)) 2)
    have f576 := (Fp.ext E571)
    have f577 := (E1.ext E571)
    obtain ⟨T578, h578, X578, e578, W578, st578⟩ := putF X571 hx hZ hown (host := "") (Or.inl (own_hw hw 38 rfl)) Via.refl e571 f576 f577 (Or.inl (own_hw hw 39 rfl)) (own_hw hw 32 rfl) (ty := (.array .int)) (by decide) rfl rfl (g := (mkF m 30 #[sR a1, sR fa, sI 1, sR f1, sR g1, sU] [(.ref b571), (.ref a1)])) rfl rfl (hb hby dp23_2_30)
    have P579 : Rg p e below (T578.setTop (mkF m 33 #[sR a1, sR fa, sI 1, sR f1, sR g1, sU] [])) B0 := fun t k => P572 t (by
      exact st578 _ k)
    have f580 := f576.same W578
    have N581 := Fr.snoc X578 N0 g_a1
    have Z582 : n0 ≤ h578.size := Nat.le_trans Z573 (Keep.of_wr W578).1
    have K583 : Keep h0 h578 [a1] := K574.wr W578 (Or.inl (List.mem_of_getElem? (i := 0) rfl))
    have f584 := ((Af.ext E571).other W578 (Exa.ne EEf E1 (by decide)))
    obtain ⟨cl585, Ar585, -, S585, N585, -, -⟩ := id f584
    obtain ⟨T586, h586, k586, X586, e586, E586, A586, B586, st586⟩ := newPE X578 hx hZ (own_hw hw 29 rfl) e578 (g := (mkF m 36 #[sR a1, sR fa, sI 1, sR f1, sR g1, sU] [(.int (2 : Int32)), (.ref a1)])) rfl (hb hby dp23_2_36) rfl (by decide) (cap := 2) (by decide) (by decide) (by decide) (by decide) (ad := "[J") (by decide)
    obtain ⟨b586, g586⟩ : ∃ z, z = h578.size := ⟨_, rfl⟩
    rw [← g586] at A586 B586 st586
    have g_b586 : n0 ≤ b586 := Nat.le_trans Z582 (Nat.le_of_eq g586.symm)
    have sz_b586 : h0.size ≤ b586 := Nat.le_trans K583.1 (Nat.le_of_eq g586.symm)
    have P587 : Rg p e below (T586.setTop (mkF m 38 #[sR a1, sR fa, sI 1, sR f1, sR g1, sU] [(.ref b586), (.ref a1)])) B0 := fun t k => P579 t (by
      refine XS.aloadN X578.here hx rfl (hb hby dp23_2_33) rfl rfl ?_
      refine XS.aloadN X578.here hx rfl (hb hby dp23_2_34) rfl rfl ?_
      show Sg p e below (T578.setTop (mkF m 35 #[sR a1, sR fa, sI 1, sR f1, sR g1, sU] [(.ref f1), (.ref a1)])) _
      refine X578.arraylength hx (by rw [e578]; exact Ar585.1) (State.isArrayOf_alike hZ.alike Ar585.2.1) (g := (mkF m 35 #[sR a1, sR fa, sI 1, sR f1, sR g1, sU] [(.ref f1), (.ref a1)])) rfl rfl (hb hby dp23_2_35) _ ?_
      rw [len_of S585 N585]
      show Sg p e below (T578.setTop (mkF m 36 #[sR a1, sR fa, sI 1, sR f1, sR g1, sU] [(.int (2 : Int32)), (.ref a1)])) _
      exact st586 _ k)
    have Z588 : n0 ≤ h586.size := Nat.le_trans Z582 E586.1
    have K589 : Keep h0 h586 [a1] := K583.ext E586
    have v590 : Arv Z h586 b586 k586 .long (2 : Int32) [(.long (0 : Int64)), (.long (0 : Int64))] (.long (0 : Int64)) := (Arv.new A586 (by decide)).pad (pad_rep [] (.long (0 : Int64)) 2)
    have f591 := (((Fw.ext E571).other W578 (Or.inr (slot_ne (Or.inl (own_hw hw 41 rfl)) (Or.inl (own_hw hw 39 rfl)) (by decide) (t := (.array .long)) (t' := (.array .int)) (by decide) (by decide)))).ext E586)
    have f592 := ((f577.wr W578).ext E586)
    obtain ⟨T593, h593, X593, e593, W593, st593⟩ := putF X586 hx hZ hown (host := "") (Or.inl (own_hw hw 40 rfl)) Via.refl e586 f591 f592 (Or.inl (own_hw hw 41 rfl)) (own_hw hw 32 rfl) (ty := (.array .long)) (by decide) rfl rfl (g := (mkF m 38 #[sR a1, sR fa, sI 1, sR f1, sR g1, sU] [(.ref b586), (.ref a1)])) rfl rfl (hb hby dp23_2_38)
    have P594 : Rg p e below (T593.setTop (mkF m 41 #[sR a1, sR fa, sI 1, sR f1, sR g1, sU] [])) B0 := fun t k => P587 t (by
      exact st593 _ k)
    have f595 := f591.same W593
    have N596 := Fr.snoc X593 N581 g_a1
    have Z597 : n0 ≤ h593.size := Nat.le_trans Z588 (Keep.of_wr W593).1
    have K598 : Keep h0 h593 [a1] := K589.wr W593 (Or.inl (List.mem_of_getElem? (i := 0) rfl))
    have f599 := ((((Fc.ext E571).other W578 (Or.inr (slot_ne (Or.inl (own_hw hw 50 rfl)) (Or.inl (own_hw hw 39 rfl)) (by decide) (t := .int) (t' := (.array .int)) (by decide) (by decide)))).ext E586).other W593 (Or.inr (slot_ne (Or.inl (own_hw hw 50 rfl)) (Or.inl (own_hw hw 41 rfl)) (by decide) (t := .int) (t' := (.array .long)) (by decide) (by decide))))
    have f600 := (f592.wr W593)
    obtain ⟨T601, h601, X601, e601, W601, st601⟩ := putF X593 hx hZ hown (host := "") (Or.inl (own_hw hw 49 rfl)) Via.refl e593 f599 f600 (Or.inl (own_hw hw 50 rfl)) (own_hw hw 32 rfl) (ty := .int) (by decide) rfl rfl (g := (mkF m 43 #[sR a1, sR fa, sI 1, sR f1, sR g1, sU] [(.int (0 : Int32)), (.ref a1)])) rfl rfl (hb hby dp23_2_43)
    have P602 : Rg p e below (T601.setTop (mkF m 46 #[sR a1, sR fa, sI 1, sR f1, sR g1, sU] [])) B0 := fun t k => P594 t (by
      refine XS.aloadN X593.here hx rfl (hb hby dp23_2_41) rfl rfl ?_
      refine XS.iconst X593.here hx rfl (hb hby dp23_2_42) ?_
      show Sg p e below (T593.setTop (mkF m 43 #[sR a1, sR fa, sI 1, sR f1, sR g1, sU] [(.int (0 : Int32)), (.ref a1)])) _
      exact st601 _ k)
    have f603 := f599.same W601
    have N604 := Fr.snoc X601 N596 g_a1
    have Z605 : n0 ≤ h601.size := Nat.le_trans Z597 (Keep.of_wr W601).1
    have K606 : Keep h0 h601 [a1] := K598.wr W601 (Or.inl (List.mem_of_getElem? (i := 0) rfl))
    have f607 := (f600.wr W601)
    have f608 := ((((B571.wr W578).ext E586).wr W593).wr W601)
    have f609 := ((B586.wr W593).wr W601)
    have f610 := (((((EEg.ext E571).wr W578).ext E586).wr W593).wr W601)
    have f611 := (((f580.ext E586).other W593 (Or.inr (slot_ne (Or.inl (own_hw hw 39 rfl)) (Or.inl (own_hw hw 41 rfl)) (by decide) (t := (.array .int)) (t' := (.array .long)) (by decide) (by decide)))).other W601 (Or.inr (slot_ne (Or.inl (own_hw hw 39 rfl)) (Or.inl (own_hw hw 50 rfl)) (by decide) (t := (.array .int)) (t' := .int) (by decide) (by decide))))
    have f612 := (f595.other W601 (Or.inr (slot_ne (Or.inl (own_hw hw 41 rfl)) (Or.inl (own_hw hw 50 rfl)) (by decide) (t := (.array .long)) (t' := .int) (by decide) (by decide))))
    have f613 := (((f584.ext E586).other W593 (Exa.ne EEf E1 (by decide))).other W601 (Exa.ne EEf E1 (by decide)))
    have f614 := (((((Ag.ext E571).other W578 (Exa.ne EEg E1 (by decide))).ext E586).other W593 (Exa.ne EEg E1 (by decide))).other W601 (Exa.ne EEg E1 (by decide)))
    have f615 := ((((v575.other W578 (Ne.symm (Nat.ne_of_lt (Nat.lt_of_lt_of_le Fc.lt (Nat.le_of_eq g571.symm))))).ext E586).other W593 (Ne.symm (Nat.ne_of_lt (Nat.lt_of_lt_of_le Fc.lt (Nat.le_of_eq g571.symm))))).other W601 (Ne.symm (Nat.ne_of_lt (Nat.lt_of_lt_of_le Fc.lt (Nat.le_of_eq g571.symm)))))
    have f616 := ((v590.other W593 (Ne.symm (Nat.ne_of_lt (Nat.lt_of_lt_of_le f580.lt (Nat.le_of_eq g586.symm))))).other W601 (Ne.symm (Nat.ne_of_lt (Nat.lt_of_lt_of_le f580.lt (Nat.le_of_eq g586.symm)))))
    have P617 : Rg p e below (T601.setTop (mkF m 49 #[sR a1, sR fa, sI 1, sR f1, sR g1, sI 0] [])) B0 := fun t k => P602 t (by
      refine XS.iconst X601.here hx rfl (hb hby dp23_2_46) ?_
      refine XS.istore X601.here hx rfl (hb hby dp23_2_47) rfl (l' := #[sR a1, sR fa, sI 1, sR f1, sR g1, sI 0]) rfl ?_
      show Sg p e below (T601.setTop (mkF m 49 #[sR a1, sR fa, sI 1, sR f1, sR g1, sI 0] [])) _
      exact k)
    obtain ⟨T618, h618, L618, X618, e618, Nq618, K618, u618_0, u618_1, u618_2, u618_3, u618_4, st618⟩ := pc_cpt a1 fa f1 g1 b571 b586 kf kg k571 k586 (1 : Int32) (2 : Int32) (2 : Int32) (0 : Int32) (0 : Int32) x0 y0 [(.int x0), (.int x1)] [(.long y0), (.long y1)] [(.int (0 : Int32)), (.int (0 : Int32))] [(.long (0 : Int64)), (.long (0 : Int64))] 0 X601 hx hZ hw hby hml hown e601 N604 Z605 (Nat.le_of_ble_eq_true rfl) (Nat.le_of_ble_eq_true rfl) (by decide) (by decide) g_a1 g_b571 g_b586 f607 f608 f609 f610 f611 f612 f603 f613 f614 f615 f616 (by decide) ⟨by decide, by decide⟩ rfl rfl (hnz y0 (by simp)) ⟨by decide, by decide⟩ rfl (Nat.le_of_ble_eq_true rfl) (Nat.le_of_ble_eq_true rfl)
    have P619 : Rg p e below (T618.setTop (mkF m 49 #[sR a1, sR fa, sI 1, sR f1, sR g1, sI 1] [])) B0 := fun t k => P617 t (by
      exact st618 _ k)
    have Z620 : n0 ≤ h618.size := Nat.le_trans Z605 K618.1
    have K621 : Keep h0 h618 [a1] := K606.trans K618 ((allS (Or.inl (List.mem_of_getElem? (i := 0) rfl)) (allS (Or.inr sz_b571) (allS (Or.inr sz_b586) all0))))
    have AP618 : Arv Z h618 b571 k571 .int (2 : Int32) [(.int x0), (.int (0 : Int32))] (.int (0 : Int32)) := u618_3
    have AW618 : Arv Z h618 b586 k586 .long (2 : Int32) [(.long y0), (.long (0 : Int64))] (.long (0 : Int64)) := u618_4
    have f622 := (f607.keep K618)
    have f623 := (f608.keep K618)
    have f624 := (f609.keep K618)
    have f625 := (f610.keep K618)
    have f626 := (f613.keep K618 (ninS (Exa.ne EEf E1 (by decide)) (ninS (Nat.ne_of_lt (Nat.lt_of_lt_of_le Af.lt (Nat.le_of_eq g571.symm))) (ninS (Nat.ne_of_lt (Nat.lt_of_lt_of_le f584.lt (Nat.le_of_eq g586.symm))) nin0))))
    have f627 := (f614.keep K618 (ninS (Exa.ne EEg E1 (by decide)) (ninS (Nat.ne_of_lt (Nat.lt_of_lt_of_le Ag.lt (Nat.le_of_eq g571.symm))) (ninS (Nat.ne_of_lt (Nat.lt_of_lt_of_le ((Ag.ext E571).other W578 (Exa.ne EEg E1 (by decide))).lt (Nat.le_of_eq g586.symm))) nin0))))
    obtain ⟨T628, h628, L628, X628, e628, Nq628, K628, u628_0, u628_1, u628_2, u628_3, u628_4, st628⟩ := pc_cpt a1 fa f1 g1 b571 b586 kf kg k571 k586 (1 : Int32) (2 : Int32) (2 : Int32) (1 : Int32) (1 : Int32) x1 y1 [(.int x0), (.int x1)] [(.long y0), (.long y1)] [(.int x0), (.int (0 : Int32))] [(.long y0), (.long (0 : Int64))] 1 X618 hx hZ hw hby hml hown e618 Nq618 Z620 (Nat.le_of_ble_eq_true rfl) (Nat.le_of_ble_eq_true rfl) (by decide) (by decide) g_a1 g_b571 g_b586 f622 f623 f624 f625 u618_0 u618_1 u618_2 f626 f627 AP618 AW618 (by decide) ⟨by decide, by decide⟩ rfl rfl (hnz y1 (by simp)) ⟨by decide, by decide⟩ rfl (Nat.le_of_ble_eq_true rfl) (Nat.le_of_ble_eq_true rfl)
    have P629 : Rg p e below (T628.setTop (mkF m 49 #[sR a1, sR fa, sI 1, sR f1, sR g1, sI 2] [])) B0 := fun t k => P619 t (by
      exact st628 _ k)
    have Z630 : n0 ≤ h628.size := Nat.le_trans Z620 K628.1
    have K631 : Keep h0 h628 [a1] := K621.trans K628 ((allS (Or.inl (List.mem_of_getElem? (i := 0) rfl)) (allS (Or.inr sz_b571) (allS (Or.inr sz_b586) all0))))
    have AP628 : Arv Z h628 b571 k571 .int (2 : Int32) [(.int x0), (.int x1)] (.int (0 : Int32)) := u628_3
    have AW628 : Arv Z h628 b586 k586 .long (2 : Int32) [(.long y0), (.long y1)] (.long (0 : Int64)) := u628_4
    have f632 := (f626.keep K628 (ninS (Exa.ne EEf E1 (by decide)) (ninS (Nat.ne_of_lt (Nat.lt_of_lt_of_le Af.lt (Nat.le_of_eq g571.symm))) (ninS (Nat.ne_of_lt (Nat.lt_of_lt_of_le f584.lt (Nat.le_of_eq g586.symm))) nin0))))
    obtain ⟨cl633, Ar633, -, S633, N633, -, -⟩ := id f632
    have f634 := (f622.keep K628)
    have f635 := (f623.keep K628)
    have f636 := (f624.keep K628)
    obtain ⟨fs637, hr637, hrun637, hended637, hW637, hsame637⟩ := X628.leave (v := none) (fun _ => rfl)
    refine ⟨_, _, pre0 _ (P629 _ ?_), hrun637, hended637, _, _, rfl, ?_, ⟨⟨_, rfl⟩, hW637, hsame637.mono (Nat.le_of_ble_eq_true rfl) (Nat.le_of_ble_eq_true rfl)⟩⟩
    · show Sg p e below (T628.setTop (mkF m 49 #[sR a1, sR fa, sI 1, sR f1, sR g1, sI 2] [])) _
      refine XS.iload X628.here hx rfl (hb hby dp23_2_49) rfl ?_
      refine XS.aloadN X628.here hx rfl (hb hby dp23_2_51) rfl rfl ?_
      show Sg p e below (T628.setTop (mkF m 52 #[sR a1, sR fa, sI 1, sR f1, sR g1, sI 2] [(.ref f1), (.int (2 : Int32))])) _
      refine X628.arraylength hx (by rw [e628]; exact Ar633.1) (State.isArrayOf_alike hZ.alike Ar633.2.1) (g := (mkF m 52 #[sR a1, sR fa, sI 1, sR f1, sR g1, sI 2] [(.ref f1), (.int (2 : Int32))])) rfl rfl (hb hby dp23_2_52) _ ?_
      rw [len_of S633 N633]
      show Sg p e below (T628.setTop (mkF m 53 #[sR a1, sR fa, sI 1, sR f1, sR g1, sI 2] [(.int (2 : Int32)), (.int (2 : Int32))])) _
      refine XS.icmpYes X628.here hx rfl (pc0 := 53) (pc' := 106) rfl (hb hby dp23_2_53) rfl (flt (show ¬ ((2 : Int32) < (2 : Int32)) from (by decide))).2.1 (by decide) (by decide) ?_
      show Sg p e below (T628.setTop (mkF m 106 #[sR a1, sR fa, sI 1, sR f1, sR g1, sI 2] [])) _
      exact X628.returnOut hx Bd.returns (hb hby dp23_2_106) hr637
    · show Q_stf Z a1 (2 : Int32) [x0, x1] [y0, y1] h0 n0 _ T628.heap _
      rw [e628]
      exact ⟨rfl, Nq628, K631, f634, u628_2, b571, b586, _, _, u628_0, u628_1, AP628, AW628, f635, f636, sz_b571, sz_b586⟩
  · skip
    obtain ⟨y0, y1, y2, rfl⟩ := own_len3 hwl
    have hN' : N = (3 : Int32) := hN
    subst hN'
    obtain ⟨T638, X638, e638, st638⟩ := getF X0 hx hZ hown (Or.inr (own_hw hw 47 rfl)) Via.refl e0 Ffp (g := (mkF m 1 #[sR a1, sR fa, sI 1, sU, sU, sU] [(.ref fa)])) rfl rfl (hb hby dp23_2_1)
    have P639 : Rg p e below (T638.setTop (mkF m 4 #[sR a1, sR fa, sI 1, sU, sU, sU] [(.ref PP)])) B0 := fun t k => P0 t (by
      refine XS.aloadN X0.here hx rfl (hb hby dp23_2_0) rfl rfl ?_
      show Sg p e below (s₁.setTop (mkF m 1 #[sR a1, sR fa, sI 1, sU, sU, sU] [(.ref fa)])) _
      exact st638 _ k)
    obtain ⟨cl640, Ar640, -, S640, N640, H640, -⟩ := id APP
    have hin640 : ¬ ((1 : Int32) < 0 ∨ cl640.slots.size ≤ ((1 : Int32)).toNatClampNeg) := inb_of S640 ⟨by decide, by decide⟩
    obtain ⟨T641, X641, e641, st641⟩ := getF X638 hx hZ hown (Or.inr (own_hw hw 48 rfl)) Via.refl e638 Ffw (g := (mkF m 8 #[sR a1, sR fa, sI 1, sR f1, sU, sU] [(.ref fa)])) rfl rfl (hb hby dp23_2_8)
    have P642 : Rg p e below (T641.setTop (mkF m 11 #[sR a1, sR fa, sI 1, sR f1, sU, sU] [(.ref WW)])) B0 := fun t k => P639 t (by
      refine XS.iloadN X638.here hx rfl (hb hby dp23_2_4) rfl ?_
      show Sg p e below (T638.setTop (mkF m 5 #[sR a1, sR fa, sI 1, sU, sU, sU] [(.int (1 : Int32)), (.ref PP)])) _
      refine X638.aaload hx (j := (1 : Int32)) (v := (.ref f1)) (by rw [e638]; exact Ar640.1) (State.isArrayOf_alike hZ.alike Ar640.2.1) rfl Ar640.2.2 hin640 (H640.at hin640 rfl) (g := (mkF m 5 #[sR a1, sR fa, sI 1, sU, sU, sU] [(.int (1 : Int32)), (.ref PP)])) rfl rfl (hb hby dp23_2_5) _ ?_
      show Sg p e below (T638.setTop (mkF m 6 #[sR a1, sR fa, sI 1, sU, sU, sU] [(.ref f1)])) _
      refine XS.astoreN X638.here hx rfl (hb hby dp23_2_6) rfl rfl (l' := #[sR a1, sR fa, sI 1, sR f1, sU, sU]) rfl ?_
      refine XS.aloadN X638.here hx rfl (hb hby dp23_2_7) rfl rfl ?_
      show Sg p e below (T638.setTop (mkF m 8 #[sR a1, sR fa, sI 1, sR f1, sU, sU] [(.ref fa)])) _
      exact st641 _ k)
    obtain ⟨cl643, Ar643, -, S643, N643, H643, -⟩ := id AWW
    have hin643 : ¬ ((1 : Int32) < 0 ∨ cl643.slots.size ≤ ((1 : Int32)).toNatClampNeg) := inb_of S643 ⟨by decide, by decide⟩
    obtain ⟨T644, X644, e644, st644⟩ := getF X641 hx hZ hown (host := "") (Or.inl (own_hw hw 38 rfl)) Via.refl e641 Fp (g := (mkF m 16 #[sR a1, sR fa, sI 1, sR f1, sR g1, sU] [(.ref a1)])) rfl rfl (hb hby dp23_2_16)
    have P645 : Rg p e below (T644.setTop (mkF m 19 #[sR a1, sR fa, sI 1, sR f1, sR g1, sU] [(.ref P)])) B0 := fun t k => P642 t (by
      refine XS.iloadN X641.here hx rfl (hb hby dp23_2_11) rfl ?_
      show Sg p e below (T641.setTop (mkF m 12 #[sR a1, sR fa, sI 1, sR f1, sU, sU] [(.int (1 : Int32)), (.ref WW)])) _
      refine X641.aaload hx (j := (1 : Int32)) (v := (.ref g1)) (by rw [e641]; exact Ar643.1) (State.isArrayOf_alike hZ.alike Ar643.2.1) rfl Ar643.2.2 hin643 (H643.at hin643 rfl) (g := (mkF m 12 #[sR a1, sR fa, sI 1, sR f1, sU, sU] [(.int (1 : Int32)), (.ref WW)])) rfl rfl (hb hby dp23_2_12) _ ?_
      show Sg p e below (T641.setTop (mkF m 13 #[sR a1, sR fa, sI 1, sR f1, sU, sU] [(.ref g1)])) _
      refine XS.astore X641.here hx rfl (hb hby dp23_2_13) rfl rfl (l' := #[sR a1, sR fa, sI 1, sR f1, sR g1, sU]) rfl ?_
      refine XS.aloadN X641.here hx rfl (hb hby dp23_2_15) rfl rfl ?_
      show Sg p e below (T641.setTop (mkF m 16 #[sR a1, sR fa, sI 1, sR f1, sR g1, sU] [(.ref a1)])) _
      exact st644 _ k)
    obtain ⟨cl646, Ar646, -, S646, N646, -, -⟩ := id AP
    obtain ⟨cl647, Ar647, -, S647, N647, -, -⟩ := id Af
    obtain ⟨cl648, Ar648, -, S648, N648, -, -⟩ := id Af
    obtain ⟨T649, h649, k649, X649, e649, E649, A649, B649, st649⟩ := newPE X644 hx hZ (own_hw hw 9 rfl) e644 (g := (mkF m 28 #[sR a1, sR fa, sI 1, sR f1, sR g1, sU] [(.int (3 : Int32)), (.ref a1)])) rfl (hb hby dp23_2_28) rfl (by decide) (cap := 3) (by decide) (by decide) (by decide) (by decide) (ad := "[I") (by decide)
    obtain ⟨b649, g649⟩ : ∃ z, z = h0.size := ⟨_, rfl⟩
    rw [← g649] at A649 B649 st649
    have g_b649 : n0 ≤ b649 := Nat.le_trans Z0 (Nat.le_of_eq g649.symm)
    have sz_b649 : h0.size ≤ b649 := Nat.le_trans (Keep.refl h0 [a1]).1 (Nat.le_of_eq g649.symm)
    have P650 : Rg p e below (T649.setTop (mkF m 30 #[sR a1, sR fa, sI 1, sR f1, sR g1, sU] [(.ref b649), (.ref a1)])) B0 := fun t k => P645 t (by
      refine X644.arraylength hx (by rw [e644]; exact Ar646.1) (State.isArrayOf_alike hZ.alike Ar646.2.1) (g := (mkF m 19 #[sR a1, sR fa, sI 1, sR f1, sR g1, sU] [(.ref P)])) rfl rfl (hb hby dp23_2_19) _ ?_
      rw [len_of S646 N646]
      show Sg p e below (T644.setTop (mkF m 20 #[sR a1, sR fa, sI 1, sR f1, sR g1, sU] [(.int (0 : Int32))])) _
      refine XS.aloadN X644.here hx rfl (hb hby dp23_2_20) rfl rfl ?_
      show Sg p e below (T644.setTop (mkF m 21 #[sR a1, sR fa, sI 1, sR f1, sR g1, sU] [(.ref f1), (.int (0 : Int32))])) _
      refine X644.arraylength hx (by rw [e644]; exact Ar647.1) (State.isArrayOf_alike hZ.alike Ar647.2.1) (g := (mkF m 21 #[sR a1, sR fa, sI 1, sR f1, sR g1, sU] [(.ref f1), (.int (0 : Int32))])) rfl rfl (hb hby dp23_2_21) _ ?_
      rw [len_of S647 N647]
      show Sg p e below (T644.setTop (mkF m 22 #[sR a1, sR fa, sI 1, sR f1, sR g1, sU] [(.int (3 : Int32)), (.int (0 : Int32))])) _
      refine XS.icmpNo X644.here hx rfl (hb hby dp23_2_22) rfl (tlt (show (0 : Int32) < (3 : Int32) from (by decide))).2.1 ?_
      refine XS.aloadN X644.here hx rfl (hb hby dp23_2_25) rfl rfl ?_
      refine XS.aloadN X644.here hx rfl (hb hby dp23_2_26) rfl rfl ?_
      show Sg p e below (T644.setTop (mkF m 27 #[sR a1, sR fa, sI 1, sR f1, sR g1, sU] [(.ref f1), (.ref a1)])) _
      refine X644.arraylength hx (by rw [e644]; exact Ar648.1) (State.isArrayOf_alike hZ.alike Ar648.2.1) (g := (mkF m 27 #[sR a1, sR fa, sI 1, sR f1, sR g1, sU] [(.ref f1), (.ref a1)])) rfl rfl (hb hby dp23_2_27) _ ?_
      rw [len_of S648 N648]
      show Sg p e below (T644.setTop (mkF m 28 #[sR a1, sR fa, sI 1, sR f1, sR g1, sU] [(.int (3 : Int32)), (.ref a1)])) _
      exact st649 _ k)
    have Z651 : n0 ≤ h649.size := Nat.le_trans Z0 E649.1
    have K652 : Keep h0 h649 [a1] := (Keep.refl h0 [a1]).ext E649
    have v653 : Arv Z h649 b649 k649 .int (3 : Int32) [(.int (0 : Int32)), (.int (0 : Int32)), (.int (0 : Int32))] (.int (0 : Int32)) := (Arv.new A649 (by decide)).pad (pad_rep [] (.int (0 : Int32)) 3)
    have f654 := (Fp.ext E649)
    have f655 := (E1.ext E649)
    obtain ⟨T656, h656, X656, e656, W656, st656⟩ := putF X649 hx hZ hown (host := "") (Or.inl (own_hw hw 38 rfl)) Via.refl e649 f654 f655 (Or.inl (own_hw hw 39 rfl)) (own_hw hw 32 rfl) (ty := (.array .int)) (by decide) rfl rfl (g := (mkF m 30 #[sR a1, sR fa, sI 1, sR f1, sR g1, sU] [(.ref b649), (.ref a1)])) rfl rfl (hb hby dp23_2_30)
    have P657 : Rg p e below (T656.setTop (mkF m 33 #[sR a1, sR fa, sI 1, sR f1, sR g1, sU] [])) B0 := fun t k => P650 t (by
      exact st656 _ k)
    have f658 := f654.same W656
    have N659 := Fr.snoc X656 N0 g_a1
    have Z660 : n0 ≤ h656.size := Nat.le_trans Z651 (Keep.of_wr W656).1
    have K661 : Keep h0 h656 [a1] := K652.wr W656 (Or.inl (List.mem_of_getElem? (i := 0) rfl))
    have f662 := ((Af.ext E649).other W656 (Exa.ne EEf E1 (by decide)))
    obtain ⟨cl663, Ar663, -, S663, N663, -, -⟩ := id f662
    obtain ⟨T664, h664, k664, X664, e664, E664, A664, B664, st664⟩ := newPE X656 hx hZ (own_hw hw 29 rfl) e656 (g := (mkF m 36 #[sR a1, sR fa, sI 1, sR f1, sR g1, sU] [(.int (3 : Int32)), (.ref a1)])) rfl (hb hby dp23_2_36) rfl (by decide) (cap := 3) (by decide) (by decide) (by decide) (by decide) (ad := "[J") (by decide)
    obtain ⟨b664, g664⟩ : ∃ z, z = h656.size := ⟨_, rfl⟩
    rw [← g664] at A664 B664 st664
    have g_b664 : n0 ≤ b664 := Nat.le_trans Z660 (Nat.le_of_eq g664.symm)
    have sz_b664 : h0.size ≤ b664 := Nat.le_trans K661.1 (Nat.le_of_eq g664.symm)
    have P665 : Rg p e below (T664.setTop (mkF m 38 #[sR a1, sR fa, sI 1, sR f1, sR g1, sU] [(.ref b664), (.ref a1)])) B0 := fun t k => P657 t (by
      refine XS.aloadN X656.here hx rfl (hb hby dp23_2_33) rfl rfl ?_
      refine XS.aloadN X656.here hx rfl (hb hby dp23_2_34) rfl rfl ?_
      show Sg p e below (T656.setTop (mkF m 35 #[sR a1, sR fa, sI 1, sR f1, sR g1, sU] [(.ref f1), (.ref a1)])) _
      refine X656.arraylength hx (by rw [e656]; exact Ar663.1) (State.isArrayOf_alike hZ.alike Ar663.2.1) (g := (mkF m 35 #[sR a1, sR fa, sI 1, sR f1, sR g1, sU] [(.ref f1), (.ref a1)])) rfl rfl (hb hby dp23_2_35) _ ?_
      rw [len_of S663 N663]
      show Sg p e below (T656.setTop (mkF m 36 #[sR a1, sR fa, sI 1, sR f1, sR g1, sU] [(.int (3 : Int32)), (.ref a1)])) _
      exact st664 _ k)
    have Z666 : n0 ≤ h664.size := Nat.le_trans Z660 E664.1
    have K667 : Keep h0 h664 [a1] := K661.ext E664
    have v668 : Arv Z h664 b664 k664 .long (3 : Int32) [(.long (0 : Int64)), (.long (0 : Int64)), (.long (0 : Int64))] (.long (0 : Int64)) := (Arv.new A664 (by decide)).pad (pad_rep [] (.long (0 : Int64)) 3)
    have f669 := (((Fw.ext E649).other W656 (Or.inr (slot_ne (Or.inl (own_hw hw 41 rfl)) (Or.inl (own_hw hw 39 rfl)) (by decide) (t := (.array .long)) (t' := (.array .int)) (by decide) (by decide)))).ext E664)
    have f670 := ((f655.wr W656).ext E664)
    obtain ⟨T671, h671, X671, e671, W671, st671⟩ := putF X664 hx hZ hown (host := "") (Or.inl (own_hw hw 40 rfl)) Via.refl e664 f669 f670 (Or.inl (own_hw hw 41 rfl)) (own_hw hw 32 rfl) (ty := (.array .long)) (by decide) rfl rfl (g := (mkF m 38 #[sR a1, sR fa, sI 1, sR f1, sR g1, sU] [(.ref b664), (.ref a1)])) rfl rfl (hb hby dp23_2_38)
    have P672 : Rg p e below (T671.setTop (mkF m 41 #[sR a1, sR fa, sI 1, sR f1, sR g1, sU] [])) B0 := fun t k => P665 t (by
      exact st671 _ k)
    have f673 := f669.same W671
    have N674 := Fr.snoc X671 N659 g_a1
    have Z675 : n0 ≤ h671.size := Nat.le_trans Z666 (Keep.of_wr W671).1
    have K676 : Keep h0 h671 [a1] := K667.wr W671 (Or.inl (List.mem_of_getElem? (i := 0) rfl))
    have f677 := ((((Fc.ext E649).other W656 (Or.inr (slot_ne (Or.inl (own_hw hw 50 rfl)) (Or.inl (own_hw hw 39 rfl)) (by decide) (t := .int) (t' := (.array .int)) (by decide) (by decide)))).ext E664).other W671 (Or.inr (slot_ne (Or.inl (own_hw hw 50 rfl)) (Or.inl (own_hw hw 41 rfl)) (by decide) (t := .int) (t' := (.array .long)) (by decide) (by decide))))
    have f678 := (f670.wr W671)
    obtain ⟨T679, h679, X679, e679, W679, st679⟩ := putF X671 hx hZ hown (host := "") (Or.inl (own_hw hw 49 rfl)) Via.refl e671 f677 f678 (Or.inl (own_hw hw 50 rfl)) (own_hw hw 32 rfl) (ty := .int) (by decide) rfl rfl (g := (mkF m 43 #[sR a1, sR fa, sI 1, sR f1, sR g1, sU] [(.int (0 : Int32)), (.ref a1)])) rfl rfl (hb hby dp23_2_43)
    have P680 : Rg p e below (T679.setTop (mkF m 46 #[sR a1, sR fa, sI 1, sR f1, sR g1, sU] [])) B0 := fun t k => P672 t (by
      refine XS.aloadN X671.here hx rfl (hb hby dp23_2_41) rfl rfl ?_
      refine XS.iconst X671.here hx rfl (hb hby dp23_2_42) ?_
      show Sg p e below (T671.setTop (mkF m 43 #[sR a1, sR fa, sI 1, sR f1, sR g1, sU] [(.int (0 : Int32)), (.ref a1)])) _
      exact st679 _ k)
    have f681 := f677.same W679
    have N682 := Fr.snoc X679 N674 g_a1
    have Z683 : n0 ≤ h679.size := Nat.le_trans Z675 (Keep.of_wr W679).1
    have K684 : Keep h0 h679 [a1] := K676.wr W679 (Or.inl (List.mem_of_getElem? (i := 0) rfl))
    have f685 := (f678.wr W679)
    have f686 := ((((B649.wr W656).ext E664).wr W671).wr W679)
    have f687 := ((B664.wr W671).wr W679)
    have f688 := (((((EEg.ext E649).wr W656).ext E664).wr W671).wr W679)
    have f689 := (((f658.ext E664).other W671 (Or.inr (slot_ne (Or.inl (own_hw hw 39 rfl)) (Or.inl (own_hw hw 41 rfl)) (by decide) (t := (.array .int)) (t' := (.array .long)) (by decide) (by decide)))).other W679 (Or.inr (slot_ne (Or.inl (own_hw hw 39 rfl)) (Or.inl (own_hw hw 50 rfl)) (by decide) (t := (.array .int)) (t' := .int) (by decide) (by decide))))
    have f690 := (f673.other W679 (Or.inr (slot_ne (Or.inl (own_hw hw 41 rfl)) (Or.inl (own_hw hw 50 rfl)) (by decide) (t := (.array .long)) (t' := .int) (by decide) (by decide))))
    have f691 := (((f662.ext E664).other W671 (Exa.ne EEf E1 (by decide))).other W679 (Exa.ne EEf E1 (by decide)))
    have f692 := (((((Ag.ext E649).other W656 (Exa.ne EEg E1 (by decide))).ext E664).other W671 (Exa.ne EEg E1 (by decide))).other W679 (Exa.ne EEg E1 (by decide)))
    have f693 := ((((v653.other W656 (Ne.symm (Nat.ne_of_lt (Nat.lt_of_lt_of_le Fc.lt (Nat.le_of_eq g649.symm))))).ext E664).other W671 (Ne.symm (Nat.ne_of_lt (Nat.lt_of_lt_of_le Fc.lt (Nat.le_of_eq g649.symm))))).other W679 (Ne.symm (Nat.ne_of_lt (Nat.lt_of_lt_of_le Fc.lt (Nat.le_of_eq g649.symm)))))
    have f694 := ((v668.other W671 (Ne.symm (Nat.ne_of_lt (Nat.lt_of_lt_of_le f658.lt (Nat.le_of_eq g664.symm))))).other W679 (Ne.symm (Nat.ne_of_lt (Nat.lt_of_lt_of_le f658.lt (Nat.le_of_eq g664.symm)))))
    have P695 : Rg p e below (T679.setTop (mkF m 49 #[sR a1, sR fa, sI 1, sR f1, sR g1, sI 0] [])) B0 := fun t k => P680 t (by
      refine XS.iconst X679.here hx rfl (hb hby dp23_2_46) ?_
      refine XS.istore X679.here hx rfl (hb hby dp23_2_47) rfl (l' := #[sR a1, sR fa, sI 1, sR f1, sR g1, sI 0]) rfl ?_
      show Sg p e below (T679.setTop (mkF m 49 #[sR a1, sR fa, sI 1, sR f1, sR g1, sI 0] [])) _
      exact k)
    obtain ⟨T696, h696, L696, X696, e696, Nq696, K696, u696_0, u696_1, u696_2, u696_3, u696_4, st696⟩ := pc_cpt a1 fa f1 g1 b649 b664 kf kg k649 k664 (1 : Int32) (3 : Int32) (3 : Int32) (0 : Int32) (0 : Int32) x0 y0 [(.int x0), (.int x1), (.int x2)] [(.long y0), (.long y1), (.long y2)] [(.int (0 : Int32)), (.int (0 : Int32)), (.int (0 : Int32))] [(.long (0 : Int64)), (.long (0 : Int64)), (.long (0 : Int64))] 0 X679 hx hZ hw hby hml hown e679 N682 Z683 (Nat.le_of_ble_eq_true rfl) (Nat.le_of_ble_eq_true rfl) (by decide) (by decide) g_a1 g_b649 g_b664 f685 f686 f687 f688 f689 f690 f681 f691 f692 f693 f694 (by decide) ⟨by decide, by decide⟩ rfl rfl (hnz y0 (by simp)) ⟨by decide, by decide⟩ rfl (Nat.le_of_ble_eq_true rfl) (Nat.le_of_ble_eq_true rfl)
    have P697 : Rg p e below (T696.setTop (mkF m 49 #[sR a1, sR fa, sI 1, sR f1, sR g1, sI 1] [])) B0 := fun t k => P695 t (by
      exact st696 _ k)
    have Z698 : n0 ≤ h696.size := Nat.le_trans Z683 K696.1
    have K699 : Keep h0 h696 [a1] := K684.trans K696 ((allS (Or.inl (List.mem_of_getElem? (i := 0) rfl)) (allS (Or.inr sz_b649) (allS (Or.inr sz_b664) all0))))
    have AP696 : Arv Z h696 b649 k649 .int (3 : Int32) [(.int x0), (.int (0 : Int32)), (.int (0 : Int32))] (.int (0 : Int32)) := u696_3
    have AW696 : Arv Z h696 b664 k664 .long (3 : Int32) [(.long y0), (.long (0 : Int64)), (.long (0 : Int64))] (.long (0 : Int64)) := u696_4
    have f700 := (f685.keep K696)
    have f701 := (f686.keep K696)
    have f702 := (f687.keep K696)
    have f703 := (f688.keep K696)
    have f704 := (f691.keep K696 (ninS (Exa.ne EEf E1 (by decide)) (ninS (Nat.ne_of_lt (Nat.lt_of_lt_of_le Af.lt (Nat.le_of_eq g649.symm))) (ninS (Nat.ne_of_lt (Nat.lt_of_lt_of_le f662.lt (Nat.le_of_eq g664.symm))) nin0))))
    have f705 := (f692.keep K696 (ninS (Exa.ne EEg E1 (by decide)) (ninS (Nat.ne_of_lt (Nat.lt_of_lt_of_le Ag.lt (Nat.le_of_eq g649.symm))) (ninS (Nat.ne_of_lt (Nat.lt_of_lt_of_le ((Ag.ext E649).other W656 (Exa.ne EEg E1 (by decide))).lt (Nat.le_of_eq g664.symm))) nin0))))
    obtain ⟨T706, h706, L706, X706, e706, Nq706, K706, u706_0, u706_1, u706_2, u706_3, u706_4, st706⟩ := pc_cpt a1 fa f1 g1 b649 b664 kf kg k649 k664 (1 : Int32) (3 : Int32) (3 : Int32) (1 : Int32) (1 : Int32) x1 y1 [(.int x0), (.int x1), (.int x2)] [(.long y0), (.long y1), (.long y2)] [(.int x0), (.int (0 : Int32)), (.int (0 : Int32))] [(.long y0), (.long (0 : Int64)), (.long (0 : Int64))] 1 X696 hx hZ hw hby hml hown e696 Nq696 Z698 (Nat.le_of_ble_eq_true rfl) (Nat.le_of_ble_eq_true rfl) (by decide) (by decide) g_a1 g_b649 g_b664 f700 f701 f702 f703 u696_0 u696_1 u696_2 f704 f705 AP696 AW696 (by decide) ⟨by decide, by decide⟩ rfl rfl (hnz y1 (by simp)) ⟨by decide, by decide⟩ rfl (Nat.le_of_ble_eq_true rfl) (Nat.le_of_ble_eq_true rfl)
    have P707 : Rg p e below (T706.setTop (mkF m 49 #[sR a1, sR fa, sI 1, sR f1, sR g1, sI 2] [])) B0 := fun t k => P697 t (by
      exact st706 _ k)
    have Z708 : n0 ≤ h706.size := Nat.le_trans Z698 K706.1
    have K709 : Keep h0 h706 [a1] := K699.trans K706 ((allS (Or.inl (List.mem_of_getElem? (i := 0) rfl)) (allS (Or.inr sz_b649) (allS (Or.inr sz_b664) all0))))
    have AP706 : Arv Z h706 b649 k649 .int (3 : Int32) [(.int x0), (.int x1), (.int (0 : Int32))] (.int (0 : Int32)) := u706_3
    have AW706 : Arv Z h706 b664 k664 .long (3 : Int32) [(.long y0), (.long y1), (.long (0 : Int64))] (.long (0 : Int64)) := u706_4
    have f710 := (f700.keep K706)
    have f711 := (f701.keep K706)
    have f712 := (f702.keep K706)
    have f713 := (f703.keep K706)
    have f714 := (f704.keep K706 (ninS (Exa.ne EEf E1 (by decide)) (ninS (Nat.ne_of_lt (Nat.lt_of_lt_of_le Af.lt (Nat.le_of_eq g649.symm))) (ninS (Nat.ne_of_lt (Nat.lt_of_lt_of_le f662.lt (Nat.le_of_eq g664.symm))) nin0))))
    have f715 := (f705.keep K706 (ninS (Exa.ne EEg E1 (by decide)) (ninS (Nat.ne_of_lt (Nat.lt_of_lt_of_le Ag.lt (Nat.le_of_eq g649.symm))) (ninS (Nat.ne_of_lt (Nat.lt_of_lt_of_le ((Ag.ext E649).other W656 (Exa.ne EEg E1 (by decide))).lt (Nat.le_of_eq g664.symm))) nin0))))
    obtain ⟨T716, h716, L716, X716, e716, Nq716, K716, u716_0, u716_1, u716_2, u716_3, u716_4, st716⟩ := pc_cpt a1 fa f1 g1 b649 b664 kf kg k649 k664 (1 : Int32) (3 : Int32) (3 : Int32) (2 : Int32) (2 : Int32) x2 y2 [(.int x0), (.int x1), (.int x2)] [(.long y0), (.long y1), (.long y2)] [(.int x0), (.int x1), (.int (0 : Int32))] [(.long y0), (.long y1), (.long (0 : Int64))] 2 X706 hx hZ hw hby hml hown e706 Nq706 Z708 (Nat.le_of_ble_eq_true rfl) (Nat.le_of_ble_eq_true rfl) (by decide) (by decide) g_a1 g_b649 g_b664 f710 f711 f712 f713 u706_0 u706_1 u706_2 f714 f715 AP706 AW706 (by decide) ⟨by decide, by decide⟩ rfl rfl (hnz y2 (by simp)) ⟨by decide, by decide⟩ rfl (Nat.le_of_ble_eq_true rfl) (Nat.le_of_ble_eq_true rfl)
    have P717 : Rg p e below (T716.setTop (mkF m 49 #[sR a1, sR fa, sI 1, sR f1, sR g1, sI 3] [])) B0 := fun t k => P707 t (by
      exact st716 _ k)
    have Z718 : n0 ≤ h716.size := Nat.le_trans Z708 K716.1
    have K719 : Keep h0 h716 [a1] := K709.trans K716 ((allS (Or.inl (List.mem_of_getElem? (i := 0) rfl)) (allS (Or.inr sz_b649) (allS (Or.inr sz_b664) all0))))
    have AP716 : Arv Z h716 b649 k649 .int (3 : Int32) [(.int x0), (.int x1), (.int x2)] (.int (0 : Int32)) := u716_3
    have AW716 : Arv Z h716 b664 k664 .long (3 : Int32) [(.long y0), (.long y1), (.long y2)] (.long (0 : Int64)) := u716_4
    have f720 := (f714.keep K716 (ninS (Exa.ne EEf E1 (by decide)) (ninS (Nat.ne_of_lt (Nat.lt_of_lt_of_le Af.lt (Nat.le_of_eq g649.symm))) (ninS (Nat.ne_of_lt (Nat.lt_of_lt_of_le f662.lt (Nat.le_of_eq g664.symm))) nin0))))
    obtain ⟨cl721, Ar721, -, S721, N721, -, -⟩ := id f720
    have f722 := (f710.keep K716)
    have f723 := (f711.keep K716)
    have f724 := (f712.keep K716)
    obtain ⟨fs725, hr725, hrun725, hended725, hW725, hsame725⟩ := X716.leave (v := none) (fun _ => rfl)
    refine ⟨_, _, pre0 _ (P717 _ ?_), hrun725, hended725, _, _, rfl, ?_, ⟨⟨_, rfl⟩, hW725, hsame725.mono (Nat.le_of_ble_eq_true rfl) (Nat.le_of_ble_eq_true rfl)⟩⟩
    · show Sg p e below (T716.setTop (mkF m 49 #[sR a1, sR fa, sI 1, sR f1, sR g1, sI 3] [])) _
      refine XS.iload X716.here hx rfl (hb hby dp23_2_49) rfl ?_
      refine XS.aloadN X716.here hx rfl (hb hby dp23_2_51) rfl rfl ?_
      show Sg p e below (T716.setTop (mkF m 52 #[sR a1, sR fa, sI 1, sR f1, sR g1, sI 3] [(.ref f1), (.int (3 : Int32))])) _
      refine X716.arraylength hx (by rw [e716]; exact Ar721.1) (State.isArrayOf_alike hZ.alike Ar721.2.1) (g := (mkF m 52 #[sR a1, sR fa, sI 1, sR f1, sR g1, sI 3] [(.ref f1), (.int (3 : Int32))])) rfl rfl (hb hby dp23_2_52) _ ?_
      rw [len_of S721 N721]
      show Sg p e below (T716.setTop (mkF m 53 #[sR a1, sR fa, sI 1, sR f1, sR g1, sI 3] [(.int (3 : Int32)), (.int (3 : Int32))])) _
      refine XS.icmpYes X716.here hx rfl (pc0 := 53) (pc' := 106) rfl (hb hby dp23_2_53) rfl (flt (show ¬ ((3 : Int32) < (3 : Int32)) from (by decide))).2.1 (by decide) (by decide) ?_
      show Sg p e below (T716.setTop (mkF m 106 #[sR a1, sR fa, sI 1, sR f1, sR g1, sI 3] [])) _
      exact X716.returnOut hx Bd.returns (hb hby dp23_2_106) hr725
    · show Q_stf Z a1 (3 : Int32) [x0, x1, x2] [y0, y1, y2] h0 n0 _ T716.heap _
      rw [e716]
      exact ⟨rfl, Nq716, K719, f722, u716_2, b649, b664, _, _, u716_0, u716_1, AP716, AW716, f723, f724, sz_b649, sz_b664⟩
  · exact absurd hpl (by simp)
theorem ef_sti (m : MethodId) (x0 : Addr) (x1 : Addr) (x2 : Int32) : entryFrame m #[(.ref x0), (.ref x1), (.int x2)] 6 = mkF m 0 #[sR x0, sR x1, sI x2, sU, sU, sU] [] := by (first | (simp [entryFrame, mkF, argsToLocals, Value.category]; done) | rfl)
def Q_sti (Z : State) (a1 P W : Addr) (kP kW : ClassId) (M N : Int32) (pl us : List Int32) (wl vs : List Int64) (h0 : Heap) (n0 : Nat) (v : Option Value) (h : Heap) (L : List Loc) : Prop := v = none ∧ Fr n0 L ∧ Keep h0 h [a1, P, W] ∧ Fld Z h a1 sM "count" "I" (.int N) ∧ Fld Z h a1 sM "places" "[I" (.ref P) ∧ Fld Z h a1 sM "words" "[J" (.ref W) ∧ Arv Z h P kP .int M ((pl ++ us.drop pl.length).map Value.int) (.int (0 : Int32)) ∧ Arv Z h W kW .long M ((wl ++ vs.drop pl.length).map Value.long) (.long (0 : Int64))
set_option maxRecDepth 65536 in
set_option maxHeartbeats 40000000 in
theorem rm_sti (l : Launch) (Z : State) (a0 : Array Value) (hw : ∀ d ∈ tables_1, d.before a0 Z = true) (ws : List Jvm.Cond) (a1 P W : Addr) (kP kW : ClassId) (fa PP WW f0 f1 g0 g1 : Addr) (kPP kWW kf kg : ClassId) (N : Int32) (pl : List Int32) (wl : List Int64) (M c0 : Int32) (us : List Int32) (vs : List Int64) (h0 : Heap) (n0 : Nat) (Z0 : n0 ≤ h0.size) (g_a1 : n0 ≤ a1) (E1 : Exa Z h0 a1 sM) (Fp : Fld Z h0 a1 sM "places" "[I" (.ref P)) (Fw : Fld Z h0 a1 sM "words" "[J" (.ref W)) (Fc : Fld Z h0 a1 sM "count" "I" (.int c0)) (Ef : Exa Z h0 fa sW) (Ffp : Fld Z h0 fa sW "places" "[[I" (.ref PP)) (Ffw : Fld Z h0 fa sW "words" "[[J" (.ref WW)) (APP : Arv Z h0 PP kPP (.array .int) (2 : Int32) [(.ref f0), (.ref f1)] .null) (AWW : Arv Z h0 WW kWW (.array .long) (2 : Int32) [(.ref g0), (.ref g1)] .null) (Af : Arv Z h0 f0 kf .int N (pl.map Value.int) (.int (0 : Int32))) (Ag : Arv Z h0 g0 kg .long N (wl.map Value.long) (.long (0 : Int64))) (EEf : Exa Z h0 f0 "[I") (EEg : Exa Z h0 g0 "[J") (hN : N = Int32.ofNat pl.length) (hpl : pl.length ≤ 3) (hwl : wl.length = pl.length) (g_P : n0 ≤ P) (g_W : n0 ≤ W) (EP : Exa Z h0 P "[I") (EW1 : Exa Z h0 W "[J") (AP : Arv Z h0 P kP .int M (us.map Value.int) (.int (0 : Int32))) (AW : Arv Z h0 W kW .long M (vs.map Value.long) (.long (0 : Int64))) (hM : M = Int32.ofNat us.length) (hus : us.length ≤ 3) (hvs : vs.length = us.length) (hle : pl.length ≤ us.length) (nfP : f0 ≠ P) (ngW : g0 ≠ W) (hnz : ∀ y ∈ wl, ¬ y = (0 : Int64)) :
    MetFree l (⟨"com/example/whittle/whittle/engine/WordSets$Meet", "start", "(Lcom/example/whittle/whittle/engine/WordSets;I)V"⟩ : MethodName) (head1 (Jvm.Cond.code (⟨"com/example/whittle/whittle/engine/WordSets$Meet", "start", "(Lcom/example/whittle/whittle/engine/WordSets;I)V"⟩ : MethodName) prog_23_method_2_code 6 none :: ws) ({ frames := 0, cells := 0, slots := 0, locals := 0 } : Room)) (fun a U => a = #[(.ref a1), (.ref fa), (.int (0 : Int32))] ∧ Z.Warmed39 U.vm ∧ U.heap = h0) (fun _ _ _ _ _ => True) (fun _ U o U' => ∃ v L, o = .returned v ∧ Q_sti Z a1 P W kP kW M N pl us wl vs h0 n0 v U'.heap L ∧ FrameEnd U o U' L ({ frames := 0, cells := 0, slots := 0, locals := 0 } : Room).cells ({ frames := 0, cells := 0, slots := 0, locals := 0 } : Room).slots) := by
  refine MetFree.of_bodySF (plainFor_of_name pn_com_example_whittle_whittle_engine_WordSets_Meet) hisR ?_
  intro p e s m args below meth c s₁ Bd hml0 hP hK
  obtain ⟨rfl, hZ, hh⟩ := hP
  have hx := Bd.exec
  have hby := Bd.bytes
  have hml : c.maxLocals = 6 := hml0
  have hown : s.vm.findClass "com/example/whittle/whittle/engine/WordSets$Meet" = some m.cls := findClass_of_methodNamed Bd.named
  have hnm := (name_of_methodNamed Bd.named Bd.method).1
  have X0 : Stand p l e ({ frames := 0, cells := 0, slots := 0, locals := 0 } : Room) s m #[(.ref a1), (.ref fa), (.int (0 : Int32))] below meth c s₁ [] 0 0 := Stand.of_body Bd
  have e0 : s₁.heap = h0 := by rw [← hh, Bd.state]; rfl
  have N0 := Fr.nil n0
  have pre0 : ∀ t, Sg p e below (s₁.setTop (mkF m 0 #[sR a1, sR fa, sI 0, sU, sU, sU] [])) t → Steps p.tables e below (s₁.setTop (entryFrame m #[(.ref a1), (.ref fa), (.int (0 : Int32))] 6)) t := fun t k => castTop (ef_sti m a1 fa (0 : Int32)) k
  have P0 : ∀ t, Sg p e below (s₁.setTop (mkF m 0 #[sR a1, sR fa, sI 0, sU, sU, sU] [])) t → Sg p e below (s₁.setTop (mkF m 0 #[sR a1, sR fa, sI 0, sU, sU, sU] [])) t := fun t k => k
  obtain ⟨B0, pre0, P0⟩ : ∃ B : State, (∀ t, Steps p.tables e below B t → Steps p.tables e below (s₁.setTop (entryFrame m #[(.ref a1), (.ref fa), (.int (0 : Int32))] 6)) t) ∧ Rg p e below (s₁.setTop (mkF m 0 #[sR a1, sR fa, sI 0, sU, sU, sU] [])) B := ⟨_, pre0, P0⟩
  rcases pl with _ | ⟨x0, _ | ⟨x1, _ | ⟨x2, _ | ⟨x3, pl⟩⟩⟩⟩
  · skip
    obtain rfl := own_len0 hwl
    have hN' : N = (0 : Int32) := hN
    subst hN'
    have hlt9 : ¬ M < (0 : Int32) := fun z => Nat.not_lt.mpr hle ((own_lenlt (k := 0) hM hus (by decide)).mp z)
    obtain ⟨T726, X726, e726, st726⟩ := getF X0 hx hZ hown (Or.inr (own_hw hw 47 rfl)) Via.refl e0 Ffp (g := (mkF m 1 #[sR a1, sR fa, sI 0, sU, sU, sU] [(.ref fa)])) rfl rfl (hb hby dp23_2_1)
    have P727 : Rg p e below (T726.setTop (mkF m 4 #[sR a1, sR fa, sI 0, sU, sU, sU] [(.ref PP)])) B0 := fun t k => P0 t (by
      refine XS.aloadN X0.here hx rfl (hb hby dp23_2_0) rfl rfl ?_
      show Sg p e below (s₁.setTop (mkF m 1 #[sR a1, sR fa, sI 0, sU, sU, sU] [(.ref fa)])) _
      exact st726 _ k)
    obtain ⟨cl728, Ar728, -, S728, N728, H728, -⟩ := id APP
    have hin728 : ¬ ((0 : Int32) < 0 ∨ cl728.slots.size ≤ ((0 : Int32)).toNatClampNeg) := inb_of S728 ⟨by decide, by decide⟩
    obtain ⟨T729, X729, e729, st729⟩ := getF X726 hx hZ hown (Or.inr (own_hw hw 48 rfl)) Via.refl e726 Ffw (g := (mkF m 8 #[sR a1, sR fa, sI 0, sR f0, sU, sU] [(.ref fa)])) rfl rfl (hb hby dp23_2_8)
    have P730 : Rg p e below (T729.setTop (mkF m 11 #[sR a1, sR fa, sI 0, sR f0, sU, sU] [(.ref WW)])) B0 := fun t k => P727 t (by
      refine XS.iloadN X726.here hx rfl (hb hby dp23_2_4) rfl ?_
      show Sg p e below (T726.setTop (mkF m 5 #[sR a1, sR fa, sI 0, sU, sU, sU] [(.int (0 : Int32)), (.ref PP)])) _
      refine X726.aaload hx (j := (0 : Int32)) (v := (.ref f0)) (by rw [e726]; exact Ar728.1) (State.isArrayOf_alike hZ.alike Ar728.2.1) rfl Ar728.2.2 hin728 (H728.at hin728 rfl) (g := (mkF m 5 #[sR a1, sR fa, sI 0, sU, sU, sU] [(.int (0 : Int32)), (.ref PP)])) rfl rfl (hb hby dp23_2_5) _ ?_
      show Sg p e below (T726.setTop (mkF m 6 #[sR a1, sR fa, sI 0, sU, sU, sU] [(.ref f0)])) _
      refine XS.astoreN X726.here hx rfl (hb hby dp23_2_6) rfl rfl (l' := #[sR a1, sR fa, sI 0, sR f0, sU, sU]) rfl ?_
      refine XS.aloadN X726.here hx rfl (hb hby dp23_2_7) rfl rfl ?_
      show Sg p e below (T726.setTop (mkF m 8 #[sR a1, sR fa, sI 0, sR f0, sU, sU] [(.ref fa)])) _
      exact st729 _ k)
    obtain ⟨cl731, Ar731, -, S731, N731, H731, -⟩ := id AWW
    have hin731 : ¬ ((0 : Int32) < 0 ∨ cl731.slots.size ≤ ((0 : Int32)).toNatClampNeg) := inb_of S731 ⟨by decide, by decide⟩
    obtain ⟨T732, X732, e732, st732⟩ := getF X729 hx hZ hown (host := "") (Or.inl (own_hw hw 38 rfl)) Via.refl e729 Fp (g := (mkF m 16 #[sR a1, sR fa, sI 0, sR f0, sR g0, sU] [(.ref a1)])) rfl rfl (hb hby dp23_2_16)
    have P733 : Rg p e below (T732.setTop (mkF m 19 #[sR a1, sR fa, sI 0, sR f0, sR g0, sU] [(.ref P)])) B0 := fun t k => P730 t (by
      refine XS.iloadN X729.here hx rfl (hb hby dp23_2_11) rfl ?_
      show Sg p e below (T729.setTop (mkF m 12 #[sR a1, sR fa, sI 0, sR f0, sU, sU] [(.int (0 : Int32)), (.ref WW)])) _
      refine X729.aaload hx (j := (0 : Int32)) (v := (.ref g0)) (by rw [e729]; exact Ar731.1) (State.isArrayOf_alike hZ.alike Ar731.2.1) rfl Ar731.2.2 hin731 (H731.at hin731 rfl) (g := (mkF m 12 #[sR a1, sR fa, sI 0, sR f0, sU, sU] [(.int (0 : Int32)), (.ref WW)])) rfl rfl (hb hby dp23_2_12) _ ?_
      show Sg p e below (T729.setTop (mkF m 13 #[sR a1, sR fa, sI 0, sR f0, sU, sU] [(.ref g0)])) _
      refine XS.astore X729.here hx rfl (hb hby dp23_2_13) rfl rfl (l' := #[sR a1, sR fa, sI 0, sR f0, sR g0, sU]) rfl ?_
      refine XS.aloadN X729.here hx rfl (hb hby dp23_2_15) rfl rfl ?_
      show Sg p e below (T729.setTop (mkF m 16 #[sR a1, sR fa, sI 0, sR f0, sR g0, sU] [(.ref a1)])) _
      exact st732 _ k)
    obtain ⟨cl734, Ar734, -, S734, N734, -, -⟩ := id AP
    obtain ⟨cl735, Ar735, -, S735, N735, -, -⟩ := id Af
    obtain ⟨T736, h736, X736, e736, W736, st736⟩ := putF X732 hx hZ hown (host := "") (Or.inl (own_hw hw 49 rfl)) Via.refl e732 Fc E1 (Or.inl (own_hw hw 50 rfl)) (own_hw hw 32 rfl) (ty := .int) (by decide) rfl rfl (g := (mkF m 43 #[sR a1, sR fa, sI 0, sR f0, sR g0, sU] [(.int (0 : Int32)), (.ref a1)])) rfl rfl (hb hby dp23_2_43)
    have P737 : Rg p e below (T736.setTop (mkF m 46 #[sR a1, sR fa, sI 0, sR f0, sR g0, sU] [])) B0 := fun t k => P733 t (by
      refine X732.arraylength hx (by rw [e732]; exact Ar734.1) (State.isArrayOf_alike hZ.alike Ar734.2.1) (g := (mkF m 19 #[sR a1, sR fa, sI 0, sR f0, sR g0, sU] [(.ref P)])) rfl rfl (hb hby dp23_2_19) _ ?_
      rw [len_of S734 N734]
      show Sg p e below (T732.setTop (mkF m 20 #[sR a1, sR fa, sI 0, sR f0, sR g0, sU] [(.int M)])) _
      refine XS.aloadN X732.here hx rfl (hb hby dp23_2_20) rfl rfl ?_
      show Sg p e below (T732.setTop (mkF m 21 #[sR a1, sR fa, sI 0, sR f0, sR g0, sU] [(.ref f0), (.int M)])) _
      refine X732.arraylength hx (by rw [e732]; exact Ar735.1) (State.isArrayOf_alike hZ.alike Ar735.2.1) (g := (mkF m 21 #[sR a1, sR fa, sI 0, sR f0, sR g0, sU] [(.ref f0), (.int M)])) rfl rfl (hb hby dp23_2_21) _ ?_
      rw [len_of S735 N735]
      show Sg p e below (T732.setTop (mkF m 22 #[sR a1, sR fa, sI 0, sR f0, sR g0, sU] [(.int (0 : Int32)), (.int M)])) _
      refine XS.icmpYes X732.here hx rfl (pc0 := 22) (pc' := 41) rfl (hb hby dp23_2_22) rfl (flt (show ¬ (M < (0 : Int32)) from hlt9)).2.1 (by decide) (by decide) ?_
      refine XS.aloadN X732.here hx rfl (hb hby dp23_2_41) rfl rfl ?_
      refine XS.iconst X732.here hx rfl (hb hby dp23_2_42) ?_
      show Sg p e below (T732.setTop (mkF m 43 #[sR a1, sR fa, sI 0, sR f0, sR g0, sU] [(.int (0 : Int32)), (.ref a1)])) _
      exact st736 _ k)
    have f738 := Fc.same W736
    have N739 := Fr.snoc X736 N0 g_a1
    have Z740 : n0 ≤ h736.size := Nat.le_trans Z0 (Keep.of_wr W736).1
    have K741 : Keep h0 h736 [a1, P, W] := (Keep.refl h0 [a1, P, W]).wr W736 (Or.inl (List.mem_of_getElem? (i := 0) rfl))
    have f742 := (Af.other W736 (Exa.ne EEf E1 (by decide)))
    obtain ⟨cl743, Ar743, -, S743, N743, -, -⟩ := id f742
    have f744 := (Fp.other W736 (Or.inr (slot_ne (Or.inl (own_hw hw 39 rfl)) (Or.inl (own_hw hw 50 rfl)) (by decide) (t := (.array .int)) (t' := .int) (by decide) (by decide))))
    have f745 := (Fw.other W736 (Or.inr (slot_ne (Or.inl (own_hw hw 41 rfl)) (Or.inl (own_hw hw 50 rfl)) (by decide) (t := (.array .long)) (t' := .int) (by decide) (by decide))))
    have f746 := (AP.other W736 (Exa.ne EP E1 (by decide)))
    have f747 := (AW.other W736 (Exa.ne EW1 E1 (by decide)))
    obtain ⟨fs748, hr748, hrun748, hended748, hW748, hsame748⟩ := X736.leave (v := none) (fun _ => rfl)
    refine ⟨_, _, pre0 _ (P737 _ ?_), hrun748, hended748, _, _, rfl, ?_, ⟨⟨_, rfl⟩, hW748, hsame748.mono (Nat.le_of_ble_eq_true rfl) (Nat.le_of_ble_eq_true rfl)⟩⟩
    · show Sg p e below (T736.setTop (mkF m 46 #[sR a1, sR fa, sI 0, sR f0, sR g0, sU] [])) _
      refine XS.iconst X736.here hx rfl (hb hby dp23_2_46) ?_
      refine XS.istore X736.here hx rfl (hb hby dp23_2_47) rfl (l' := #[sR a1, sR fa, sI 0, sR f0, sR g0, sI 0]) rfl ?_
      refine XS.iload X736.here hx rfl (hb hby dp23_2_49) rfl ?_
      refine XS.aloadN X736.here hx rfl (hb hby dp23_2_51) rfl rfl ?_
      show Sg p e below (T736.setTop (mkF m 52 #[sR a1, sR fa, sI 0, sR f0, sR g0, sI 0] [(.ref f0), (.int (0 : Int32))])) _
      refine X736.arraylength hx (by rw [e736]; exact Ar743.1) (State.isArrayOf_alike hZ.alike Ar743.2.1) (g := (mkF m 52 #[sR a1, sR fa, sI 0, sR f0, sR g0, sI 0] [(.ref f0), (.int (0 : Int32))])) rfl rfl (hb hby dp23_2_52) _ ?_
      rw [len_of S743 N743]
      show Sg p e below (T736.setTop (mkF m 53 #[sR a1, sR fa, sI 0, sR f0, sR g0, sI 0] [(.int (0 : Int32)), (.int (0 : Int32))])) _
      refine XS.icmpYes X736.here hx rfl (pc0 := 53) (pc' := 106) rfl (hb hby dp23_2_53) rfl (flt (show ¬ ((0 : Int32) < (0 : Int32)) from (by decide))).2.1 (by decide) (by decide) ?_
      show Sg p e below (T736.setTop (mkF m 106 #[sR a1, sR fa, sI 0, sR f0, sR g0, sI 0] [])) _
      exact X736.returnOut hx Bd.returns (hb hby dp23_2_106) hr748
    · show Q_sti Z a1 P W kP kW M (0 : Int32) [] us [] vs h0 n0 _ T736.heap _
      rw [e736]
      exact ⟨rfl, N739, K741, f738, f744, f745, f746, f747⟩
  · skip
    obtain ⟨y0, rfl⟩ := own_len1 hwl
    have hN' : N = (1 : Int32) := hN
    subst hN'
    have hlt9 : ¬ M < (1 : Int32) := fun z => Nat.not_lt.mpr hle ((own_lenlt (k := 1) hM hus (by decide)).mp z)
    obtain ⟨u0, ur, rfl⟩ := own_cons.1 hle
    obtain ⟨v0, vr, rfl⟩ := (own_cons (us := vs)).1 (by rw [hvs]; exact hle)
    obtain ⟨T749, X749, e749, st749⟩ := getF X0 hx hZ hown (Or.inr (own_hw hw 47 rfl)) Via.refl e0 Ffp (g := (mkF m 1 #[sR a1, sR fa, sI 0, sU, sU, sU] [(.ref fa)])) rfl rfl (hb hby dp23_2_1)
    have P750 : Rg p e below (T749.setTop (mkF m 4 #[sR a1, sR fa, sI 0, sU, sU, sU] [(.ref PP)])) B0 := fun t k => P0 t (by
      refine XS.aloadN X0.here hx rfl (hb hby dp23_2_0) rfl rfl ?_
      show Sg p e below (s₁.setTop (mkF m 1 #[sR a1, sR fa, sI 0, sU, sU, sU] [(.ref fa)])) _
      exact st749 _ k)
    obtain ⟨cl751, Ar751, -, S751, N751, H751, -⟩ := id APP
    have hin751 : ¬ ((0 : Int32) < 0 ∨ cl751.slots.size ≤ ((0 : Int32)).toNatClampNeg) := inb_of S751 ⟨by decide, by decide⟩
    obtain ⟨T752, X752, e752, st752⟩ := getF X749 hx hZ hown (Or.inr (own_hw hw 48 rfl)) Via.refl e749 Ffw (g := (mkF m 8 #[sR a1, sR fa, sI 0, sR f0, sU, sU] [(.ref fa)])) rfl rfl (hb hby dp23_2_8)
    have P753 : Rg p e below (T752.setTop (mkF m 11 #[sR a1, sR fa, sI 0, sR f0, sU, sU] [(.ref WW)])) B0 := fun t k => P750 t (by
      refine XS.iloadN X749.here hx rfl (hb hby dp23_2_4) rfl ?_
      show Sg p e below (T749.setTop (mkF m 5 #[sR a1, sR fa, sI 0, sU, sU, sU] [(.int (0 : Int32)), (.ref PP)])) _
      refine X749.aaload hx (j := (0 : Int32)) (v := (.ref f0)) (by rw [e749]; exact Ar751.1) (State.isArrayOf_alike hZ.alike Ar751.2.1) rfl Ar751.2.2 hin751 (H751.at hin751 rfl) (g := (mkF m 5 #[sR a1, sR fa, sI 0, sU, sU, sU] [(.int (0 : Int32)), (.ref PP)])) rfl rfl (hb hby dp23_2_5) _ ?_
      show Sg p e below (T749.setTop (mkF m 6 #[sR a1, sR fa, sI 0, sU, sU, sU] [(.ref f0)])) _
      refine XS.astoreN X749.here hx rfl (hb hby dp23_2_6) rfl rfl (l' := #[sR a1, sR fa, sI 0, sR f0, sU, sU]) rfl ?_
      refine XS.aloadN X749.here hx rfl (hb hby dp23_2_7) rfl rfl ?_
      show Sg p e below (T749.setTop (mkF m 8 #[sR a1, sR fa, sI 0, sR f0, sU, sU] [(.ref fa)])) _
      exact st752 _ k)
    obtain ⟨cl754, Ar754, -, S754, N754, H754, -⟩ := id AWW
    have hin754 : ¬ ((0 : Int32) < 0 ∨ cl754.slots.size ≤ ((0 : Int32)).toNatClampNeg) := inb_of S754 ⟨by decide, by decide⟩
    obtain ⟨T755, X755, e755, st755⟩ := getF X752 hx hZ hown (host := "") (Or.inl (own_hw hw 38 rfl)) Via.refl e752 Fp (g := (mkF m 16 #[sR a1, sR fa, sI 0, sR f0, sR g0, sU] [(.ref a1)])) rfl rfl (hb hby dp23_2_16)
    have P756 : Rg p e below (T755.setTop (mkF m 19 #[sR a1, sR fa, sI 0, sR f0, sR g0, sU] [(.ref P)])) B0 := fun t k => P753 t (by
      refine XS.iloadN X752.here hx rfl (hb hby dp23_2_11) rfl ?_
      show Sg p e below (T752.setTop (mkF m 12 #[sR a1, sR fa, sI 0, sR f0, sU, sU] [(.int (0 : Int32)), (.ref WW)])) _
      refine X752.aaload hx (j := (0 : Int32)) (v := (.ref g0)) (by rw [e752]; exact Ar754.1) (State.isArrayOf_alike hZ.alike Ar754.2.1) rfl Ar754.2.2 hin754 (H754.at hin754 rfl) (g := (mkF m 12 #[sR a1, sR fa, sI 0, sR f0, sU, sU] [(.int (0 : Int32)), (.ref WW)])) rfl rfl (hb hby dp23_2_12) _ ?_
      show Sg p e below (T752.setTop (mkF m 13 #[sR a1, sR fa, sI 0, sR f0, sU, sU] [(.ref g0)])) _
      refine XS.astore X752.here hx rfl (hb hby dp23_2_13) rfl rfl (l' := #[sR a1, sR fa, sI 0, sR f0, sR g0, sU]) rfl ?_
      refine XS.aloadN X752.here hx rfl (hb hby dp23_2_15) rfl rfl ?_
      show Sg p e below (T752.setTop (mkF m 16 #[sR a1, sR fa, sI 0, sR f0, sR g0, sU] [(.ref a1)])) _
      exact st755 _ k)
    obtain ⟨cl757, Ar757, -, S757, N757, -, -⟩ := id AP
    obtain ⟨cl758, Ar758, -, S758, N758, -, -⟩ := id Af
    obtain ⟨T759, h759, X759, e759, W759, st759⟩ := putF X755 hx hZ hown (host := "") (Or.inl (own_hw hw 49 rfl)) Via.refl e755 Fc E1 (Or.inl (own_hw hw 50 rfl)) (own_hw hw 32 rfl) (ty := .int) (by decide) rfl rfl (g := (mkF m 43 #[sR a1, sR fa, sI 0, sR f0, sR g0, sU] [(.int (0 : Int32)), (.ref a1)])) rfl rfl (hb hby dp23_2_43)
    have P760 : Rg p e below (T759.setTop (mkF m 46 #[sR a1, sR fa, sI 0, sR f0, sR g0, sU] [])) B0 := fun t k => P756 t (by
      refine X755.arraylength hx (by rw [e755]; exact Ar757.1) (State.isArrayOf_alike hZ.alike Ar757.2.1) (g := (mkF m 19 #[sR a1, sR fa, sI 0, sR f0, sR g0, sU] [(.ref P)])) rfl rfl (hb hby dp23_2_19) _ ?_
      rw [len_of S757 N757]
      show Sg p e below (T755.setTop (mkF m 20 #[sR a1, sR fa, sI 0, sR f0, sR g0, sU] [(.int M)])) _
      refine XS.aloadN X755.here hx rfl (hb hby dp23_2_20) rfl rfl ?_
      show Sg p e below (T755.setTop (mkF m 21 #[sR a1, sR fa, sI 0, sR f0, sR g0, sU] [(.ref f0), (.int M)])) _
      refine X755.arraylength hx (by rw [e755]; exact Ar758.1) (State.isArrayOf_alike hZ.alike Ar758.2.1) (g := (mkF m 21 #[sR a1, sR fa, sI 0, sR f0, sR g0, sU] [(.ref f0), (.int M)])) rfl rfl (hb hby dp23_2_21) _ ?_
      rw [len_of S758 N758]
      show Sg p e below (T755.setTop (mkF m 22 #[sR a1, sR fa, sI 0, sR f0, sR g0, sU] [(.int (1 : Int32)), (.int M)])) _
      refine XS.icmpYes X755.here hx rfl (pc0 := 22) (pc' := 41) rfl (hb hby dp23_2_22) rfl (flt (show ¬ (M < (1 : Int32)) from hlt9)).2.1 (by decide) (by decide) ?_
      refine XS.aloadN X755.here hx rfl (hb hby dp23_2_41) rfl rfl ?_
      refine XS.iconst X755.here hx rfl (hb hby dp23_2_42) ?_
      show Sg p e below (T755.setTop (mkF m 43 #[sR a1, sR fa, sI 0, sR f0, sR g0, sU] [(.int (0 : Int32)), (.ref a1)])) _
      exact st759 _ k)
    have f761 := Fc.same W759
    have N762 := Fr.snoc X759 N0 g_a1
    have Z763 : n0 ≤ h759.size := Nat.le_trans Z0 (Keep.of_wr W759).1
    have K764 : Keep h0 h759 [a1, P, W] := (Keep.refl h0 [a1, P, W]).wr W759 (Or.inl (List.mem_of_getElem? (i := 0) rfl))
    have f765 := (E1.wr W759)
    have f766 := (EP.wr W759)
    have f767 := (EW1.wr W759)
    have f768 := (EEg.wr W759)
    have f769 := (Fp.other W759 (Or.inr (slot_ne (Or.inl (own_hw hw 39 rfl)) (Or.inl (own_hw hw 50 rfl)) (by decide) (t := (.array .int)) (t' := .int) (by decide) (by decide))))
    have f770 := (Fw.other W759 (Or.inr (slot_ne (Or.inl (own_hw hw 41 rfl)) (Or.inl (own_hw hw 50 rfl)) (by decide) (t := (.array .long)) (t' := .int) (by decide) (by decide))))
    have f771 := (Af.other W759 (Exa.ne EEf E1 (by decide)))
    have f772 := (Ag.other W759 (Exa.ne EEg E1 (by decide)))
    have f773 := (AP.other W759 (Exa.ne EP E1 (by decide)))
    have f774 := (AW.other W759 (Exa.ne EW1 E1 (by decide)))
    have P775 : Rg p e below (T759.setTop (mkF m 49 #[sR a1, sR fa, sI 0, sR f0, sR g0, sI 0] [])) B0 := fun t k => P760 t (by
      refine XS.iconst X759.here hx rfl (hb hby dp23_2_46) ?_
      refine XS.istore X759.here hx rfl (hb hby dp23_2_47) rfl (l' := #[sR a1, sR fa, sI 0, sR f0, sR g0, sI 0]) rfl ?_
      show Sg p e below (T759.setTop (mkF m 49 #[sR a1, sR fa, sI 0, sR f0, sR g0, sI 0] [])) _
      exact k)
    obtain ⟨T776, h776, L776, X776, e776, Nq776, K776, u776_0, u776_1, u776_2, u776_3, u776_4, st776⟩ := pc_cpt a1 fa f0 g0 P W kf kg kP kW (0 : Int32) (1 : Int32) M (0 : Int32) (0 : Int32) x0 y0 [(.int x0)] [(.long y0)] ((u0 :: ur).map Value.int) ((v0 :: vr).map Value.long) 0 X759 hx hZ hw hby hml hown e759 N762 Z763 (Nat.le_of_ble_eq_true rfl) (Nat.le_of_ble_eq_true rfl) (by decide) (by decide) g_a1 g_P g_W f765 f766 f767 f768 f769 f770 f761 f771 f772 f773 f774 (by decide) ⟨by decide, by decide⟩ rfl rfl (hnz y0 (by simp)) (own_inb hM (k := 0) (by simp) hus) rfl (by simp) (by simp)
    have P777 : Rg p e below (T776.setTop (mkF m 49 #[sR a1, sR fa, sI 0, sR f0, sR g0, sI 1] [])) B0 := fun t k => P775 t (by
      exact st776 _ k)
    have Z778 : n0 ≤ h776.size := Nat.le_trans Z763 K776.1
    have K779 : Keep h0 h776 [a1, P, W] := K764.trans K776 ((allS (Or.inl (List.mem_of_getElem? (i := 0) rfl)) (allS (Or.inl (List.mem_of_getElem? (i := 1) rfl)) (allS (Or.inl (List.mem_of_getElem? (i := 2) rfl)) all0))))
    have AP776 : Arv Z h776 P kP .int M ((x0 :: ur).map Value.int) (.int (0 : Int32)) := u776_3
    have AW776 : Arv Z h776 W kW .long M ((y0 :: vr).map Value.long) (.long (0 : Int64)) := u776_4
    have f780 := (f771.keep K776 (ninS (Exa.ne EEf E1 (by decide)) (ninS nfP (ninS (Exa.ne EEf EW1 (by decide)) nin0))))
    obtain ⟨cl781, Ar781, -, S781, N781, -, -⟩ := id f780
    obtain ⟨fs782, hr782, hrun782, hended782, hW782, hsame782⟩ := X776.leave (v := none) (fun _ => rfl)
    refine ⟨_, _, pre0 _ (P777 _ ?_), hrun782, hended782, _, _, rfl, ?_, ⟨⟨_, rfl⟩, hW782, hsame782.mono (Nat.le_of_ble_eq_true rfl) (Nat.le_of_ble_eq_true rfl)⟩⟩
    · show Sg p e below (T776.setTop (mkF m 49 #[sR a1, sR fa, sI 0, sR f0, sR g0, sI 1] [])) _
      refine XS.iload X776.here hx rfl (hb hby dp23_2_49) rfl ?_
      refine XS.aloadN X776.here hx rfl (hb hby dp23_2_51) rfl rfl ?_
      show Sg p e below (T776.setTop (mkF m 52 #[sR a1, sR fa, sI 0, sR f0, sR g0, sI 1] [(.ref f0), (.int (1 : Int32))])) _
      refine X776.arraylength hx (by rw [e776]; exact Ar781.1) (State.isArrayOf_alike hZ.alike Ar781.2.1) (g := (mkF m 52 #[sR a1, sR fa, sI 0, sR f0, sR g0, sI 1] [(.ref f0), (.int (1 : Int32))])) rfl rfl (hb hby dp23_2_52) _ ?_
      rw [len_of S781 N781]
      show Sg p e below (T776.setTop (mkF m 53 #[sR a1, sR fa, sI 0, sR f0, sR g0, sI 1] [(.int (1 : Int32)), (.int (1 : Int32))])) _
      refine XS.icmpYes X776.here hx rfl (pc0 := 53) (pc' := 106) rfl (hb hby dp23_2_53) rfl (flt (show ¬ ((1 : Int32) < (1 : Int32)) from (by decide))).2.1 (by decide) (by decide) ?_
      show Sg p e below (T776.setTop (mkF m 106 #[sR a1, sR fa, sI 0, sR f0, sR g0, sI 1] [])) _
      exact X776.returnOut hx Bd.returns (hb hby dp23_2_106) hr782
    · show Q_sti Z a1 P W kP kW M (1 : Int32) [x0] (u0 :: ur) [y0] (v0 :: vr) h0 n0 _ T776.heap _
      rw [e776]
      exact ⟨rfl, Nq776, K779, u776_2, u776_0, u776_1, AP776, AW776⟩
  · skip
    obtain ⟨y0, y1, rfl⟩ := own_len2 hwl
    have hN' : N = (2 : Int32) := hN
    subst hN'
    have hlt9 : ¬ M < (2 : Int32) := fun z => Nat.not_lt.mpr hle ((own_lenlt (k := 2) hM hus (by decide)).mp z)
    obtain ⟨u0, u1, ur, rfl⟩ := own_cons.2.1 hle
    obtain ⟨v0, v1, vr, rfl⟩ := (own_cons (us := vs)).2.1 (by rw [hvs]; exact hle)
    obtain ⟨T783, X783, e783, st783⟩ := getF X0 hx hZ hown (Or.inr (own_hw hw 47 rfl)) Via.refl e0 Ffp (g := (mkF m 1 #[sR a1, sR fa, sI 0, sU, sU, sU] [(.ref fa)])) rfl rfl (hb hby dp23_2_1)
    have P784 : Rg p e below (T783.setTop (mkF m 4 #[sR a1, sR fa, sI 0, sU, sU, sU] [(.ref PP)])) B0 := fun t k => P0 t (by
      refine XS.aloadN X0.here hx rfl (hb hby dp23_2_0) rfl rfl ?_
      show Sg p e below (s₁.setTop (mkF m 1 #[sR a1, sR fa, sI 0, sU, sU, sU] [(.ref fa)])) _
      exact st783 _ k)
    obtain ⟨cl785, Ar785, -, S785, N785, H785, -⟩ := id APP
    have hin785 : ¬ ((0 : Int32) < 0 ∨ cl785.slots.size ≤ ((0 : Int32)).toNatClampNeg) := inb_of S785 ⟨by decide, by decide⟩
    obtain ⟨T786, X786, e786, st786⟩ := getF X783 hx hZ hown (Or.inr (own_hw hw 48 rfl)) Via.refl e783 Ffw (g := (mkF m 8 #[sR a1, sR fa, sI 0, sR f0, sU, sU] [(.ref fa)])) rfl rfl (hb hby dp23_2_8)
    have P787 : Rg p e below (T786.setTop (mkF m 11 #[sR a1, sR fa, sI 0, sR f0, sU, sU] [(.ref WW)])) B0 := fun t k => P784 t (by
      refine XS.iloadN X783.here hx rfl (hb hby dp23_2_4) rfl ?_
      show Sg p e below (T783.setTop (mkF m 5 #[sR a1, sR fa, sI 0, sU, sU, sU] [(.int (0 : Int32)), (.ref PP)])) _
      refine X783.aaload hx (j := (0 : Int32)) (v := (.ref f0)) (by rw [e783]; exact Ar785.1) (State.isArrayOf_alike hZ.alike Ar785.2.1) rfl Ar785.2.2 hin785 (H785.at hin785 rfl) (g := (mkF m 5 #[sR a1, sR fa, sI 0, sU, sU, sU] [(.int (0 : Int32)), (.ref PP)])) rfl rfl (hb hby dp23_2_5) _ ?_
      show Sg p e below (T783.setTop (mkF m 6 #[sR a1, sR fa, sI 0, sU, sU, sU] [(.ref f0)])) _
      refine XS.astoreN X783.here hx rfl (hb hby dp23_2_6) rfl rfl (l' := #[sR a1, sR fa, sI 0, sR f0, sU, sU]) rfl ?_
      refine XS.aloadN X783.here hx rfl (hb hby dp23_2_7) rfl rfl ?_
      show Sg p e below (T783.setTop (mkF m 8 #[sR a1, sR fa, sI 0, sR f0, sU, sU] [(.ref fa)])) _
      exact st786 _ k)
    obtain ⟨cl788, Ar788, -, S788, N788, H788, -⟩ := id AWW
    have hin788 : ¬ ((0 : Int32) < 0 ∨ cl788.slots.size ≤ ((0 : Int32)).toNatClampNeg) := inb_of S788 ⟨by decide, by decide⟩
    obtain ⟨T789, X789, e789, st789⟩ := getF X786 hx hZ hown (host := "") (Or.inl (own_hw hw 38 rfl)) Via.refl e786 Fp (g := (mkF m 16 #[sR a1, sR fa, sI 0, sR f0, sR g0, sU] [(.ref a1)])) rfl rfl (hb hby dp23_2_16)
    have P790 : Rg p e below (T789.setTop (mkF m 19 #[sR a1, sR fa, sI 0, sR f0, sR g0, sU] [(.ref P)])) B0 := fun t k => P787 t (by
      refine XS.iloadN X786.here hx rfl (hb hby dp23_2_11) rfl ?_
      show Sg p e below (T786.setTop (mkF m 12 #[sR a1, sR fa, sI 0, sR f0, sU, sU] [(.int (0 : Int32)), (.ref WW)])) _
      refine X786.aaload hx (j := (0 : Int32)) (v := (.ref g0)) (by rw [e786]; exact Ar788.1) (State.isArrayOf_alike hZ.alike Ar788.2.1) rfl Ar788.2.2 hin788 (H788.at hin788 rfl) (g := (mkF m 12 #[sR a1, sR fa, sI 0, sR f0, sU, sU] [(.int (0 : Int32)), (.ref WW)])) rfl rfl (hb hby dp23_2_12) _ ?_
      show Sg p e below (T786.setTop (mkF m 13 #[sR a1, sR fa, sI 0, sR f0, sU, sU] [(.ref g0)])) _
      refine XS.astore X786.here hx rfl (hb hby dp23_2_13) rfl rfl (l' := #[sR a1, sR fa, sI 0, sR f0, sR g0, sU]) rfl ?_
      refine XS.aloadN X786.here hx rfl (hb hby dp23_2_15) rfl rfl ?_
      show Sg p e below (T786.setTop (mkF m 16 #[sR a1, sR fa, sI 0, sR f0, sR g0, sU] [(.ref a1)])) _
      exact st789 _ k)
    obtain ⟨cl791, Ar791, -, S791, N791, -, -⟩ := id AP
    obtain ⟨cl792, Ar792, -, S792, N792, -, -⟩ := id Af
    obtain ⟨T793, h793, X793, e793, W793, st793⟩ := putF X789 hx hZ hown (host := "") (Or.inl (own_hw hw 49 rfl)) Via.refl e789 Fc E1 (Or.inl (own_hw hw 50 rfl)) (own_hw hw 32 rfl) (ty := .int) (by decide) rfl rfl (g := (mkF m 43 #[sR a1, sR fa, sI 0, sR f0, sR g0, sU] [(.int (0 : Int32)), (.ref a1)])) rfl rfl (hb hby dp23_2_43)
    have P794 : Rg p e below (T793.setTop (mkF m 46 #[sR a1, sR fa, sI 0, sR f0, sR g0, sU] [])) B0 := fun t k => P790 t (by
      refine X789.arraylength hx (by rw [e789]; exact Ar791.1) (State.isArrayOf_alike hZ.alike Ar791.2.1) (g := (mkF m 19 #[sR a1, sR fa, sI 0, sR f0, sR g0, sU] [(.ref P)])) rfl rfl (hb hby dp23_2_19) _ ?_
      rw [len_of S791 N791]
      show Sg p e below (T789.setTop (mkF m 20 #[sR a1, sR fa, sI 0, sR f0, sR g0, sU] [(.int M)])) _
      refine XS.aloadN X789.here hx rfl (hb hby dp23_2_20) rfl rfl ?_
      show Sg p e below (T789.setTop (mkF m 21 #[sR a1, sR fa, sI 0, sR f0, sR g0, sU] [(.ref f0), (.int M)])) _
      refine X789.arraylength hx (by rw [e789]; exact Ar792.1) (State.isArrayOf_alike hZ.alike Ar792.2.1) (g := (mkF m 21 #[sR a1, sR fa, sI 0, sR f0, sR g0, sU] [(.ref f0), (.int M)])) rfl rfl (hb hby dp23_2_21) _ ?_
      rw [len_of S792 N792]
      show Sg p e below (T789.setTop (mkF m 22 #[sR a1, sR fa, sI 0, sR f0, sR g0, sU] [(.int (2 : Int32)), (.int M)])) _
      refine XS.icmpYes X789.here hx rfl (pc0 := 22) (pc' := 41) rfl (hb hby dp23_2_22) rfl (flt (show ¬ (M < (2 : Int32)) from hlt9)).2.1 (by decide) (by decide) ?_
      refine XS.aloadN X789.here hx rfl (hb hby dp23_2_41) rfl rfl ?_
      refine XS.iconst X789.here hx rfl (hb hby dp23_2_42) ?_
      show Sg p e below (T789.setTop (mkF m 43 #[sR a1, sR fa, sI 0, sR f0, sR g0, sU] [(.int (0 : Int32)), (.ref a1)])) _
      exact st793 _ k)
    have f795 := Fc.same W793
    have N796 := Fr.snoc X793 N0 g_a1
    have Z797 : n0 ≤ h793.size := Nat.le_trans Z0 (Keep.of_wr W793).1
    have K798 : Keep h0 h793 [a1, P, W] := (Keep.refl h0 [a1, P, W]).wr W793 (Or.inl (List.mem_of_getElem? (i := 0) rfl))
    have f799 := (E1.wr W793)
    have f800 := (EP.wr W793)
    have f801 := (EW1.wr W793)
    have f802 := (EEg.wr W793)
    have f803 := (Fp.other W793 (Or.inr (slot_ne (Or.inl (own_hw hw 39 rfl)) (Or.inl (own_hw hw 50 rfl)) (by decide) (t := (.array .int)) (t' := .int) (by decide) (by decide))))
    have f804 := (Fw.other W793 (Or.inr (slot_ne (Or.inl (own_hw hw 41 rfl)) (Or.inl (own_hw hw 50 rfl)) (by decide) (t := (.array .long)) (t' := .int) (by decide) (by decide))))
    have f805 := (Af.other W793 (Exa.ne EEf E1 (by decide)))
    have f806 := (Ag.other W793 (Exa.ne EEg E1 (by decide)))
    have f807 := (AP.other W793 (Exa.ne EP E1 (by decide)))
    have f808 := (AW.other W793 (Exa.ne EW1 E1 (by decide)))
    have P809 : Rg p e below (T793.setTop (mkF m 49 #[sR a1, sR fa, sI 0, sR f0, sR g0, sI 0] [])) B0 := fun t k => P794 t (by
      refine XS.iconst X793.here hx rfl (hb hby dp23_2_46) ?_
      refine XS.istore X793.here hx rfl (hb hby dp23_2_47) rfl (l' := #[sR a1, sR fa, sI 0, sR f0, sR g0, sI 0]) rfl ?_
      show Sg p e below (T793.setTop (mkF m 49 #[sR a1, sR fa, sI 0, sR f0, sR g0, sI 0] [])) _
      exact k)
    obtain ⟨T810, h810, L810, X810, e810, Nq810, K810, u810_0, u810_1, u810_2, u810_3, u810_4, st810⟩ := pc_cpt a1 fa f0 g0 P W kf kg kP kW (0 : Int32) (2 : Int32) M (0 : Int32) (0 : Int32) x0 y0 [(.int x0), (.int x1)] [(.long y0), (.long y1)] ((u0 :: u1 :: ur).map Value.int) ((v0 :: v1 :: vr).map Value.long) 0 X793 hx hZ hw hby hml hown e793 N796 Z797 (Nat.le_of_ble_eq_true rfl) (Nat.le_of_ble_eq_true rfl) (by decide) (by decide) g_a1 g_P g_W f799 f800 f801 f802 f803 f804 f795 f805 f806 f807 f808 (by decide) ⟨by decide, by decide⟩ rfl rfl (hnz y0 (by simp)) (own_inb hM (k := 0) (by simp) hus) rfl (by simp) (by simp)
    have P811 : Rg p e below (T810.setTop (mkF m 49 #[sR a1, sR fa, sI 0, sR f0, sR g0, sI 1] [])) B0 := fun t k => P809 t (by
      exact st810 _ k)
    have Z812 : n0 ≤ h810.size := Nat.le_trans Z797 K810.1
    have K813 : Keep h0 h810 [a1, P, W] := K798.trans K810 ((allS (Or.inl (List.mem_of_getElem? (i := 0) rfl)) (allS (Or.inl (List.mem_of_getElem? (i := 1) rfl)) (allS (Or.inl (List.mem_of_getElem? (i := 2) rfl)) all0))))
    have AP810 : Arv Z h810 P kP .int M ((x0 :: u1 :: ur).map Value.int) (.int (0 : Int32)) := u810_3
    have AW810 : Arv Z h810 W kW .long M ((y0 :: v1 :: vr).map Value.long) (.long (0 : Int64)) := u810_4
    have f814 := (f799.keep K810)
    have f815 := (f800.keep K810)
    have f816 := (f801.keep K810)
    have f817 := (f802.keep K810)
    have f818 := (f805.keep K810 (ninS (Exa.ne EEf E1 (by decide)) (ninS nfP (ninS (Exa.ne EEf EW1 (by decide)) nin0))))
    have f819 := (f806.keep K810 (ninS (Exa.ne EEg E1 (by decide)) (ninS (Exa.ne EEg EP (by decide)) (ninS ngW nin0))))
    obtain ⟨T820, h820, L820, X820, e820, Nq820, K820, u820_0, u820_1, u820_2, u820_3, u820_4, st820⟩ := pc_cpt a1 fa f0 g0 P W kf kg kP kW (0 : Int32) (2 : Int32) M (1 : Int32) (1 : Int32) x1 y1 [(.int x0), (.int x1)] [(.long y0), (.long y1)] ((x0 :: u1 :: ur).map Value.int) ((y0 :: v1 :: vr).map Value.long) 1 X810 hx hZ hw hby hml hown e810 Nq810 Z812 (Nat.le_of_ble_eq_true rfl) (Nat.le_of_ble_eq_true rfl) (by decide) (by decide) g_a1 g_P g_W f814 f815 f816 f817 u810_0 u810_1 u810_2 f818 f819 AP810 AW810 (by decide) ⟨by decide, by decide⟩ rfl rfl (hnz y1 (by simp)) (own_inb hM (k := 1) (by simp) hus) rfl (by simp) (by simp)
    have P821 : Rg p e below (T820.setTop (mkF m 49 #[sR a1, sR fa, sI 0, sR f0, sR g0, sI 2] [])) B0 := fun t k => P811 t (by
      exact st820 _ k)
    have Z822 : n0 ≤ h820.size := Nat.le_trans Z812 K820.1
    have K823 : Keep h0 h820 [a1, P, W] := K813.trans K820 ((allS (Or.inl (List.mem_of_getElem? (i := 0) rfl)) (allS (Or.inl (List.mem_of_getElem? (i := 1) rfl)) (allS (Or.inl (List.mem_of_getElem? (i := 2) rfl)) all0))))
    have AP820 : Arv Z h820 P kP .int M ((x0 :: x1 :: ur).map Value.int) (.int (0 : Int32)) := u820_3
    have AW820 : Arv Z h820 W kW .long M ((y0 :: y1 :: vr).map Value.long) (.long (0 : Int64)) := u820_4
    have f824 := (f818.keep K820 (ninS (Exa.ne EEf E1 (by decide)) (ninS nfP (ninS (Exa.ne EEf EW1 (by decide)) nin0))))
    obtain ⟨cl825, Ar825, -, S825, N825, -, -⟩ := id f824
    obtain ⟨fs826, hr826, hrun826, hended826, hW826, hsame826⟩ := X820.leave (v := none) (fun _ => rfl)
    refine ⟨_, _, pre0 _ (P821 _ ?_), hrun826, hended826, _, _, rfl, ?_, ⟨⟨_, rfl⟩, hW826, hsame826.mono (Nat.le_of_ble_eq_true rfl) (Nat.le_of_ble_eq_true rfl)⟩⟩
    · show Sg p e below (T820.setTop (mkF m 49 #[sR a1, sR fa, sI 0, sR f0, sR g0, sI 2] [])) _
      refine XS.iload X820.here hx rfl (hb hby dp23_2_49) rfl ?_
      refine XS.aloadN X820.here hx rfl (hb hby dp23_2_51) rfl rfl ?_
      show Sg p e below (T820.setTop (mkF m 52 #[sR a1, sR fa, sI 0, sR f0, sR g0, sI 2] [(.ref f0), (.int (2 : Int32))])) _
      refine X820.arraylength hx (by rw [e820]; exact Ar825.1) (State.isArrayOf_alike hZ.alike Ar825.2.1) (g := (mkF m 52 #[sR a1, sR fa, sI 0, sR f0, sR g0, sI 2] [(.ref f0), (.int (2 : Int32))])) rfl rfl (hb hby dp23_2_52) _ ?_
      rw [len_of S825 N825]
      show Sg p e below (T820.setTop (mkF m 53 #[sR a1, sR fa, sI 0, sR f0, sR g0, sI 2] [(.int (2 : Int32)), (.int (2 : Int32))])) _
      refine XS.icmpYes X820.here hx rfl (pc0 := 53) (pc' := 106) rfl (hb hby dp23_2_53) rfl (flt (show ¬ ((2 : Int32) < (2 : Int32)) from (by decide))).2.1 (by decide) (by decide) ?_
      show Sg p e below (T820.setTop (mkF m 106 #[sR a1, sR fa, sI 0, sR f0, sR g0, sI 2] [])) _
      exact X820.returnOut hx Bd.returns (hb hby dp23_2_106) hr826
    · show Q_sti Z a1 P W kP kW M (2 : Int32) [x0, x1] (u0 :: u1 :: ur) [y0, y1] (v0 :: v1 :: vr) h0 n0 _ T820.heap _
      rw [e820]
      exact ⟨rfl, Nq820, K823, u820_2, u820_0, u820_1, AP820, AW820⟩
  · skip
    obtain ⟨y0, y1, y2, rfl⟩ := own_len3 hwl
    have hN' : N = (3 : Int32) := hN
    subst hN'
    have hlt9 : ¬ M < (3 : Int32) := fun z => Nat.not_lt.mpr hle ((own_lenlt (k := 3) hM hus (by decide)).mp z)
    obtain ⟨u0, u1, u2, ur, rfl⟩ := own_cons.2.2 hle
    obtain ⟨v0, v1, v2, vr, rfl⟩ := (own_cons (us := vs)).2.2 (by rw [hvs]; exact hle)
    obtain ⟨T827, X827, e827, st827⟩ := getF X0 hx hZ hown (Or.inr (own_hw hw 47 rfl)) Via.refl e0 Ffp (g := (mkF m 1 #[sR a1, sR fa, sI 0, sU, sU, sU] [(.ref fa)])) rfl rfl (hb hby dp23_2_1)
    have P828 : Rg p e below (T827.setTop (mkF m 4 #[sR a1, sR fa, sI 0, sU, sU, sU] [(.ref PP)])) B0 := fun t k => P0 t (by
      refine XS.aloadN X0.here hx rfl (hb hby dp23_2_0) rfl rfl ?_
      show Sg p e below (s₁.setTop (mkF m 1 #[sR a1, sR fa, sI 0, sU, sU, sU] [(.ref fa)])) _
      exact st827 _ k)
    obtain ⟨cl829, Ar829, -, S829, N829, H829, -⟩ := id APP
    have hin829 : ¬ ((0 : Int32) < 0 ∨ cl829.slots.size ≤ ((0 : Int32)).toNatClampNeg) := inb_of S829 ⟨by decide, by decide⟩
    obtain ⟨T830, X830, e830, st830⟩ := getF X827 hx hZ hown (Or.inr (own_hw hw 48 rfl)) Via.refl e827 Ffw (g := (mkF m 8 #[sR a1, sR fa, sI 0, sR f0, sU, sU] [(.ref fa)])) rfl rfl (hb hby dp23_2_8)
    have P831 : Rg p e below (T830.setTop (mkF m 11 #[sR a1, sR fa, sI 0, sR f0, sU, sU] [(.ref WW)])) B0 := fun t k => P828 t (by
      refine XS.iloadN X827.here hx rfl (hb hby dp23_2_4) rfl ?_
      show Sg p e below (T827.setTop (mkF m 5 #[sR a1, sR fa, sI 0, sU, sU, sU] [(.int (0 : Int32)), (.ref PP)])) _
      refine X827.aaload hx (j := (0 : Int32)) (v := (.ref f0)) (by rw [e827]; exact Ar829.1) (State.isArrayOf_alike hZ.alike Ar829.2.1) rfl Ar829.2.2 hin829 (H829.at hin829 rfl) (g := (mkF m 5 #[sR a1, sR fa, sI 0, sU, sU, sU] [(.int (0 : Int32)), (.ref PP)])) rfl rfl (hb hby dp23_2_5) _ ?_
      show Sg p e below (T827.setTop (mkF m 6 #[sR a1, sR fa, sI 0, sU, sU, sU] [(.ref f0)])) _
      refine XS.astoreN X827.here hx rfl (hb hby dp23_2_6) rfl rfl (l' := #[sR a1, sR fa, sI 0, sR f0, sU, sU]) rfl ?_
      refine XS.aloadN X827.here hx rfl (hb hby dp23_2_7) rfl rfl ?_
      show Sg p e below (T827.setTop (mkF m 8 #[sR a1, sR fa, sI 0, sR f0, sU, sU] [(.ref fa)])) _
      exact st830 _ k)
    obtain ⟨cl832, Ar832, -, S832, N832, H832, -⟩ := id AWW
    have hin832 : ¬ ((0 : Int32) < 0 ∨ cl832.slots.size ≤ ((0 : Int32)).toNatClampNeg) := inb_of S832 ⟨by decide, by decide⟩
    obtain ⟨T833, X833, e833, st833⟩ := getF X830 hx hZ hown (host := "") (Or.inl (own_hw hw 38 rfl)) Via.refl e830 Fp (g := (mkF m 16 #[sR a1, sR fa, sI 0, sR f0, sR g0, sU] [(.ref a1)])) rfl rfl (hb hby dp23_2_16)
    have P834 : Rg p e below (T833.setTop (mkF m 19 #[sR a1, sR fa, sI 0, sR f0, sR g0, sU] [(.ref P)])) B0 := fun t k => P831 t (by
      refine XS.iloadN X830.here hx rfl (hb hby dp23_2_11) rfl ?_
      show Sg p e below (T830.setTop (mkF m 12 #[sR a1, sR fa, sI 0, sR f0, sU, sU] [(.int (0 : Int32)), (.ref WW)])) _
      refine X830.aaload hx (j := (0 : Int32)) (v := (.ref g0)) (by rw [e830]; exact Ar832.1) (State.isArrayOf_alike hZ.alike Ar832.2.1) rfl Ar832.2.2 hin832 (H832.at hin832 rfl) (g := (mkF m 12 #[sR a1, sR fa, sI 0, sR f0, sU, sU] [(.int (0 : Int32)), (.ref WW)])) rfl rfl (hb hby dp23_2_12) _ ?_
      show Sg p e below (T830.setTop (mkF m 13 #[sR a1, sR fa, sI 0, sR f0, sU, sU] [(.ref g0)])) _
      refine XS.astore X830.here hx rfl (hb hby dp23_2_13) rfl rfl (l' := #[sR a1, sR fa, sI 0, sR f0, sR g0, sU]) rfl ?_
      refine XS.aloadN X830.here hx rfl (hb hby dp23_2_15) rfl rfl ?_
      show Sg p e below (T830.setTop (mkF m 16 #[sR a1, sR fa, sI 0, sR f0, sR g0, sU] [(.ref a1)])) _
      exact st833 _ k)
    obtain ⟨cl835, Ar835, -, S835, N835, -, -⟩ := id AP
    obtain ⟨cl836, Ar836, -, S836, N836, -, -⟩ := id Af
    obtain ⟨T837, h837, X837, e837, W837, st837⟩ := putF X833 hx hZ hown (host := "") (Or.inl (own_hw hw 49 rfl)) Via.refl e833 Fc E1 (Or.inl (own_hw hw 50 rfl)) (own_hw hw 32 rfl) (ty := .int) (by decide) rfl rfl (g := (mkF m 43 #[sR a1, sR fa, sI 0, sR f0, sR g0, sU] [(.int (0 : Int32)), (.ref a1)])) rfl rfl (hb hby dp23_2_43)
    have P838 : Rg p e below (T837.setTop (mkF m 46 #[sR a1, sR fa, sI 0, sR f0, sR g0, sU] [])) B0 := fun t k => P834 t (by
      refine X833.arraylength hx (by rw [e833]; exact Ar835.1) (State.isArrayOf_alike hZ.alike Ar835.2.1) (g := (mkF m 19 #[sR a1, sR fa, sI 0, sR f0, sR g0, sU] [(.ref P)])) rfl rfl (hb hby dp23_2_19) _ ?_
      rw [len_of S835 N835]
      show Sg p e below (T833.setTop (mkF m 20 #[sR a1, sR fa, sI 0, sR f0, sR g0, sU] [(.int M)])) _
      refine XS.aloadN X833.here hx rfl (hb hby dp23_2_20) rfl rfl ?_
      show Sg p e below (T833.setTop (mkF m 21 #[sR a1, sR fa, sI 0, sR f0, sR g0, sU] [(.ref f0), (.int M)])) _
      refine X833.arraylength hx (by rw [e833]; exact Ar836.1) (State.isArrayOf_alike hZ.alike Ar836.2.1) (g := (mkF m 21 #[sR a1, sR fa, sI 0, sR f0, sR g0, sU] [(.ref f0), (.int M)])) rfl rfl (hb hby dp23_2_21) _ ?_
      rw [len_of S836 N836]
      show Sg p e below (T833.setTop (mkF m 22 #[sR a1, sR fa, sI 0, sR f0, sR g0, sU] [(.int (3 : Int32)), (.int M)])) _
      refine XS.icmpYes X833.here hx rfl (pc0 := 22) (pc' := 41) rfl (hb hby dp23_2_22) rfl (flt (show ¬ (M < (3 : Int32)) from hlt9)).2.1 (by decide) (by decide) ?_
      refine XS.aloadN X833.here hx rfl (hb hby dp23_2_41) rfl rfl ?_
      refine XS.iconst X833.here hx rfl (hb hby dp23_2_42) ?_
      show Sg p e below (T833.setTop (mkF m 43 #[sR a1, sR fa, sI 0, sR f0, sR g0, sU] [(.int (0 : Int32)), (.ref a1)])) _
      exact st837 _ k)
    have f839 := Fc.same W837
    have N840 := Fr.snoc X837 N0 g_a1
    have Z841 : n0 ≤ h837.size := Nat.le_trans Z0 (Keep.of_wr W837).1
    have K842 : Keep h0 h837 [a1, P, W] := (Keep.refl h0 [a1, P, W]).wr W837 (Or.inl (List.mem_of_getElem? (i := 0) rfl))
    have f843 := (E1.wr W837)
    have f844 := (EP.wr W837)
    have f845 := (EW1.wr W837)
    have f846 := (EEg.wr W837)
    have f847 := (Fp.other W837 (Or.inr (slot_ne (Or.inl (own_hw hw 39 rfl)) (Or.inl (own_hw hw 50 rfl)) (by decide) (t := (.array .int)) (t' := .int) (by decide) (by decide))))
    have f848 := (Fw.other W837 (Or.inr (slot_ne (Or.inl (own_hw hw 41 rfl)) (Or.inl (own_hw hw 50 rfl)) (by decide) (t := (.array .long)) (t' := .int) (by decide) (by decide))))
    have f849 := (Af.other W837 (Exa.ne EEf E1 (by decide)))
    have f850 := (Ag.other W837 (Exa.ne EEg E1 (by decide)))
    have f851 := (AP.other W837 (Exa.ne EP E1 (by decide)))
    have f852 := (AW.other W837 (Exa.ne EW1 E1 (by decide)))
    have P853 : Rg p e below (T837.setTop (mkF m 49 #[sR a1, sR fa, sI 0, sR f0, sR g0, sI 0] [])) B0 := fun t k => P838 t (by
      refine XS.iconst X837.here hx rfl (hb hby dp23_2_46) ?_
      refine XS.istore X837.here hx rfl (hb hby dp23_2_47) rfl (l' := #[sR a1, sR fa, sI 0, sR f0, sR g0, sI 0]) rfl ?_
      show Sg p e below (T837.setTop (mkF m 49 #[sR a1, sR fa, sI 0, sR f0, sR g0, sI 0] [])) _
      exact k)
    obtain ⟨T854, h854, L854, X854, e854, Nq854, K854, u854_0, u854_1, u854_2, u854_3, u854_4, st854⟩ := pc_cpt a1 fa f0 g0 P W kf kg kP kW (0 : Int32) (3 : Int32) M (0 : Int32) (0 : Int32) x0 y0 [(.int x0), (.int x1), (.int x2)] [(.long y0), (.long y1), (.long y2)] ((u0 :: u1 :: u2 :: ur).map Value.int) ((v0 :: v1 :: v2 :: vr).map Value.long) 0 X837 hx hZ hw hby hml hown e837 N840 Z841 (Nat.le_of_ble_eq_true rfl) (Nat.le_of_ble_eq_true rfl) (by decide) (by decide) g_a1 g_P g_W f843 f844 f845 f846 f847 f848 f839 f849 f850 f851 f852 (by decide) ⟨by decide, by decide⟩ rfl rfl (hnz y0 (by simp)) (own_inb hM (k := 0) (by simp) hus) rfl (by simp) (by simp)
    have P855 : Rg p e below (T854.setTop (mkF m 49 #[sR a1, sR fa, sI 0, sR f0, sR g0, sI 1] [])) B0 := fun t k => P853 t (by
      exact st854 _ k)
    have Z856 : n0 ≤ h854.size := Nat.le_trans Z841 K854.1
    have K857 : Keep h0 h854 [a1, P, W] := K842.trans K854 ((allS (Or.inl (List.mem_of_getElem? (i := 0) rfl)) (allS (Or.inl (List.mem_of_getElem? (i := 1) rfl)) (allS (Or.inl (List.mem_of_getElem? (i := 2) rfl)) all0))))
    have AP854 : Arv Z h854 P kP .int M ((x0 :: u1 :: u2 :: ur).map Value.int) (.int (0 : Int32)) := u854_3
    have AW854 : Arv Z h854 W kW .long M ((y0 :: v1 :: v2 :: vr).map Value.long) (.long (0 : Int64)) := u854_4
    have f858 := (f843.keep K854)
    have f859 := (f844.keep K854)
    have f860 := (f845.keep K854)
    have f861 := (f846.keep K854)
    have f862 := (f849.keep K854 (ninS (Exa.ne EEf E1 (by decide)) (ninS nfP (ninS (Exa.ne EEf EW1 (by decide)) nin0))))
    have f863 := (f850.keep K854 (ninS (Exa.ne EEg E1 (by decide)) (ninS (Exa.ne EEg EP (by decide)) (ninS ngW nin0))))
    obtain ⟨T864, h864, L864, X864, e864, Nq864, K864, u864_0, u864_1, u864_2, u864_3, u864_4, st864⟩ := pc_cpt a1 fa f0 g0 P W kf kg kP kW (0 : Int32) (3 : Int32) M (1 : Int32) (1 : Int32) x1 y1 [(.int x0), (.int x1), (.int x2)] [(.long y0), (.long y1), (.long y2)] ((x0 :: u1 :: u2 :: ur).map Value.int) ((y0 :: v1 :: v2 :: vr).map Value.long) 1 X854 hx hZ hw hby hml hown e854 Nq854 Z856 (Nat.le_of_ble_eq_true rfl) (Nat.le_of_ble_eq_true rfl) (by decide) (by decide) g_a1 g_P g_W f858 f859 f860 f861 u854_0 u854_1 u854_2 f862 f863 AP854 AW854 (by decide) ⟨by decide, by decide⟩ rfl rfl (hnz y1 (by simp)) (own_inb hM (k := 1) (by simp) hus) rfl (by simp) (by simp)
    have P865 : Rg p e below (T864.setTop (mkF m 49 #[sR a1, sR fa, sI 0, sR f0, sR g0, sI 2] [])) B0 := fun t k => P855 t (by
      exact st864 _ k)
    have Z866 : n0 ≤ h864.size := Nat.le_trans Z856 K864.1
    have K867 : Keep h0 h864 [a1, P, W] := K857.trans K864 ((allS (Or.inl (List.mem_of_getElem? (i := 0) rfl)) (allS (Or.inl (List.mem_of_getElem? (i := 1) rfl)) (allS (Or.inl (List.mem_of_getElem? (i := 2) rfl)) all0))))
    have AP864 : Arv Z h864 P kP .int M ((x0 :: x1 :: u2 :: ur).map Value.int) (.int (0 : Int32)) := u864_3
    have AW864 : Arv Z h864 W kW .long M ((y0 :: y1 :: v2 :: vr).map Value.long) (.long (0 : Int64)) := u864_4
    have f868 := (f858.keep K864)
    have f869 := (f859.keep K864)
    have f870 := (f860.keep K864)
    have f871 := (f861.keep K864)
    have f872 := (f862.keep K864 (ninS (Exa.ne EEf E1 (by decide)) (ninS nfP (ninS (Exa.ne EEf EW1 (by decide)) nin0))))
    have f873 := (f863.keep K864 (ninS (Exa.ne EEg E1 (by decide)) (ninS (Exa.ne EEg EP (by decide)) (ninS ngW nin0))))
    obtain ⟨T874, h874, L874, X874, e874, Nq874, K874, u874_0, u874_1, u874_2, u874_3, u874_4, st874⟩ := pc_cpt a1 fa f0 g0 P W kf kg kP kW (0 : Int32) (3 : Int32) M (2 : Int32) (2 : Int32) x2 y2 [(.int x0), (.int x1), (.int x2)] [(.long y0), (.long y1), (.long y2)] ((x0 :: x1 :: u2 :: ur).map Value.int) ((y0 :: y1 :: v2 :: vr).map Value.long) 2 X864 hx hZ hw hby hml hown e864 Nq864 Z866 (Nat.le_of_ble_eq_true rfl) (Nat.le_of_ble_eq_true rfl) (by decide) (by decide) g_a1 g_P g_W f868 f869 f870 f871 u864_0 u864_1 u864_2 f872 f873 AP864 AW864 (by decide) ⟨by decide, by decide⟩ rfl rfl (hnz y2 (by simp)) (own_inb hM (k := 2) (by simp) hus) rfl (by simp) (by simp)
    have P875 : Rg p e below (T874.setTop (mkF m 49 #[sR a1, sR fa, sI 0, sR f0, sR g0, sI 3] [])) B0 := fun t k => P865 t (by
      exact st874 _ k)
    have Z876 : n0 ≤ h874.size := Nat.le_trans Z866 K874.1
    have K877 : Keep h0 h874 [a1, P, W] := K867.trans K874 ((allS (Or.inl (List.mem_of_getElem? (i := 0) rfl)) (allS (Or.inl (List.mem_of_getElem? (i := 1) rfl)) (allS (Or.inl (List.mem_of_getElem? (i := 2) rfl)) all0))))
    have AP874 : Arv Z h874 P kP .int M ((x0 :: x1 :: x2 :: ur).map Value.int) (.int (0 : Int32)) := u874_3
    have AW874 : Arv Z h874 W kW .long M ((y0 :: y1 :: y2 :: vr).map Value.long) (.long (0 : Int64)) := u874_4
    have f878 := (f872.keep K874 (ninS (Exa.ne EEf E1 (by decide)) (ninS nfP (ninS (Exa.ne EEf EW1 (by decide)) nin0))))
    obtain ⟨cl879, Ar879, -, S879, N879, -, -⟩ := id f878
    obtain ⟨fs880, hr880, hrun880, hended880, hW880, hsame880⟩ := X874.leave (v := none) (fun _ => rfl)
    refine ⟨_, _, pre0 _ (P875 _ ?_), hrun880, hended880, _, _, rfl, ?_, ⟨⟨_, rfl⟩, hW880, hsame880.mono (Nat.le_of_ble_eq_true rfl) (Nat.le_of_ble_eq_true rfl)⟩⟩
    · show Sg p e below (T874.setTop (mkF m 49 #[sR a1, sR fa, sI 0, sR f0, sR g0, sI 3] [])) _
      refine XS.iload X874.here hx rfl (hb hby dp23_2_49) rfl ?_
      refine XS.aloadN X874.here hx rfl (hb hby dp23_2_51) rfl rfl ?_
      show Sg p e below (T874.setTop (mkF m 52 #[sR a1, sR fa, sI 0, sR f0, sR g0, sI 3] [(.ref f0), (.int (3 : Int32))])) _
      refine X874.arraylength hx (by rw [e874]; exact Ar879.1) (State.isArrayOf_alike hZ.alike Ar879.2.1) (g := (mkF m 52 #[sR a1, sR fa, sI 0, sR f0, sR g0, sI 3] [(.ref f0), (.int (3 : Int32))])) rfl rfl (hb hby dp23_2_52) _ ?_
      rw [len_of S879 N879]
      show Sg p e below (T874.setTop (mkF m 53 #[sR a1, sR fa, sI 0, sR f0, sR g0, sI 3] [(.int (3 : Int32)), (.int (3 : Int32))])) _
      refine XS.icmpYes X874.here hx rfl (pc0 := 53) (pc' := 106) rfl (hb hby dp23_2_53) rfl (flt (show ¬ ((3 : Int32) < (3 : Int32)) from (by decide))).2.1 (by decide) (by decide) ?_
      show Sg p e below (T874.setTop (mkF m 106 #[sR a1, sR fa, sI 0, sR f0, sR g0, sI 3] [])) _
      exact X874.returnOut hx Bd.returns (hb hby dp23_2_106) hr880
    · show Q_sti Z a1 P W kP kW M (3 : Int32) [x0, x1, x2] (u0 :: u1 :: u2 :: ur) [y0, y1, y2] (v0 :: v1 :: v2 :: vr) h0 n0 _ T874.heap _
      rw [e874]
      exact ⟨rfl, Nq874, K877, u874_2, u874_0, u874_1, AP874, AW874⟩
  · exact absurd hpl (by simp)
theorem dp23_1_0 : decode prog_23_method_1_code 0 = .ok (.aload_n 0, 1) := by decide +kernel
theorem dp23_1_1 : decode prog_23_method_1_code 1 = .ok (.invokespecial 1, 3) := by decide +kernel
theorem dp23_1_4 : decode prog_23_method_1_code 4 = .ok (.aload_n 0, 1) := by decide +kernel
theorem dp23_1_5 : decode prog_23_method_1_code 5 = .ok (.iconst 0, 1) := by decide +kernel
theorem dp23_1_6 : decode prog_23_method_1_code 6 = .ok (.newarray .int, 2) := by decide +kernel
theorem dp23_1_8 : decode prog_23_method_1_code 8 = .ok (.putfield 7, 3) := by decide +kernel
theorem dp23_1_11 : decode prog_23_method_1_code 11 = .ok (.aload_n 0, 1) := by decide +kernel
theorem dp23_1_12 : decode prog_23_method_1_code 12 = .ok (.iconst 0, 1) := by decide +kernel
theorem dp23_1_13 : decode prog_23_method_1_code 13 = .ok (.newarray .long, 2) := by decide +kernel
theorem dp23_1_15 : decode prog_23_method_1_code 15 = .ok (.putfield 13, 3) := by decide +kernel
theorem dp23_1_18 : decode prog_23_method_1_code 18 = .ok (.return_, 1) := by decide +kernel
theorem ef_meInit (m : MethodId) (x0 : Addr) : entryFrame m #[(.ref x0)] 1 = mkF m 0 #[sR x0] [] := by (first | (simp [entryFrame, mkF, argsToLocals, Value.category]; done) | rfl)
def Q_meInit (Z : State) (a1 : Addr) (h0 : Heap) (n0 : Nat) (v : Option Value) (h : Heap) (L : List Loc) : Prop := v = none ∧ Fr n0 L ∧ Keep h0 h [a1] ∧ Exa Z h a1 sM ∧ Fld Z h a1 sM "count" "I" (.int (0 : Int32)) ∧ ∃ (P W : Addr) (k k2 : ClassId), Fld Z h a1 sM "places" "[I" (.ref P) ∧ Fld Z h a1 sM "words" "[J" (.ref W) ∧ Arv Z h P k .int (0 : Int32) ([] : List Value) (.int (0 : Int32)) ∧ Arv Z h W k2 .long (0 : Int32) ([] : List Value) (.long (0 : Int64)) ∧ Exa Z h P "[I" ∧ Exa Z h W "[J" ∧ h0.size ≤ P ∧ h0.size ≤ W
set_option maxRecDepth 65536 in
set_option maxHeartbeats 40000000 in
theorem rm_meInit (l : Launch) (Z : State) (a0 : Array Value) (hw : ∀ d ∈ tables_1, d.before a0 Z = true) (ws : List Jvm.Cond) (a1 : Addr) (h0 : Heap) (n0 : Nat) (Z0 : n0 ≤ h0.size) (g_a1 : n0 ≤ a1) (E1 : Exa Z h0 a1 sM) (Fp : Fld Z h0 a1 sM "places" "[I" .null) (Fw : Fld Z h0 a1 sM "words" "[J" .null) (Fc : Fld Z h0 a1 sM "count" "I" (.int (0 : Int32))) :
    MetFree l (⟨"com/example/whittle/whittle/engine/WordSets$Meet", "<init>", "()V"⟩ : MethodName) (head1 (Jvm.Cond.code (⟨"com/example/whittle/whittle/engine/WordSets$Meet", "<init>", "()V"⟩ : MethodName) prog_23_method_1_code 1 none :: ws) ({ frames := 1, cells := 2, slots := 0, locals := 12 } : Room)) (fun a U => a = #[(.ref a1)] ∧ Z.Warmed39 U.vm ∧ U.heap = h0) (fun _ _ _ _ _ => True) (fun _ U o U' => ∃ v L, o = .returned v ∧ Q_meInit Z a1 h0 n0 v U'.heap L ∧ FrameEnd U o U' L ({ frames := 1, cells := 2, slots := 0, locals := 12 } : Room).cells ({ frames := 1, cells := 2, slots := 0, locals := 12 } : Room).slots) := by
  refine MetFree.of_bodySF (plainFor_of_name pn_com_example_whittle_whittle_engine_WordSets_Meet) hisR ?_
  intro p e s m args below meth c s₁ Bd hml0 hP hK
  obtain ⟨rfl, hZ, hh⟩ := hP
  have hx := Bd.exec
  have hby := Bd.bytes
  have hml : c.maxLocals = 1 := hml0
  have hown : s.vm.findClass "com/example/whittle/whittle/engine/WordSets$Meet" = some m.cls := findClass_of_methodNamed Bd.named
  have hnm := (name_of_methodNamed Bd.named Bd.method).1
  have X0 : Stand p l e ({ frames := 1, cells := 2, slots := 0, locals := 12 } : Room) s m #[(.ref a1)] below meth c s₁ [] 0 0 := Stand.of_body Bd
  have e0 : s₁.heap = h0 := by rw [← hh, Bd.state]; rfl
  have N0 := Fr.nil n0
  have pre0 : ∀ t, Sg p e below (s₁.setTop (mkF m 0 #[sR a1] [])) t → Steps p.tables e below (s₁.setTop (entryFrame m #[(.ref a1)] 1)) t := fun t k => castTop (ef_meInit m a1) k
  have P0 : ∀ t, Sg p e below (s₁.setTop (mkF m 0 #[sR a1] [])) t → Sg p e below (s₁.setTop (mkF m 0 #[sR a1] [])) t := fun t k => k
  obtain ⟨B0, pre0, P0⟩ : ∃ B : State, (∀ t, Steps p.tables e below B t → Steps p.tables e below (s₁.setTop (entryFrame m #[(.ref a1)] 1)) t) ∧ Rg p e below (s₁.setTop (mkF m 0 #[sR a1] [])) B := ⟨_, pre0, P0⟩
  obtain ⟨T881, X881, e881, st881⟩ := initO X0 hx hZ hown (own_hw hw 37 rfl) (own_hw hw 20 rfl) (own_hw hw 21 rfl) e0 (g := (mkF m 1 #[sR a1] [(.ref a1)])) rfl (by rw [hml]; rfl) rfl (hb hby dp23_1_1) (by decide) (W := 0) (by show 2 * 0 + _ ≤ _; exact Nat.le_of_eq rfl) (by decide)
  have P882 : Rg p e below (T881.setTop (mkF m 4 #[sR a1] [])) B0 := fun t k => P0 t (by
    refine XS.aloadN X0.here hx rfl (hb hby dp23_1_0) rfl rfl ?_
    show Sg p e below (s₁.setTop (mkF m 1 #[sR a1] [(.ref a1)])) _
    exact st881 _ k)
  obtain ⟨T883, h883, k883, X883, e883, E883, A883, B883, st883⟩ := newPE X881 hx hZ (own_hw hw 9 rfl) e881 (g := (mkF m 6 #[sR a1] [(.int (0 : Int32)), (.ref a1)])) rfl (hb hby dp23_1_6) rfl (by decide) (cap := 0) (by decide) (by decide) (by decide) (by decide) (ad := "[I") (by decide)
  obtain ⟨b883, g883⟩ : ∃ z, z = h0.size := ⟨_, rfl⟩
  rw [← g883] at A883 B883 st883
  have g_b883 : n0 ≤ b883 := Nat.le_trans Z0 (Nat.le_of_eq g883.symm)
  have sz_b883 : h0.size ≤ b883 := Nat.le_trans (Keep.refl h0 [a1]).1 (Nat.le_of_eq g883.symm)
  have P884 : Rg p e below (T883.setTop (mkF m 8 #[sR a1] [(.ref b883), (.ref a1)])) B0 := fun t k => P882 t (by
    refine XS.aloadN X881.here hx rfl (hb hby dp23_1_4) rfl rfl ?_
    refine XS.iconst X881.here hx rfl (hb hby dp23_1_5) ?_
    show Sg p e below (T881.setTop (mkF m 6 #[sR a1] [(.int (0 : Int32)), (.ref a1)])) _
    exact st883 _ k)
  have Z885 : n0 ≤ h883.size := Nat.le_trans Z0 E883.1
  have K886 : Keep h0 h883 [a1] := (Keep.refl h0 [a1]).ext E883
  have v887 : Arv Z h883 b883 k883 .int (0 : Int32) ([] : List Value) (.int (0 : Int32)) := Arv.new A883 (by decide)
  have f888 := (Fp.ext E883)
  have f889 := (E1.ext E883)
  obtain ⟨T890, h890, X890, e890, W890, st890⟩ := putF X883 hx hZ hown (host := "") (Or.inl (own_hw hw 38 rfl)) Via.refl e883 f888 f889 (Or.inl (own_hw hw 39 rfl)) (own_hw hw 32 rfl) (ty := (.array .int)) (by decide) rfl rfl (g := (mkF m 8 #[sR a1] [(.ref b883), (.ref a1)])) rfl rfl (hb hby dp23_1_8)
  have P891 : Rg p e below (T890.setTop (mkF m 11 #[sR a1] [])) B0 := fun t k => P884 t (by
    exact st890 _ k)
  have f892 := f888.same W890
  have N893 := Fr.snoc X890 N0 g_a1
  have Z894 : n0 ≤ h890.size := Nat.le_trans Z885 (Keep.of_wr W890).1
  have K895 : Keep h0 h890 [a1] := K886.wr W890 (Or.inl (List.mem_of_getElem? (i := 0) rfl))
  obtain ⟨T896, h896, k896, X896, e896, E896, A896, B896, st896⟩ := newPE X890 hx hZ (own_hw hw 29 rfl) e890 (g := (mkF m 13 #[sR a1] [(.int (0 : Int32)), (.ref a1)])) rfl (hb hby dp23_1_13) rfl (by decide) (cap := 0) (by decide) (by decide) (by decide) (by decide) (ad := "[J") (by decide)
  obtain ⟨b896, g896⟩ : ∃ z, z = h890.size := ⟨_, rfl⟩
  rw [← g896] at A896 B896 st896
  have g_b896 : n0 ≤ b896 := Nat.le_trans Z894 (Nat.le_of_eq g896.symm)
  have sz_b896 : h0.size ≤ b896 := Nat.le_trans K895.1 (Nat.le_of_eq g896.symm)
  have P897 : Rg p e below (T896.setTop (mkF m 15 #[sR a1] [(.ref b896), (.ref a1)])) B0 := fun t k => P891 t (by
    refine XS.aloadN X890.here hx rfl (hb hby dp23_1_11) rfl rfl ?_
    refine XS.iconst X890.here hx rfl (hb hby dp23_1_12) ?_
    show Sg p e below (T890.setTop (mkF m 13 #[sR a1] [(.int (0 : Int32)), (.ref a1)])) _
    exact st896 _ k)
  have Z898 : n0 ≤ h896.size := Nat.le_trans Z894 E896.1
  have K899 : Keep h0 h896 [a1] := K895.ext E896
  have v900 : Arv Z h896 b896 k896 .long (0 : Int32) ([] : List Value) (.long (0 : Int64)) := Arv.new A896 (by decide)
  have f901 := (((Fw.ext E883).other W890 (Or.inr (slot_ne (Or.inl (own_hw hw 41 rfl)) (Or.inl (own_hw hw 39 rfl)) (by decide) (t := (.array .long)) (t' := (.array .int)) (by decide) (by decide)))).ext E896)
  have f902 := ((f889.wr W890).ext E896)
  obtain ⟨T903, h903, X903, e903, W903, st903⟩ := putF X896 hx hZ hown (host := "") (Or.inl (own_hw hw 40 rfl)) Via.refl e896 f901 f902 (Or.inl (own_hw hw 41 rfl)) (own_hw hw 32 rfl) (ty := (.array .long)) (by decide) rfl rfl (g := (mkF m 15 #[sR a1] [(.ref b896), (.ref a1)])) rfl rfl (hb hby dp23_1_15)
  have P904 : Rg p e below (T903.setTop (mkF m 18 #[sR a1] [])) B0 := fun t k => P897 t (by
    exact st903 _ k)
  have f905 := f901.same W903
  have N906 := Fr.snoc X903 N893 g_a1
  have Z907 : n0 ≤ h903.size := Nat.le_trans Z898 (Keep.of_wr W903).1
  have K908 : Keep h0 h903 [a1] := K899.wr W903 (Or.inl (List.mem_of_getElem? (i := 0) rfl))
  have f909 := (f902.wr W903)
  have f910 := ((((Fc.ext E883).other W890 (Or.inr (slot_ne (Or.inl (own_hw hw 50 rfl)) (Or.inl (own_hw hw 39 rfl)) (by decide) (t := .int) (t' := (.array .int)) (by decide) (by decide)))).ext E896).other W903 (Or.inr (slot_ne (Or.inl (own_hw hw 50 rfl)) (Or.inl (own_hw hw 41 rfl)) (by decide) (t := .int) (t' := (.array .long)) (by decide) (by decide))))
  have f911 := ((f892.ext E896).other W903 (Or.inr (slot_ne (Or.inl (own_hw hw 39 rfl)) (Or.inl (own_hw hw 41 rfl)) (by decide) (t := (.array .int)) (t' := (.array .long)) (by decide) (by decide))))
  have f912 := (((v887.other W890 (Ne.symm (Nat.ne_of_lt (Nat.lt_of_lt_of_le Fc.lt (Nat.le_of_eq g883.symm))))).ext E896).other W903 (Ne.symm (Nat.ne_of_lt (Nat.lt_of_lt_of_le Fc.lt (Nat.le_of_eq g883.symm)))))
  have f913 := (v900.other W903 (Ne.symm (Nat.ne_of_lt (Nat.lt_of_lt_of_le f892.lt (Nat.le_of_eq g896.symm)))))
  have f914 := (((B883.wr W890).ext E896).wr W903)
  have f915 := (B896.wr W903)
  obtain ⟨fs916, hr916, hrun916, hended916, hW916, hsame916⟩ := X903.leave (v := none) (fun _ => rfl)
  refine ⟨_, _, pre0 _ (P904 _ ?_), hrun916, hended916, _, _, rfl, ?_, ⟨⟨_, rfl⟩, hW916, hsame916.mono (Nat.le_of_ble_eq_true rfl) (Nat.le_of_ble_eq_true rfl)⟩⟩
  · show Sg p e below (T903.setTop (mkF m 18 #[sR a1] [])) _
    exact X903.returnOut hx Bd.returns (hb hby dp23_1_18) hr916
  · show Q_meInit Z a1 h0 n0 _ T903.heap _
    rw [e903]
    exact ⟨rfl, N906, K908, f909, f910, b883, b896, _, _, f911, f905, f912, f913, f914, f915, sz_b883, sz_b896⟩
theorem dj65_30_0 : decode jdk_65_method_30_code 0 = .ok (.iload_n 1, 1) := by decide +kernel
theorem dj65_30_1 : decode jdk_65_method_30_code 1 = .ok (.iload_n 2, 1) := by decide +kernel
theorem dj65_30_2 : decode jdk_65_method_30_code 2 = .ok (.if_icmp .le 44, 3) := by decide +kernel
theorem dj65_30_46 : decode jdk_65_method_30_code 46 = .ok (.iload_n 1, 1) := by decide +kernel
theorem dj65_30_47 : decode jdk_65_method_30_code 47 = .ok (.ifCond .ge 12, 3) := by decide +kernel
theorem dj65_30_59 : decode jdk_65_method_30_code 59 = .ok (.iload_n 2, 1) := by decide +kernel
theorem dj65_30_60 : decode jdk_65_method_30_code 60 = .ok (.iload_n 0, 1) := by decide +kernel
theorem dj65_30_61 : decode jdk_65_method_30_code 61 = .ok (.if_icmp .le 12, 3) := by decide +kernel
theorem dj65_30_73 : decode jdk_65_method_30_code 73 = .ok (.return_, 1) := by decide +kernel
theorem pn_java_util_Arrays : plainName "java/util/Arrays" = true := by first | (simp [plainName, overriddenIn]; done) | decide +kernel
theorem ef_rchk (m : MethodId) (x0 : Int32) (x1 : Int32) (x2 : Int32) : entryFrame m #[(.int x0), (.int x1), (.int x2)] 3 = mkF m 0 #[sI x0, sI x1, sI x2] [] := by (first | (simp [entryFrame, mkF, argsToLocals, Value.category]; done) | rfl)
def Q_rchk  (h0 : Heap) (n0 : Nat) (v : Option Value) (h : Heap) (L : List Loc) : Prop := v = none ∧ Fr n0 L ∧ h = h0
set_option maxRecDepth 65536 in
set_option maxHeartbeats 40000000 in
theorem rm_rchk (l : Launch) (Z : State) (a0 : Array Value) (hw : ∀ d ∈ tables_1, d.before a0 Z = true) (ws : List Jvm.Cond) (p1 p3 : Int32) (h0 : Heap) (n0 : Nat) (Z0 : n0 ≤ h0.size) (h1 : ¬ p3 < (0 : Int32)) (h2 : ¬ p1 < p3) :
    MetFree l (⟨"java/util/Arrays", "rangeCheck", "(III)V"⟩ : MethodName) (head1 (Jvm.Cond.code (⟨"java/util/Arrays", "rangeCheck", "(III)V"⟩ : MethodName) jdk_65_method_30_code 3 none :: ws) ({ frames := 0, cells := 0, slots := 0, locals := 0 } : Room)) (fun a U => a = #[(.int p1), (.int (0 : Int32)), (.int p3)] ∧ Z.Warmed39 U.vm ∧ U.heap = h0) (fun _ _ _ _ _ => True) (fun _ U o U' => ∃ v L, o = .returned v ∧ Q_rchk  h0 n0 v U'.heap L ∧ FrameEnd U o U' L ({ frames := 0, cells := 0, slots := 0, locals := 0 } : Room).cells ({ frames := 0, cells := 0, slots := 0, locals := 0 } : Room).slots) := by
  refine MetFree.of_bodySF (plainFor_of_name pn_java_util_Arrays) hisR ?_
  intro p e s m args below meth c s₁ Bd hml0 hP hK
  obtain ⟨rfl, hZ, hh⟩ := hP
  have hx := Bd.exec
  have hby := Bd.bytes
  have hml : c.maxLocals = 3 := hml0
  have hown : s.vm.findClass "java/util/Arrays" = some m.cls := findClass_of_methodNamed Bd.named
  have hnm := (name_of_methodNamed Bd.named Bd.method).1
  have X0 : Stand p l e ({ frames := 0, cells := 0, slots := 0, locals := 0 } : Room) s m #[(.int p1), (.int (0 : Int32)), (.int p3)] below meth c s₁ [] 0 0 := Stand.of_body Bd
  have e0 : s₁.heap = h0 := by rw [← hh, Bd.state]; rfl
  have N0 := Fr.nil n0
  have pre0 : ∀ t, Sg p e below (s₁.setTop (mkF m 0 #[sI p1, sI 0, sI p3] [])) t → Steps p.tables e below (s₁.setTop (entryFrame m #[(.int p1), (.int (0 : Int32)), (.int p3)] 3)) t := fun t k => castTop (ef_rchk m p1 (0 : Int32) p3) k
  have P0 : ∀ t, Sg p e below (s₁.setTop (mkF m 0 #[sI p1, sI 0, sI p3] [])) t → Sg p e below (s₁.setTop (mkF m 0 #[sI p1, sI 0, sI p3] [])) t := fun t k => k
  obtain ⟨B0, pre0, P0⟩ : ∃ B : State, (∀ t, Steps p.tables e below B t → Steps p.tables e below (s₁.setTop (entryFrame m #[(.int p1), (.int (0 : Int32)), (.int p3)] 3)) t) ∧ Rg p e below (s₁.setTop (mkF m 0 #[sI p1, sI 0, sI p3] [])) B := ⟨_, pre0, P0⟩
  obtain ⟨fs917, hr917, hrun917, hended917, hW917, hsame917⟩ := X0.leave (v := none) (fun _ => rfl)
  refine ⟨_, _, pre0 _ (P0 _ ?_), hrun917, hended917, _, _, rfl, ?_, ⟨⟨_, rfl⟩, hW917, hsame917.mono (Nat.le_of_ble_eq_true rfl) (Nat.le_of_ble_eq_true rfl)⟩⟩
  · refine XS.iloadN X0.here hx rfl (hb hby dj65_30_0) rfl ?_
    show Sg p e below (s₁.setTop (mkF m 1 #[sI p1, sI 0, sI p3] [(.int (0 : Int32))])) _
    refine XS.iloadN X0.here hx rfl (hb hby dj65_30_1) rfl ?_
    refine XS.icmpYes X0.here hx rfl (pc0 := 2) (pc' := 46) rfl (hb hby dj65_30_2) rfl (flt (show ¬ (p3 < (0 : Int32)) from h1)).2.2.2 (by decide) (by decide) ?_
    refine XS.iloadN X0.here hx rfl (hb hby dj65_30_46) rfl ?_
    refine XS.ifYes X0.here hx rfl (pc0 := 47) (pc' := 59) rfl (hb hby dj65_30_47) rfl ((if0 _ _).trans (flt (show ¬ ((0 : Int32) < (0 : Int32)) from (by decide))).2.1) (by decide) (by decide) ?_
    refine XS.iloadN X0.here hx rfl (hb hby dj65_30_59) rfl ?_
    refine XS.iloadN X0.here hx rfl (hb hby dj65_30_60) rfl ?_
    refine XS.icmpYes X0.here hx rfl (pc0 := 61) (pc' := 73) rfl (hb hby dj65_30_61) rfl (flt (show ¬ (p1 < p3) from h2)).2.2.2 (by decide) (by decide) ?_
    show Sg p e below (s₁.setTop (mkF m 73 #[sI p1, sI 0, sI p3] [])) _
    exact X0.returnOut hx Bd.returns (hb hby dj65_30_73) hr917
  · show Q_rchk  h0 n0 _ s₁.heap _
    rw [e0]
    exact ⟨rfl, N0, rfl⟩
theorem dj65_59_0 : decode jdk_65_method_59_code 0 = .ok (.iload_n 1, 1) := by decide +kernel
theorem dj65_59_1 : decode jdk_65_method_59_code 1 = .ok (.istore 4, 2) := by decide +kernel
theorem dj65_59_3 : decode jdk_65_method_59_code 3 = .ok (.iload_n 2, 1) := by decide +kernel
theorem dj65_59_4 : decode jdk_65_method_59_code 4 = .ok (.iconst 1, 1) := by decide +kernel
theorem dj65_59_5 : decode jdk_65_method_59_code 5 = .ok (.isub, 1) := by decide +kernel
theorem dj65_59_6 : decode jdk_65_method_59_code 6 = .ok (.istore 5, 2) := by decide +kernel
theorem dj65_59_8 : decode jdk_65_method_59_code 8 = .ok (.iload 4, 2) := by decide +kernel
theorem dj65_59_10 : decode jdk_65_method_59_code 10 = .ok (.iload 5, 2) := by decide +kernel
theorem dj65_59_12 : decode jdk_65_method_59_code 12 = .ok (.if_icmp .gt 54, 3) := by decide +kernel
theorem dj65_59_66 : decode jdk_65_method_59_code 66 = .ok (.iload 4, 2) := by decide +kernel
theorem dj65_59_68 : decode jdk_65_method_59_code 68 = .ok (.iconst 1, 1) := by decide +kernel
theorem dj65_59_69 : decode jdk_65_method_59_code 69 = .ok (.iadd, 1) := by decide +kernel
theorem dj65_59_70 : decode jdk_65_method_59_code 70 = .ok (.ineg, 1) := by decide +kernel
theorem dj65_59_71 : decode jdk_65_method_59_code 71 = .ok (.ireturn, 1) := by decide +kernel
theorem dj65_59_15 : decode jdk_65_method_59_code 15 = .ok (.iload 4, 2) := by decide +kernel
theorem dj65_59_17 : decode jdk_65_method_59_code 17 = .ok (.iload 5, 2) := by decide +kernel
theorem dj65_59_19 : decode jdk_65_method_59_code 19 = .ok (.iadd, 1) := by decide +kernel
theorem dj65_59_20 : decode jdk_65_method_59_code 20 = .ok (.iconst 1, 1) := by decide +kernel
theorem dj65_59_21 : decode jdk_65_method_59_code 21 = .ok (.iushr, 1) := by decide +kernel
theorem dj65_59_22 : decode jdk_65_method_59_code 22 = .ok (.istore 6, 2) := by decide +kernel
theorem dj65_59_24 : decode jdk_65_method_59_code 24 = .ok (.aload_n 0, 1) := by decide +kernel
theorem dj65_59_25 : decode jdk_65_method_59_code 25 = .ok (.iload 6, 2) := by decide +kernel
theorem dj65_59_27 : decode jdk_65_method_59_code 27 = .ok (.iaload, 1) := by decide +kernel
theorem dj65_59_28 : decode jdk_65_method_59_code 28 = .ok (.istore 7, 2) := by decide +kernel
theorem dj65_59_30 : decode jdk_65_method_59_code 30 = .ok (.iload 7, 2) := by decide +kernel
theorem dj65_59_32 : decode jdk_65_method_59_code 32 = .ok (.iload_n 3, 1) := by decide +kernel
theorem dj65_59_33 : decode jdk_65_method_59_code 33 = .ok (.if_icmp .ge 12, 3) := by decide +kernel
theorem dj65_59_36 : decode jdk_65_method_59_code 36 = .ok (.iload 6, 2) := by decide +kernel
theorem dj65_59_38 : decode jdk_65_method_59_code 38 = .ok (.iconst 1, 1) := by decide +kernel
theorem dj65_59_39 : decode jdk_65_method_59_code 39 = .ok (.iadd, 1) := by decide +kernel
theorem dj65_59_40 : decode jdk_65_method_59_code 40 = .ok (.istore 4, 2) := by decide +kernel
theorem dj65_59_42 : decode jdk_65_method_59_code 42 = .ok (.goto 21, 3) := by decide +kernel
theorem dj65_59_63 : decode jdk_65_method_59_code 63 = .ok (.goto (-55), 3) := by decide +kernel
theorem dj65_59_45 : decode jdk_65_method_59_code 45 = .ok (.iload 7, 2) := by decide +kernel
theorem dj65_59_47 : decode jdk_65_method_59_code 47 = .ok (.iload_n 3, 1) := by decide +kernel
theorem dj65_59_48 : decode jdk_65_method_59_code 48 = .ok (.if_icmp .le 12, 3) := by decide +kernel
theorem dj65_59_51 : decode jdk_65_method_59_code 51 = .ok (.iload 6, 2) := by decide +kernel
theorem dj65_59_53 : decode jdk_65_method_59_code 53 = .ok (.iconst 1, 1) := by decide +kernel
theorem dj65_59_54 : decode jdk_65_method_59_code 54 = .ok (.isub, 1) := by decide +kernel
theorem dj65_59_55 : decode jdk_65_method_59_code 55 = .ok (.istore 5, 2) := by decide +kernel
theorem dj65_59_57 : decode jdk_65_method_59_code 57 = .ok (.goto 6, 3) := by decide +kernel
theorem dj65_59_60 : decode jdk_65_method_59_code 60 = .ok (.iload 6, 2) := by decide +kernel
theorem dj65_59_62 : decode jdk_65_method_59_code 62 = .ok (.ireturn, 1) := by decide +kernel
theorem ef_bs0 (m : MethodId) (x0 : Addr) (x1 : Int32) (x2 : Int32) (x3 : Int32) : entryFrame m #[(.ref x0), (.int x1), (.int x2), (.int x3)] 8 = mkF m 0 #[sR x0, sI x1, sI x2, sI x3, sU, sU, sU, sU] [] := by (first | (simp [entryFrame, mkF, argsToLocals, Value.category]; done) | rfl)
def Q_bs0 (pl : List Int32) (key : Int32) (h0 : Heap) (n0 : Nat) (v : Option Value) (h : Heap) (L : List Loc) : Prop := ∃ r : Int32, v = some (.int r) ∧ Fr n0 L ∧ h = h0 ∧ own_found pl key r
set_option maxRecDepth 65536 in
set_option maxHeartbeats 40000000 in
theorem rm_bs0 (l : Launch) (Z : State) (a0 : Array Value) (hw : ∀ d ∈ tables_1, d.before a0 Z = true) (ws : List Jvm.Cond) (P : Addr) (kP : ClassId) (M : Int32) (pl ur : List Int32) (cn key : Int32) (h0 : Heap) (n0 : Nat) (Z0 : n0 ≤ h0.size) (AP : Arv Z h0 P kP .int M ((pl ++ ur).map Value.int) (.int (0 : Int32))) (hM : M = Int32.ofNat (pl ++ ur).length) (hm : (pl ++ ur).length ≤ 3) (hc : cn = Int32.ofNat pl.length) (hs : pl.Pairwise (· < ·)) :
    MetFree l (⟨"java/util/Arrays", "binarySearch0", "([IIII)I"⟩ : MethodName) (head1 (Jvm.Cond.code (⟨"java/util/Arrays", "binarySearch0", "([IIII)I"⟩ : MethodName) jdk_65_method_59_code 8 (some .int) :: ws) ({ frames := 0, cells := 0, slots := 0, locals := 0 } : Room)) (fun a U => a = #[(.ref P), (.int (0 : Int32)), (.int cn), (.int key)] ∧ Z.Warmed39 U.vm ∧ U.heap = h0) (fun _ _ _ _ _ => True) (fun _ U o U' => ∃ v L, o = .returned v ∧ Q_bs0 pl key h0 n0 v U'.heap L ∧ FrameEnd U o U' L ({ frames := 0, cells := 0, slots := 0, locals := 0 } : Room).cells ({ frames := 0, cells := 0, slots := 0, locals := 0 } : Room).slots) := by
  refine MetFree.of_bodySF (plainFor_of_name pn_java_util_Arrays) hisR ?_
  intro p e s m args below meth c s₁ Bd hml0 hP hK
  obtain ⟨rfl, hZ, hh⟩ := hP
  have hx := Bd.exec
  have hby := Bd.bytes
  have hml : c.maxLocals = 8 := hml0
  have hown : s.vm.findClass "java/util/Arrays" = some m.cls := findClass_of_methodNamed Bd.named
  have hnm := (name_of_methodNamed Bd.named Bd.method).1
  have X0 : Stand p l e ({ frames := 0, cells := 0, slots := 0, locals := 0 } : Room) s m #[(.ref P), (.int (0 : Int32)), (.int cn), (.int key)] below meth c s₁ [] 0 0 := Stand.of_body Bd
  have e0 : s₁.heap = h0 := by rw [← hh, Bd.state]; rfl
  have N0 := Fr.nil n0
  have pre0 : ∀ t, Sg p e below (s₁.setTop (mkF m 0 #[sR P, sI 0, sI cn, sI key, sU, sU, sU, sU] [])) t → Steps p.tables e below (s₁.setTop (entryFrame m #[(.ref P), (.int (0 : Int32)), (.int cn), (.int key)] 8)) t := fun t k => castTop (ef_bs0 m P (0 : Int32) cn key) k
  have P0 : ∀ t, Sg p e below (s₁.setTop (mkF m 0 #[sR P, sI 0, sI cn, sI key, sU, sU, sU, sU] [])) t → Sg p e below (s₁.setTop (mkF m 0 #[sR P, sI 0, sI cn, sI key, sU, sU, sU, sU] [])) t := fun t k => k
  obtain ⟨B0, pre0, P0⟩ : ∃ B : State, (∀ t, Steps p.tables e below B t → Steps p.tables e below (s₁.setTop (entryFrame m #[(.ref P), (.int (0 : Int32)), (.int cn), (.int key)] 8)) t) ∧ Rg p e below (s₁.setTop (mkF m 0 #[sR P, sI 0, sI cn, sI key, sU, sU, sU, sU] [])) B := ⟨_, pre0, P0⟩
  have hlen : pl.length ≤ 3 := by simp at hm; omega
  rcases pl with _ | ⟨x0, _ | ⟨x1, _ | ⟨x2, _ | ⟨x3, pl⟩⟩⟩⟩
  · skip
    have hc' : cn = (0 : Int32) := hc
    subst hc'
    obtain ⟨fs918, hr918, hrun918, hended918, hW918, hsame918⟩ := X0.leave (v := some (.int (-1 : Int32))) (fun h => by rw [Bd.returns] at h; cases h)
    refine ⟨_, _, pre0 _ (P0 _ ?_), hrun918, hended918, _, _, rfl, ?_, ⟨⟨_, rfl⟩, hW918, hsame918.mono (Nat.le_of_ble_eq_true rfl) (Nat.le_of_ble_eq_true rfl)⟩⟩
    · refine XS.iloadN X0.here hx rfl (hb hby dj65_59_0) rfl ?_
      show Sg p e below (s₁.setTop (mkF m 1 #[sR P, sI 0, sI 0, sI key, sU, sU, sU, sU] [(.int (0 : Int32))])) _
      refine XS.istore X0.here hx rfl (hb hby dj65_59_1) rfl (l' := #[sR P, sI 0, sI 0, sI key, sI 0, sU, sU, sU]) rfl ?_
      refine XS.iloadN X0.here hx rfl (hb hby dj65_59_3) rfl ?_
      refine XS.iconst X0.here hx rfl (hb hby dj65_59_4) ?_
      refine XS.isub X0.here hx rfl (hb hby dj65_59_5) rfl ?_
      refine XS.istore X0.here hx rfl (hb hby dj65_59_6) rfl (l' := #[sR P, sI 0, sI 0, sI key, sI 0, sI (-1), sU, sU]) rfl ?_
      refine XS.iload X0.here hx rfl (hb hby dj65_59_8) rfl ?_
      refine XS.iload X0.here hx rfl (hb hby dj65_59_10) rfl ?_
      refine XS.icmpYes X0.here hx rfl (pc0 := 12) (pc' := 66) rfl (hb hby dj65_59_12) rfl (tlt (show (-1 : Int32) < (0 : Int32) from (by decide))).2.2.1 (by decide) (by decide) ?_
      refine XS.iload X0.here hx rfl (hb hby dj65_59_66) rfl ?_
      refine XS.iconst X0.here hx rfl (hb hby dj65_59_68) ?_
      refine XS.iadd X0.here hx rfl (hb hby dj65_59_69) rfl ?_
      refine XS.ineg X0.here hx rfl (hb hby dj65_59_70) rfl ?_
      show Sg p e below (s₁.setTop (mkF m 71 #[sR P, sI 0, sI 0, sI key, sI 0, sI (-1), sU, sU] [(.int (-1 : Int32))])) _
      exact retI X0 hx Bd.returns (hb hby dj65_59_71) hr918
    · show Q_bs0 [] key h0 n0 _ s₁.heap _
      rw [e0]
      exact ⟨_, rfl, N0, rfl, Or.inr ⟨by decide, fun hm => nomatch hm⟩⟩
  · skip
    have hc' : cn = (1 : Int32) := hc
    subst hc'
    obtain ⟨cl919, Ar919, -, S919, N919, H919, -⟩ := id AP
    have hin919 : ¬ ((0 : Int32) < 0 ∨ cl919.slots.size ≤ ((0 : Int32)).toNatClampNeg) := inb_of S919 (own_inb hM (k := 0) (by simp) hm)
    have P920 : Rg p e below (s₁.setTop (mkF m 33 #[sR P, sI 0, sI 1, sI key, sI 0, sI 0, sI 0, sI x0] [(.int key), (.int x0)])) B0 := fun t k => P0 t (by
      refine XS.iloadN X0.here hx rfl (hb hby dj65_59_0) rfl ?_
      refine XS.istore X0.here hx rfl (hb hby dj65_59_1) rfl (l' := #[sR P, sI 0, sI 1, sI key, sI 0, sU, sU, sU]) rfl ?_
      refine XS.iloadN X0.here hx rfl (hb hby dj65_59_3) rfl ?_
      refine XS.iconst X0.here hx rfl (hb hby dj65_59_4) ?_
      refine XS.isub X0.here hx rfl (hb hby dj65_59_5) rfl ?_
      refine XS.istore X0.here hx rfl (hb hby dj65_59_6) rfl (l' := #[sR P, sI 0, sI 1, sI key, sI 0, sI 0, sU, sU]) rfl ?_
      refine XS.iload X0.here hx rfl (hb hby dj65_59_8) rfl ?_
      refine XS.iload X0.here hx rfl (hb hby dj65_59_10) rfl ?_
      refine XS.icmpNo X0.here hx rfl (hb hby dj65_59_12) rfl (flt (show ¬ ((0 : Int32) < (0 : Int32)) from (by decide))).2.2.1 ?_
      refine XS.iload X0.here hx rfl (hb hby dj65_59_15) rfl ?_
      refine XS.iload X0.here hx rfl (hb hby dj65_59_17) rfl ?_
      refine XS.iadd X0.here hx rfl (hb hby dj65_59_19) rfl ?_
      refine XS.iconst X0.here hx rfl (hb hby dj65_59_20) ?_
      refine XS.iushr X0.here hx rfl (hb hby dj65_59_21) rfl ?_
      refine XS.istore X0.here hx rfl (hb hby dj65_59_22) rfl (l' := #[sR P, sI 0, sI 1, sI key, sI 0, sI 0, sI 0, sU]) rfl ?_
      refine XS.aloadN X0.here hx rfl (hb hby dj65_59_24) rfl rfl ?_
      refine XS.iload X0.here hx rfl (hb hby dj65_59_25) rfl ?_
      show Sg p e below (s₁.setTop (mkF m 27 #[sR P, sI 0, sI 1, sI key, sI 0, sI 0, sI 0, sU] [(.int (0 : Int32)), (.ref P)])) _
      refine X0.iaload hx (j := (0 : Int32)) (v := (.int x0)) (by rw [e0]; exact Ar919.1) (State.isArrayOf_alike hZ.alike Ar919.2.1) Ar919.2.2 hin919 (H919.at hin919 rfl) (g := (mkF m 27 #[sR P, sI 0, sI 1, sI key, sI 0, sI 0, sI 0, sU] [(.int (0 : Int32)), (.ref P)])) rfl rfl (hb hby dj65_59_27) _ ?_
      show Sg p e below (s₁.setTop (mkF m 28 #[sR P, sI 0, sI 1, sI key, sI 0, sI 0, sI 0, sU] [(.int x0)])) _
      refine XS.istore X0.here hx rfl (hb hby dj65_59_28) rfl (l' := #[sR P, sI 0, sI 1, sI key, sI 0, sI 0, sI 0, sI x0]) rfl ?_
      refine XS.iload X0.here hx rfl (hb hby dj65_59_30) rfl ?_
      refine XS.iloadN X0.here hx rfl (hb hby dj65_59_32) rfl ?_
      show Sg p e below (s₁.setTop (mkF m 33 #[sR P, sI 0, sI 1, sI key, sI 0, sI 0, sI 0, sI x0] [(.int key), (.int x0)])) _
      exact k)
    by_cases q921 : x0 < key
    · skip
      have tq921 := Int32.lt_iff_toInt_lt.mp q921
      obtain ⟨fs922, hr922, hrun922, hended922, hW922, hsame922⟩ := X0.leave (v := some (.int (-2 : Int32))) (fun h => by rw [Bd.returns] at h; cases h)
      refine ⟨_, _, pre0 _ (P920 _ ?_), hrun922, hended922, _, _, rfl, ?_, ⟨⟨_, rfl⟩, hW922, hsame922.mono (Nat.le_of_ble_eq_true rfl) (Nat.le_of_ble_eq_true rfl)⟩⟩
      · show Sg p e below (s₁.setTop (mkF m 33 #[sR P, sI 0, sI 1, sI key, sI 0, sI 0, sI 0, sI x0] [(.int key), (.int x0)])) _
        refine XS.icmpNo X0.here hx rfl (hb hby dj65_59_33) rfl (tlt (show x0 < key from q921)).2.1 ?_
        refine XS.iload X0.here hx rfl (hb hby dj65_59_36) rfl ?_
        refine XS.iconst X0.here hx rfl (hb hby dj65_59_38) ?_
        refine XS.iadd X0.here hx rfl (hb hby dj65_59_39) rfl ?_
        refine XS.istore X0.here hx rfl (hb hby dj65_59_40) rfl (l' := #[sR P, sI 0, sI 1, sI key, sI 1, sI 0, sI 0, sI x0]) rfl ?_
        refine XS.goto X0.here hx rfl (pc0 := 42) (pc' := 63) rfl (hb hby dj65_59_42) (by decide) (by decide) ?_
        refine XS.goto X0.here hx rfl (pc0 := 63) (pc' := 8) rfl (hb hby dj65_59_63) (by decide) (by decide) ?_
        refine XS.iload X0.here hx rfl (hb hby dj65_59_8) rfl ?_
        refine XS.iload X0.here hx rfl (hb hby dj65_59_10) rfl ?_
        refine XS.icmpYes X0.here hx rfl (pc0 := 12) (pc' := 66) rfl (hb hby dj65_59_12) rfl (tlt (show (0 : Int32) < (1 : Int32) from (by decide))).2.2.1 (by decide) (by decide) ?_
        refine XS.iload X0.here hx rfl (hb hby dj65_59_66) rfl ?_
        refine XS.iconst X0.here hx rfl (hb hby dj65_59_68) ?_
        refine XS.iadd X0.here hx rfl (hb hby dj65_59_69) rfl ?_
        refine XS.ineg X0.here hx rfl (hb hby dj65_59_70) rfl ?_
        show Sg p e below (s₁.setTop (mkF m 71 #[sR P, sI 0, sI 1, sI key, sI 1, sI 0, sI 0, sI x0] [(.int (-2 : Int32))])) _
        exact retI X0 hx Bd.returns (hb hby dj65_59_71) hr922
      · show Q_bs0 [x0] key h0 n0 _ s₁.heap _
        rw [e0]
        exact ⟨_, rfl, N0, rfl, Or.inr ⟨by decide, fun hm => by (have e := congrArg Int32.toInt (List.mem_singleton.mp hm); omega)⟩⟩
    · skip
      have P923 : Rg p e below (s₁.setTop (mkF m 48 #[sR P, sI 0, sI 1, sI key, sI 0, sI 0, sI 0, sI x0] [(.int key), (.int x0)])) B0 := fun t k => P920 t (by
        refine XS.icmpYes X0.here hx rfl (pc0 := 33) (pc' := 45) rfl (hb hby dj65_59_33) rfl (flt (show ¬ (x0 < key) from q921)).2.1 (by decide) (by decide) ?_
        refine XS.iload X0.here hx rfl (hb hby dj65_59_45) rfl ?_
        refine XS.iloadN X0.here hx rfl (hb hby dj65_59_47) rfl ?_
        show Sg p e below (s₁.setTop (mkF m 48 #[sR P, sI 0, sI 1, sI key, sI 0, sI 0, sI 0, sI x0] [(.int key), (.int x0)])) _
        exact k)
      by_cases q924 : key < x0
      · skip
        have tq921 := fun z => q921 (Int32.lt_iff_toInt_lt.mpr z)
        have tq924 := Int32.lt_iff_toInt_lt.mp q924
        obtain ⟨fs925, hr925, hrun925, hended925, hW925, hsame925⟩ := X0.leave (v := some (.int (-1 : Int32))) (fun h => by rw [Bd.returns] at h; cases h)
        refine ⟨_, _, pre0 _ (P923 _ ?_), hrun925, hended925, _, _, rfl, ?_, ⟨⟨_, rfl⟩, hW925, hsame925.mono (Nat.le_of_ble_eq_true rfl) (Nat.le_of_ble_eq_true rfl)⟩⟩
        · show Sg p e below (s₁.setTop (mkF m 48 #[sR P, sI 0, sI 1, sI key, sI 0, sI 0, sI 0, sI x0] [(.int key), (.int x0)])) _
          refine XS.icmpNo X0.here hx rfl (hb hby dj65_59_48) rfl (tlt (show key < x0 from q924)).2.2.2 ?_
          refine XS.iload X0.here hx rfl (hb hby dj65_59_51) rfl ?_
          refine XS.iconst X0.here hx rfl (hb hby dj65_59_53) ?_
          refine XS.isub X0.here hx rfl (hb hby dj65_59_54) rfl ?_
          refine XS.istore X0.here hx rfl (hb hby dj65_59_55) rfl (l' := #[sR P, sI 0, sI 1, sI key, sI 0, sI (-1), sI 0, sI x0]) rfl ?_
          refine XS.goto X0.here hx rfl (pc0 := 57) (pc' := 63) rfl (hb hby dj65_59_57) (by decide) (by decide) ?_
          refine XS.goto X0.here hx rfl (pc0 := 63) (pc' := 8) rfl (hb hby dj65_59_63) (by decide) (by decide) ?_
          refine XS.iload X0.here hx rfl (hb hby dj65_59_8) rfl ?_
          refine XS.iload X0.here hx rfl (hb hby dj65_59_10) rfl ?_
          refine XS.icmpYes X0.here hx rfl (pc0 := 12) (pc' := 66) rfl (hb hby dj65_59_12) rfl (tlt (show (-1 : Int32) < (0 : Int32) from (by decide))).2.2.1 (by decide) (by decide) ?_
          refine XS.iload X0.here hx rfl (hb hby dj65_59_66) rfl ?_
          refine XS.iconst X0.here hx rfl (hb hby dj65_59_68) ?_
          refine XS.iadd X0.here hx rfl (hb hby dj65_59_69) rfl ?_
          refine XS.ineg X0.here hx rfl (hb hby dj65_59_70) rfl ?_
          show Sg p e below (s₁.setTop (mkF m 71 #[sR P, sI 0, sI 1, sI key, sI 0, sI (-1), sI 0, sI x0] [(.int (-1 : Int32))])) _
          exact retI X0 hx Bd.returns (hb hby dj65_59_71) hr925
        · show Q_bs0 [x0] key h0 n0 _ s₁.heap _
          rw [e0]
          exact ⟨_, rfl, N0, rfl, Or.inr ⟨by decide, fun hm => by (have e := congrArg Int32.toInt (List.mem_singleton.mp hm); omega)⟩⟩
      · skip
        obtain ⟨fs926, hr926, hrun926, hended926, hW926, hsame926⟩ := X0.leave (v := some (.int (0 : Int32))) (fun h => by rw [Bd.returns] at h; cases h)
        refine ⟨_, _, pre0 _ (P923 _ ?_), hrun926, hended926, _, _, rfl, ?_, ⟨⟨_, rfl⟩, hW926, hsame926.mono (Nat.le_of_ble_eq_true rfl) (Nat.le_of_ble_eq_true rfl)⟩⟩
        · show Sg p e below (s₁.setTop (mkF m 48 #[sR P, sI 0, sI 1, sI key, sI 0, sI 0, sI 0, sI x0] [(.int key), (.int x0)])) _
          refine XS.icmpYes X0.here hx rfl (pc0 := 48) (pc' := 60) rfl (hb hby dj65_59_48) rfl (flt (show ¬ (key < x0) from q924)).2.2.2 (by decide) (by decide) ?_
          refine XS.iload X0.here hx rfl (hb hby dj65_59_60) rfl ?_
          show Sg p e below (s₁.setTop (mkF m 62 #[sR P, sI 0, sI 1, sI key, sI 0, sI 0, sI 0, sI x0] [(.int (0 : Int32))])) _
          exact retI X0 hx Bd.returns (hb hby dj65_59_62) hr926
        · show Q_bs0 [x0] key h0 n0 _ s₁.heap _
          rw [e0]
          exact ⟨_, rfl, N0, rfl, Or.inl ⟨0, by simp, rfl, congrArg some (own_eq3 q921 q924)⟩⟩
  · skip
    have hc' : cn = (2 : Int32) := hc
    subst hc'
    have hs01 := Int32.lt_iff_toInt_lt.mp (own_p2 hs)
    obtain ⟨cl927, Ar927, -, S927, N927, H927, -⟩ := id AP
    have hin927 : ¬ ((0 : Int32) < 0 ∨ cl927.slots.size ≤ ((0 : Int32)).toNatClampNeg) := inb_of S927 (own_inb hM (k := 0) (by simp) hm)
    have P928 : Rg p e below (s₁.setTop (mkF m 33 #[sR P, sI 0, sI 2, sI key, sI 0, sI 1, sI 0, sI x0] [(.int key), (.int x0)])) B0 := fun t k => P0 t (by
      refine XS.iloadN X0.here hx rfl (hb hby dj65_59_0) rfl ?_
      refine XS.istore X0.here hx rfl (hb hby dj65_59_1) rfl (l' := #[sR P, sI 0, sI 2, sI key, sI 0, sU, sU, sU]) rfl ?_
      refine XS.iloadN X0.here hx rfl (hb hby dj65_59_3) rfl ?_
      refine XS.iconst X0.here hx rfl (hb hby dj65_59_4) ?_
      refine XS.isub X0.here hx rfl (hb hby dj65_59_5) rfl ?_
      refine XS.istore X0.here hx rfl (hb hby dj65_59_6) rfl (l' := #[sR P, sI 0, sI 2, sI key, sI 0, sI 1, sU, sU]) rfl ?_
      refine XS.iload X0.here hx rfl (hb hby dj65_59_8) rfl ?_
      refine XS.iload X0.here hx rfl (hb hby dj65_59_10) rfl ?_
      refine XS.icmpNo X0.here hx rfl (hb hby dj65_59_12) rfl (flt (show ¬ ((1 : Int32) < (0 : Int32)) from (by decide))).2.2.1 ?_
      refine XS.iload X0.here hx rfl (hb hby dj65_59_15) rfl ?_
      refine XS.iload X0.here hx rfl (hb hby dj65_59_17) rfl ?_
      refine XS.iadd X0.here hx rfl (hb hby dj65_59_19) rfl ?_
      refine XS.iconst X0.here hx rfl (hb hby dj65_59_20) ?_
      refine XS.iushr X0.here hx rfl (hb hby dj65_59_21) rfl ?_
      refine XS.istore X0.here hx rfl (hb hby dj65_59_22) rfl (l' := #[sR P, sI 0, sI 2, sI key, sI 0, sI 1, sI 0, sU]) rfl ?_
      refine XS.aloadN X0.here hx rfl (hb hby dj65_59_24) rfl rfl ?_
      refine XS.iload X0.here hx rfl (hb hby dj65_59_25) rfl ?_
      show Sg p e below (s₁.setTop (mkF m 27 #[sR P, sI 0, sI 2, sI key, sI 0, sI 1, sI 0, sU] [(.int (0 : Int32)), (.ref P)])) _
      refine X0.iaload hx (j := (0 : Int32)) (v := (.int x0)) (by rw [e0]; exact Ar927.1) (State.isArrayOf_alike hZ.alike Ar927.2.1) Ar927.2.2 hin927 (H927.at hin927 rfl) (g := (mkF m 27 #[sR P, sI 0, sI 2, sI key, sI 0, sI 1, sI 0, sU] [(.int (0 : Int32)), (.ref P)])) rfl rfl (hb hby dj65_59_27) _ ?_
      show Sg p e below (s₁.setTop (mkF m 28 #[sR P, sI 0, sI 2, sI key, sI 0, sI 1, sI 0, sU] [(.int x0)])) _
      refine XS.istore X0.here hx rfl (hb hby dj65_59_28) rfl (l' := #[sR P, sI 0, sI 2, sI key, sI 0, sI 1, sI 0, sI x0]) rfl ?_
      refine XS.iload X0.here hx rfl (hb hby dj65_59_30) rfl ?_
      refine XS.iloadN X0.here hx rfl (hb hby dj65_59_32) rfl ?_
      show Sg p e below (s₁.setTop (mkF m 33 #[sR P, sI 0, sI 2, sI key, sI 0, sI 1, sI 0, sI x0] [(.int key), (.int x0)])) _
      exact k)
    by_cases q929 : x0 < key
    · skip
      obtain ⟨cl930, Ar930, -, S930, N930, H930, -⟩ := id AP
      have hin930 : ¬ ((1 : Int32) < 0 ∨ cl930.slots.size ≤ ((1 : Int32)).toNatClampNeg) := inb_of S930 (own_inb hM (k := 1) (by simp) hm)
      have P931 : Rg p e below (s₁.setTop (mkF m 33 #[sR P, sI 0, sI 2, sI key, sI 1, sI 1, sI 1, sI x1] [(.int key), (.int x1)])) B0 := fun t k => P928 t (by
        refine XS.icmpNo X0.here hx rfl (hb hby dj65_59_33) rfl (tlt (show x0 < key from q929)).2.1 ?_
        refine XS.iload X0.here hx rfl (hb hby dj65_59_36) rfl ?_
        refine XS.iconst X0.here hx rfl (hb hby dj65_59_38) ?_
        refine XS.iadd X0.here hx rfl (hb hby dj65_59_39) rfl ?_
        refine XS.istore X0.here hx rfl (hb hby dj65_59_40) rfl (l' := #[sR P, sI 0, sI 2, sI key, sI 1, sI 1, sI 0, sI x0]) rfl ?_
        refine XS.goto X0.here hx rfl (pc0 := 42) (pc' := 63) rfl (hb hby dj65_59_42) (by decide) (by decide) ?_
        refine XS.goto X0.here hx rfl (pc0 := 63) (pc' := 8) rfl (hb hby dj65_59_63) (by decide) (by decide) ?_
        refine XS.iload X0.here hx rfl (hb hby dj65_59_8) rfl ?_
        refine XS.iload X0.here hx rfl (hb hby dj65_59_10) rfl ?_
        refine XS.icmpNo X0.here hx rfl (hb hby dj65_59_12) rfl (flt (show ¬ ((1 : Int32) < (1 : Int32)) from (by decide))).2.2.1 ?_
        refine XS.iload X0.here hx rfl (hb hby dj65_59_15) rfl ?_
        refine XS.iload X0.here hx rfl (hb hby dj65_59_17) rfl ?_
        refine XS.iadd X0.here hx rfl (hb hby dj65_59_19) rfl ?_
        refine XS.iconst X0.here hx rfl (hb hby dj65_59_20) ?_
        refine XS.iushr X0.here hx rfl (hb hby dj65_59_21) rfl ?_
        refine XS.istore X0.here hx rfl (hb hby dj65_59_22) rfl (l' := #[sR P, sI 0, sI 2, sI key, sI 1, sI 1, sI 1, sI x0]) rfl ?_
        refine XS.aloadN X0.here hx rfl (hb hby dj65_59_24) rfl rfl ?_
        refine XS.iload X0.here hx rfl (hb hby dj65_59_25) rfl ?_
        show Sg p e below (s₁.setTop (mkF m 27 #[sR P, sI 0, sI 2, sI key, sI 1, sI 1, sI 1, sI x0] [(.int (1 : Int32)), (.ref P)])) _
        refine X0.iaload hx (j := (1 : Int32)) (v := (.int x1)) (by rw [e0]; exact Ar930.1) (State.isArrayOf_alike hZ.alike Ar930.2.1) Ar930.2.2 hin930 (H930.at hin930 rfl) (g := (mkF m 27 #[sR P, sI 0, sI 2, sI key, sI 1, sI 1, sI 1, sI x0] [(.int (1 : Int32)), (.ref P)])) rfl rfl (hb hby dj65_59_27) _ ?_
        show Sg p e below (s₁.setTop (mkF m 28 #[sR P, sI 0, sI 2, sI key, sI 1, sI 1, sI 1, sI x0] [(.int x1)])) _
        refine XS.istore X0.here hx rfl (hb hby dj65_59_28) rfl (l' := #[sR P, sI 0, sI 2, sI key, sI 1, sI 1, sI 1, sI x1]) rfl ?_
        refine XS.iload X0.here hx rfl (hb hby dj65_59_30) rfl ?_
        refine XS.iloadN X0.here hx rfl (hb hby dj65_59_32) rfl ?_
        show Sg p e below (s₁.setTop (mkF m 33 #[sR P, sI 0, sI 2, sI key, sI 1, sI 1, sI 1, sI x1] [(.int key), (.int x1)])) _
        exact k)
      by_cases q932 : x1 < key
      · skip
        have tq929 := Int32.lt_iff_toInt_lt.mp q929
        have tq932 := Int32.lt_iff_toInt_lt.mp q932
        obtain ⟨fs933, hr933, hrun933, hended933, hW933, hsame933⟩ := X0.leave (v := some (.int (-3 : Int32))) (fun h => by rw [Bd.returns] at h; cases h)
        refine ⟨_, _, pre0 _ (P931 _ ?_), hrun933, hended933, _, _, rfl, ?_, ⟨⟨_, rfl⟩, hW933, hsame933.mono (Nat.le_of_ble_eq_true rfl) (Nat.le_of_ble_eq_true rfl)⟩⟩
        · show Sg p e below (s₁.setTop (mkF m 33 #[sR P, sI 0, sI 2, sI key, sI 1, sI 1, sI 1, sI x1] [(.int key), (.int x1)])) _
          refine XS.icmpNo X0.here hx rfl (hb hby dj65_59_33) rfl (tlt (show x1 < key from q932)).2.1 ?_
          refine XS.iload X0.here hx rfl (hb hby dj65_59_36) rfl ?_
          refine XS.iconst X0.here hx rfl (hb hby dj65_59_38) ?_
          refine XS.iadd X0.here hx rfl (hb hby dj65_59_39) rfl ?_
          refine XS.istore X0.here hx rfl (hb hby dj65_59_40) rfl (l' := #[sR P, sI 0, sI 2, sI key, sI 2, sI 1, sI 1, sI x1]) rfl ?_
          refine XS.goto X0.here hx rfl (pc0 := 42) (pc' := 63) rfl (hb hby dj65_59_42) (by decide) (by decide) ?_
          refine XS.goto X0.here hx rfl (pc0 := 63) (pc' := 8) rfl (hb hby dj65_59_63) (by decide) (by decide) ?_
          refine XS.iload X0.here hx rfl (hb hby dj65_59_8) rfl ?_
          refine XS.iload X0.here hx rfl (hb hby dj65_59_10) rfl ?_
          refine XS.icmpYes X0.here hx rfl (pc0 := 12) (pc' := 66) rfl (hb hby dj65_59_12) rfl (tlt (show (1 : Int32) < (2 : Int32) from (by decide))).2.2.1 (by decide) (by decide) ?_
          refine XS.iload X0.here hx rfl (hb hby dj65_59_66) rfl ?_
          refine XS.iconst X0.here hx rfl (hb hby dj65_59_68) ?_
          refine XS.iadd X0.here hx rfl (hb hby dj65_59_69) rfl ?_
          refine XS.ineg X0.here hx rfl (hb hby dj65_59_70) rfl ?_
          show Sg p e below (s₁.setTop (mkF m 71 #[sR P, sI 0, sI 2, sI key, sI 2, sI 1, sI 1, sI x1] [(.int (-3 : Int32))])) _
          exact retI X0 hx Bd.returns (hb hby dj65_59_71) hr933
        · show Q_bs0 [x0, x1] key h0 n0 _ s₁.heap _
          rw [e0]
          exact ⟨_, rfl, N0, rfl, Or.inr ⟨by decide, fun hm => by (simp only [List.mem_cons, List.not_mem_nil, or_false] at hm; rcases hm with e | e <;> (have e' := congrArg Int32.toInt e; omega))⟩⟩
      · skip
        have P934 : Rg p e below (s₁.setTop (mkF m 48 #[sR P, sI 0, sI 2, sI key, sI 1, sI 1, sI 1, sI x1] [(.int key), (.int x1)])) B0 := fun t k => P931 t (by
          refine XS.icmpYes X0.here hx rfl (pc0 := 33) (pc' := 45) rfl (hb hby dj65_59_33) rfl (flt (show ¬ (x1 < key) from q932)).2.1 (by decide) (by decide) ?_
          refine XS.iload X0.here hx rfl (hb hby dj65_59_45) rfl ?_
          refine XS.iloadN X0.here hx rfl (hb hby dj65_59_47) rfl ?_
          show Sg p e below (s₁.setTop (mkF m 48 #[sR P, sI 0, sI 2, sI key, sI 1, sI 1, sI 1, sI x1] [(.int key), (.int x1)])) _
          exact k)
        by_cases q935 : key < x1
        · skip
          have tq929 := Int32.lt_iff_toInt_lt.mp q929
          have tq932 := fun z => q932 (Int32.lt_iff_toInt_lt.mpr z)
          have tq935 := Int32.lt_iff_toInt_lt.mp q935
          obtain ⟨fs936, hr936, hrun936, hended936, hW936, hsame936⟩ := X0.leave (v := some (.int (-2 : Int32))) (fun h => by rw [Bd.returns] at h; cases h)
          refine ⟨_, _, pre0 _ (P934 _ ?_), hrun936, hended936, _, _, rfl, ?_, ⟨⟨_, rfl⟩, hW936, hsame936.mono (Nat.le_of_ble_eq_true rfl) (Nat.le_of_ble_eq_true rfl)⟩⟩
          · show Sg p e below (s₁.setTop (mkF m 48 #[sR P, sI 0, sI 2, sI key, sI 1, sI 1, sI 1, sI x1] [(.int key), (.int x1)])) _
            refine XS.icmpNo X0.here hx rfl (hb hby dj65_59_48) rfl (tlt (show key < x1 from q935)).2.2.2 ?_
            refine XS.iload X0.here hx rfl (hb hby dj65_59_51) rfl ?_
            refine XS.iconst X0.here hx rfl (hb hby dj65_59_53) ?_
            refine XS.isub X0.here hx rfl (hb hby dj65_59_54) rfl ?_
            refine XS.istore X0.here hx rfl (hb hby dj65_59_55) rfl (l' := #[sR P, sI 0, sI 2, sI key, sI 1, sI 0, sI 1, sI x1]) rfl ?_
            refine XS.goto X0.here hx rfl (pc0 := 57) (pc' := 63) rfl (hb hby dj65_59_57) (by decide) (by decide) ?_
            refine XS.goto X0.here hx rfl (pc0 := 63) (pc' := 8) rfl (hb hby dj65_59_63) (by decide) (by decide) ?_
            refine XS.iload X0.here hx rfl (hb hby dj65_59_8) rfl ?_
            refine XS.iload X0.here hx rfl (hb hby dj65_59_10) rfl ?_
            refine XS.icmpYes X0.here hx rfl (pc0 := 12) (pc' := 66) rfl (hb hby dj65_59_12) rfl (tlt (show (0 : Int32) < (1 : Int32) from (by decide))).2.2.1 (by decide) (by decide) ?_
            refine XS.iload X0.here hx rfl (hb hby dj65_59_66) rfl ?_
            refine XS.iconst X0.here hx rfl (hb hby dj65_59_68) ?_
            refine XS.iadd X0.here hx rfl (hb hby dj65_59_69) rfl ?_
            refine XS.ineg X0.here hx rfl (hb hby dj65_59_70) rfl ?_
            show Sg p e below (s₁.setTop (mkF m 71 #[sR P, sI 0, sI 2, sI key, sI 1, sI 0, sI 1, sI x1] [(.int (-2 : Int32))])) _
            exact retI X0 hx Bd.returns (hb hby dj65_59_71) hr936
          · show Q_bs0 [x0, x1] key h0 n0 _ s₁.heap _
            rw [e0]
            exact ⟨_, rfl, N0, rfl, Or.inr ⟨by decide, fun hm => by (simp only [List.mem_cons, List.not_mem_nil, or_false] at hm; rcases hm with e | e <;> (have e' := congrArg Int32.toInt e; omega))⟩⟩
        · skip
          obtain ⟨fs937, hr937, hrun937, hended937, hW937, hsame937⟩ := X0.leave (v := some (.int (1 : Int32))) (fun h => by rw [Bd.returns] at h; cases h)
          refine ⟨_, _, pre0 _ (P934 _ ?_), hrun937, hended937, _, _, rfl, ?_, ⟨⟨_, rfl⟩, hW937, hsame937.mono (Nat.le_of_ble_eq_true rfl) (Nat.le_of_ble_eq_true rfl)⟩⟩
          · show Sg p e below (s₁.setTop (mkF m 48 #[sR P, sI 0, sI 2, sI key, sI 1, sI 1, sI 1, sI x1] [(.int key), (.int x1)])) _
            refine XS.icmpYes X0.here hx rfl (pc0 := 48) (pc' := 60) rfl (hb hby dj65_59_48) rfl (flt (show ¬ (key < x1) from q935)).2.2.2 (by decide) (by decide) ?_
            refine XS.iload X0.here hx rfl (hb hby dj65_59_60) rfl ?_
            show Sg p e below (s₁.setTop (mkF m 62 #[sR P, sI 0, sI 2, sI key, sI 1, sI 1, sI 1, sI x1] [(.int (1 : Int32))])) _
            exact retI X0 hx Bd.returns (hb hby dj65_59_62) hr937
          · show Q_bs0 [x0, x1] key h0 n0 _ s₁.heap _
            rw [e0]
            exact ⟨_, rfl, N0, rfl, Or.inl ⟨1, by simp, rfl, congrArg some (own_eq3 q932 q935)⟩⟩
    · skip
      have P938 : Rg p e below (s₁.setTop (mkF m 48 #[sR P, sI 0, sI 2, sI key, sI 0, sI 1, sI 0, sI x0] [(.int key), (.int x0)])) B0 := fun t k => P928 t (by
        refine XS.icmpYes X0.here hx rfl (pc0 := 33) (pc' := 45) rfl (hb hby dj65_59_33) rfl (flt (show ¬ (x0 < key) from q929)).2.1 (by decide) (by decide) ?_
        refine XS.iload X0.here hx rfl (hb hby dj65_59_45) rfl ?_
        refine XS.iloadN X0.here hx rfl (hb hby dj65_59_47) rfl ?_
        show Sg p e below (s₁.setTop (mkF m 48 #[sR P, sI 0, sI 2, sI key, sI 0, sI 1, sI 0, sI x0] [(.int key), (.int x0)])) _
        exact k)
      by_cases q939 : key < x0
      · skip
        have tq929 := fun z => q929 (Int32.lt_iff_toInt_lt.mpr z)
        have tq939 := Int32.lt_iff_toInt_lt.mp q939
        obtain ⟨fs940, hr940, hrun940, hended940, hW940, hsame940⟩ := X0.leave (v := some (.int (-1 : Int32))) (fun h => by rw [Bd.returns] at h; cases h)
        refine ⟨_, _, pre0 _ (P938 _ ?_), hrun940, hended940, _, _, rfl, ?_, ⟨⟨_, rfl⟩, hW940, hsame940.mono (Nat.le_of_ble_eq_true rfl) (Nat.le_of_ble_eq_true rfl)⟩⟩
        · show Sg p e below (s₁.setTop (mkF m 48 #[sR P, sI 0, sI 2, sI key, sI 0, sI 1, sI 0, sI x0] [(.int key), (.int x0)])) _
          refine XS.icmpNo X0.here hx rfl (hb hby dj65_59_48) rfl (tlt (show key < x0 from q939)).2.2.2 ?_
          refine XS.iload X0.here hx rfl (hb hby dj65_59_51) rfl ?_
          refine XS.iconst X0.here hx rfl (hb hby dj65_59_53) ?_
          refine XS.isub X0.here hx rfl (hb hby dj65_59_54) rfl ?_
          refine XS.istore X0.here hx rfl (hb hby dj65_59_55) rfl (l' := #[sR P, sI 0, sI 2, sI key, sI 0, sI (-1), sI 0, sI x0]) rfl ?_
          refine XS.goto X0.here hx rfl (pc0 := 57) (pc' := 63) rfl (hb hby dj65_59_57) (by decide) (by decide) ?_
          refine XS.goto X0.here hx rfl (pc0 := 63) (pc' := 8) rfl (hb hby dj65_59_63) (by decide) (by decide) ?_
          refine XS.iload X0.here hx rfl (hb hby dj65_59_8) rfl ?_
          refine XS.iload X0.here hx rfl (hb hby dj65_59_10) rfl ?_
          refine XS.icmpYes X0.here hx rfl (pc0 := 12) (pc' := 66) rfl (hb hby dj65_59_12) rfl (tlt (show (-1 : Int32) < (0 : Int32) from (by decide))).2.2.1 (by decide) (by decide) ?_
          refine XS.iload X0.here hx rfl (hb hby dj65_59_66) rfl ?_
          refine XS.iconst X0.here hx rfl (hb hby dj65_59_68) ?_
          refine XS.iadd X0.here hx rfl (hb hby dj65_59_69) rfl ?_
          refine XS.ineg X0.here hx rfl (hb hby dj65_59_70) rfl ?_
          show Sg p e below (s₁.setTop (mkF m 71 #[sR P, sI 0, sI 2, sI key, sI 0, sI (-1), sI 0, sI x0] [(.int (-1 : Int32))])) _
          exact retI X0 hx Bd.returns (hb hby dj65_59_71) hr940
        · show Q_bs0 [x0, x1] key h0 n0 _ s₁.heap _
          rw [e0]
          exact ⟨_, rfl, N0, rfl, Or.inr ⟨by decide, fun hm => by (simp only [List.mem_cons, List.not_mem_nil, or_false] at hm; rcases hm with e | e <;> (have e' := congrArg Int32.toInt e; omega))⟩⟩
      · skip
        obtain ⟨fs941, hr941, hrun941, hended941, hW941, hsame941⟩ := X0.leave (v := some (.int (0 : Int32))) (fun h => by rw [Bd.returns] at h; cases h)
        refine ⟨_, _, pre0 _ (P938 _ ?_), hrun941, hended941, _, _, rfl, ?_, ⟨⟨_, rfl⟩, hW941, hsame941.mono (Nat.le_of_ble_eq_true rfl) (Nat.le_of_ble_eq_true rfl)⟩⟩
        · show Sg p e below (s₁.setTop (mkF m 48 #[sR P, sI 0, sI 2, sI key, sI 0, sI 1, sI 0, sI x0] [(.int key), (.int x0)])) _
          refine XS.icmpYes X0.here hx rfl (pc0 := 48) (pc' := 60) rfl (hb hby dj65_59_48) rfl (flt (show ¬ (key < x0) from q939)).2.2.2 (by decide) (by decide) ?_
          refine XS.iload X0.here hx rfl (hb hby dj65_59_60) rfl ?_
          show Sg p e below (s₁.setTop (mkF m 62 #[sR P, sI 0, sI 2, sI key, sI 0, sI 1, sI 0, sI x0] [(.int (0 : Int32))])) _
          exact retI X0 hx Bd.returns (hb hby dj65_59_62) hr941
        · show Q_bs0 [x0, x1] key h0 n0 _ s₁.heap _
          rw [e0]
          exact ⟨_, rfl, N0, rfl, Or.inl ⟨0, by simp, rfl, congrArg some (own_eq3 q929 q939)⟩⟩
  · skip
    have hc' : cn = (3 : Int32) := hc
    subst hc'
    obtain ⟨hs01', hs12'⟩ := own_p3 hs
    have hs01 := Int32.lt_iff_toInt_lt.mp hs01'
    have hs12 := Int32.lt_iff_toInt_lt.mp hs12'
    obtain ⟨cl942, Ar942, -, S942, N942, H942, -⟩ := id AP
    have hin942 : ¬ ((1 : Int32) < 0 ∨ cl942.slots.size ≤ ((1 : Int32)).toNatClampNeg) := inb_of S942 (own_inb hM (k := 1) (by simp) hm)
    have P943 : Rg p e below (s₁.setTop (mkF m 33 #[sR P, sI 0, sI 3, sI key, sI 0, sI 2, sI 1, sI x1] [(.int key), (.int x1)])) B0 := fun t k => P0 t (by
      refine XS.iloadN X0.here hx rfl (hb hby dj65_59_0) rfl ?_
      refine XS.istore X0.here hx rfl (hb hby dj65_59_1) rfl (l' := #[sR P, sI 0, sI 3, sI key, sI 0, sU, sU, sU]) rfl ?_
      refine XS.iloadN X0.here hx rfl (hb hby dj65_59_3) rfl ?_
      refine XS.iconst X0.here hx rfl (hb hby dj65_59_4) ?_
      refine XS.isub X0.here hx rfl (hb hby dj65_59_5) rfl ?_
      refine XS.istore X0.here hx rfl (hb hby dj65_59_6) rfl (l' := #[sR P, sI 0, sI 3, sI key, sI 0, sI 2, sU, sU]) rfl ?_
      refine XS.iload X0.here hx rfl (hb hby dj65_59_8) rfl ?_
      refine XS.iload X0.here hx rfl (hb hby dj65_59_10) rfl ?_
      refine XS.icmpNo X0.here hx rfl (hb hby dj65_59_12) rfl (flt (show ¬ ((2 : Int32) < (0 : Int32)) from (by decide))).2.2.1 ?_
      refine XS.iload X0.here hx rfl (hb hby dj65_59_15) rfl ?_
      refine XS.iload X0.here hx rfl (hb hby dj65_59_17) rfl ?_
      refine XS.iadd X0.here hx rfl (hb hby dj65_59_19) rfl ?_
      refine XS.iconst X0.here hx rfl (hb hby dj65_59_20) ?_
      refine XS.iushr X0.here hx rfl (hb hby dj65_59_21) rfl ?_
      refine XS.istore X0.here hx rfl (hb hby dj65_59_22) rfl (l' := #[sR P, sI 0, sI 3, sI key, sI 0, sI 2, sI 1, sU]) rfl ?_
      refine XS.aloadN X0.here hx rfl (hb hby dj65_59_24) rfl rfl ?_
      refine XS.iload X0.here hx rfl (hb hby dj65_59_25) rfl ?_
      show Sg p e below (s₁.setTop (mkF m 27 #[sR P, sI 0, sI 3, sI key, sI 0, sI 2, sI 1, sU] [(.int (1 : Int32)), (.ref P)])) _
      refine X0.iaload hx (j := (1 : Int32)) (v := (.int x1)) (by rw [e0]; exact Ar942.1) (State.isArrayOf_alike hZ.alike Ar942.2.1) Ar942.2.2 hin942 (H942.at hin942 rfl) (g := (mkF m 27 #[sR P, sI 0, sI 3, sI key, sI 0, sI 2, sI 1, sU] [(.int (1 : Int32)), (.ref P)])) rfl rfl (hb hby dj65_59_27) _ ?_
      show Sg p e below (s₁.setTop (mkF m 28 #[sR P, sI 0, sI 3, sI key, sI 0, sI 2, sI 1, sU] [(.int x1)])) _
      refine XS.istore X0.here hx rfl (hb hby dj65_59_28) rfl (l' := #[sR P, sI 0, sI 3, sI key, sI 0, sI 2, sI 1, sI x1]) rfl ?_
      refine XS.iload X0.here hx rfl (hb hby dj65_59_30) rfl ?_
      refine XS.iloadN X0.here hx rfl (hb hby dj65_59_32) rfl ?_
      show Sg p e below (s₁.setTop (mkF m 33 #[sR P, sI 0, sI 3, sI key, sI 0, sI 2, sI 1, sI x1] [(.int key), (.int x1)])) _
      exact k)
    by_cases q944 : x1 < key
    · skip
      obtain ⟨cl945, Ar945, -, S945, N945, H945, -⟩ := id AP
      have hin945 : ¬ ((2 : Int32) < 0 ∨ cl945.slots.size ≤ ((2 : Int32)).toNatClampNeg) := inb_of S945 (own_inb hM (k := 2) (by simp) hm)
      have P946 : Rg p e below (s₁.setTop (mkF m 33 #[sR P, sI 0, sI 3, sI key, sI 2, sI 2, sI 2, sI x2] [(.int key), (.int x2)])) B0 := fun t k => P943 t (by
        refine XS.icmpNo X0.here hx rfl (hb hby dj65_59_33) rfl (tlt (show x1 < key from q944)).2.1 ?_
        refine XS.iload X0.here hx rfl (hb hby dj65_59_36) rfl ?_
        refine XS.iconst X0.here hx rfl (hb hby dj65_59_38) ?_
        refine XS.iadd X0.here hx rfl (hb hby dj65_59_39) rfl ?_
        refine XS.istore X0.here hx rfl (hb hby dj65_59_40) rfl (l' := #[sR P, sI 0, sI 3, sI key, sI 2, sI 2, sI 1, sI x1]) rfl ?_
        refine XS.goto X0.here hx rfl (pc0 := 42) (pc' := 63) rfl (hb hby dj65_59_42) (by decide) (by decide) ?_
        refine XS.goto X0.here hx rfl (pc0 := 63) (pc' := 8) rfl (hb hby dj65_59_63) (by decide) (by decide) ?_
        refine XS.iload X0.here hx rfl (hb hby dj65_59_8) rfl ?_
        refine XS.iload X0.here hx rfl (hb hby dj65_59_10) rfl ?_
        refine XS.icmpNo X0.here hx rfl (hb hby dj65_59_12) rfl (flt (show ¬ ((2 : Int32) < (2 : Int32)) from (by decide))).2.2.1 ?_
        refine XS.iload X0.here hx rfl (hb hby dj65_59_15) rfl ?_
        refine XS.iload X0.here hx rfl (hb hby dj65_59_17) rfl ?_
        refine XS.iadd X0.here hx rfl (hb hby dj65_59_19) rfl ?_
        refine XS.iconst X0.here hx rfl (hb hby dj65_59_20) ?_
        refine XS.iushr X0.here hx rfl (hb hby dj65_59_21) rfl ?_
        refine XS.istore X0.here hx rfl (hb hby dj65_59_22) rfl (l' := #[sR P, sI 0, sI 3, sI key, sI 2, sI 2, sI 2, sI x1]) rfl ?_
        refine XS.aloadN X0.here hx rfl (hb hby dj65_59_24) rfl rfl ?_
        refine XS.iload X0.here hx rfl (hb hby dj65_59_25) rfl ?_
        show Sg p e below (s₁.setTop (mkF m 27 #[sR P, sI 0, sI 3, sI key, sI 2, sI 2, sI 2, sI x1] [(.int (2 : Int32)), (.ref P)])) _
        refine X0.iaload hx (j := (2 : Int32)) (v := (.int x2)) (by rw [e0]; exact Ar945.1) (State.isArrayOf_alike hZ.alike Ar945.2.1) Ar945.2.2 hin945 (H945.at hin945 rfl) (g := (mkF m 27 #[sR P, sI 0, sI 3, sI key, sI 2, sI 2, sI 2, sI x1] [(.int (2 : Int32)), (.ref P)])) rfl rfl (hb hby dj65_59_27) _ ?_
        show Sg p e below (s₁.setTop (mkF m 28 #[sR P, sI 0, sI 3, sI key, sI 2, sI 2, sI 2, sI x1] [(.int x2)])) _
        refine XS.istore X0.here hx rfl (hb hby dj65_59_28) rfl (l' := #[sR P, sI 0, sI 3, sI key, sI 2, sI 2, sI 2, sI x2]) rfl ?_
        refine XS.iload X0.here hx rfl (hb hby dj65_59_30) rfl ?_
        refine XS.iloadN X0.here hx rfl (hb hby dj65_59_32) rfl ?_
        show Sg p e below (s₁.setTop (mkF m 33 #[sR P, sI 0, sI 3, sI key, sI 2, sI 2, sI 2, sI x2] [(.int key), (.int x2)])) _
        exact k)
      by_cases q947 : x2 < key
      · skip
        have tq944 := Int32.lt_iff_toInt_lt.mp q944
        have tq947 := Int32.lt_iff_toInt_lt.mp q947
        obtain ⟨fs948, hr948, hrun948, hended948, hW948, hsame948⟩ := X0.leave (v := some (.int (-4 : Int32))) (fun h => by rw [Bd.returns] at h; cases h)
        refine ⟨_, _, pre0 _ (P946 _ ?_), hrun948, hended948, _, _, rfl, ?_, ⟨⟨_, rfl⟩, hW948, hsame948.mono (Nat.le_of_ble_eq_true rfl) (Nat.le_of_ble_eq_true rfl)⟩⟩
        · show Sg p e below (s₁.setTop (mkF m 33 #[sR P, sI 0, sI 3, sI key, sI 2, sI 2, sI 2, sI x2] [(.int key), (.int x2)])) _
          refine XS.icmpNo X0.here hx rfl (hb hby dj65_59_33) rfl (tlt (show x2 < key from q947)).2.1 ?_
          refine XS.iload X0.here hx rfl (hb hby dj65_59_36) rfl ?_
          refine XS.iconst X0.here hx rfl (hb hby dj65_59_38) ?_
          refine XS.iadd X0.here hx rfl (hb hby dj65_59_39) rfl ?_
          refine XS.istore X0.here hx rfl (hb hby dj65_59_40) rfl (l' := #[sR P, sI 0, sI 3, sI key, sI 3, sI 2, sI 2, sI x2]) rfl ?_
          refine XS.goto X0.here hx rfl (pc0 := 42) (pc' := 63) rfl (hb hby dj65_59_42) (by decide) (by decide) ?_
          refine XS.goto X0.here hx rfl (pc0 := 63) (pc' := 8) rfl (hb hby dj65_59_63) (by decide) (by decide) ?_
          refine XS.iload X0.here hx rfl (hb hby dj65_59_8) rfl ?_
          refine XS.iload X0.here hx rfl (hb hby dj65_59_10) rfl ?_
          refine XS.icmpYes X0.here hx rfl (pc0 := 12) (pc' := 66) rfl (hb hby dj65_59_12) rfl (tlt (show (2 : Int32) < (3 : Int32) from (by decide))).2.2.1 (by decide) (by decide) ?_
          refine XS.iload X0.here hx rfl (hb hby dj65_59_66) rfl ?_
          refine XS.iconst X0.here hx rfl (hb hby dj65_59_68) ?_
          refine XS.iadd X0.here hx rfl (hb hby dj65_59_69) rfl ?_
          refine XS.ineg X0.here hx rfl (hb hby dj65_59_70) rfl ?_
          show Sg p e below (s₁.setTop (mkF m 71 #[sR P, sI 0, sI 3, sI key, sI 3, sI 2, sI 2, sI x2] [(.int (-4 : Int32))])) _
          exact retI X0 hx Bd.returns (hb hby dj65_59_71) hr948
        · show Q_bs0 [x0, x1, x2] key h0 n0 _ s₁.heap _
          rw [e0]
          exact ⟨_, rfl, N0, rfl, Or.inr ⟨by decide, fun hm => by (simp only [List.mem_cons, List.not_mem_nil, or_false] at hm; rcases hm with e | e | e <;> (have e' := congrArg Int32.toInt e; omega))⟩⟩
      · skip
        have P949 : Rg p e below (s₁.setTop (mkF m 48 #[sR P, sI 0, sI 3, sI key, sI 2, sI 2, sI 2, sI x2] [(.int key), (.int x2)])) B0 := fun t k => P946 t (by
          refine XS.icmpYes X0.here hx rfl (pc0 := 33) (pc' := 45) rfl (hb hby dj65_59_33) rfl (flt (show ¬ (x2 < key) from q947)).2.1 (by decide) (by decide) ?_
          refine XS.iload X0.here hx rfl (hb hby dj65_59_45) rfl ?_
          refine XS.iloadN X0.here hx rfl (hb hby dj65_59_47) rfl ?_
          show Sg p e below (s₁.setTop (mkF m 48 #[sR P, sI 0, sI 3, sI key, sI 2, sI 2, sI 2, sI x2] [(.int key), (.int x2)])) _
          exact k)
        by_cases q950 : key < x2
        · skip
          have tq944 := Int32.lt_iff_toInt_lt.mp q944
          have tq947 := fun z => q947 (Int32.lt_iff_toInt_lt.mpr z)
          have tq950 := Int32.lt_iff_toInt_lt.mp q950
          obtain ⟨fs951, hr951, hrun951, hended951, hW951, hsame951⟩ := X0.leave (v := some (.int (-3 : Int32))) (fun h => by rw [Bd.returns] at h; cases h)
          refine ⟨_, _, pre0 _ (P949 _ ?_), hrun951, hended951, _, _, rfl, ?_, ⟨⟨_, rfl⟩, hW951, hsame951.mono (Nat.le_of_ble_eq_true rfl) (Nat.le_of_ble_eq_true rfl)⟩⟩
          · show Sg p e below (s₁.setTop (mkF m 48 #[sR P, sI 0, sI 3, sI key, sI 2, sI 2, sI 2, sI x2] [(.int key), (.int x2)])) _
            refine XS.icmpNo X0.here hx rfl (hb hby dj65_59_48) rfl (tlt (show key < x2 from q950)).2.2.2 ?_
            refine XS.iload X0.here hx rfl (hb hby dj65_59_51) rfl ?_
            refine XS.iconst X0.here hx rfl (hb hby dj65_59_53) ?_
            refine XS.isub X0.here hx rfl (hb hby dj65_59_54) rfl ?_
            refine XS.istore X0.here hx rfl (hb hby dj65_59_55) rfl (l' := #[sR P, sI 0, sI 3, sI key, sI 2, sI 1, sI 2, sI x2]) rfl ?_
            refine XS.goto X0.here hx rfl (pc0 := 57) (pc' := 63) rfl (hb hby dj65_59_57) (by decide) (by decide) ?_
            refine XS.goto X0.here hx rfl (pc0 := 63) (pc' := 8) rfl (hb hby dj65_59_63) (by decide) (by decide) ?_
            refine XS.iload X0.here hx rfl (hb hby dj65_59_8) rfl ?_
            refine XS.iload X0.here hx rfl (hb hby dj65_59_10) rfl ?_
            refine XS.icmpYes X0.here hx rfl (pc0 := 12) (pc' := 66) rfl (hb hby dj65_59_12) rfl (tlt (show (1 : Int32) < (2 : Int32) from (by decide))).2.2.1 (by decide) (by decide) ?_
            refine XS.iload X0.here hx rfl (hb hby dj65_59_66) rfl ?_
            refine XS.iconst X0.here hx rfl (hb hby dj65_59_68) ?_
            refine XS.iadd X0.here hx rfl (hb hby dj65_59_69) rfl ?_
            refine XS.ineg X0.here hx rfl (hb hby dj65_59_70) rfl ?_
            show Sg p e below (s₁.setTop (mkF m 71 #[sR P, sI 0, sI 3, sI key, sI 2, sI 1, sI 2, sI x2] [(.int (-3 : Int32))])) _
            exact retI X0 hx Bd.returns (hb hby dj65_59_71) hr951
          · show Q_bs0 [x0, x1, x2] key h0 n0 _ s₁.heap _
            rw [e0]
            exact ⟨_, rfl, N0, rfl, Or.inr ⟨by decide, fun hm => by (simp only [List.mem_cons, List.not_mem_nil, or_false] at hm; rcases hm with e | e | e <;> (have e' := congrArg Int32.toInt e; omega))⟩⟩
        · skip
          obtain ⟨fs952, hr952, hrun952, hended952, hW952, hsame952⟩ := X0.leave (v := some (.int (2 : Int32))) (fun h => by rw [Bd.returns] at h; cases h)
          refine ⟨_, _, pre0 _ (P949 _ ?_), hrun952, hended952, _, _, rfl, ?_, ⟨⟨_, rfl⟩, hW952, hsame952.mono (Nat.le_of_ble_eq_true rfl) (Nat.le_of_ble_eq_true rfl)⟩⟩
          · show Sg p e below (s₁.setTop (mkF m 48 #[sR P, sI 0, sI 3, sI key, sI 2, sI 2, sI 2, sI x2] [(.int key), (.int x2)])) _
            refine XS.icmpYes X0.here hx rfl (pc0 := 48) (pc' := 60) rfl (hb hby dj65_59_48) rfl (flt (show ¬ (key < x2) from q950)).2.2.2 (by decide) (by decide) ?_
            refine XS.iload X0.here hx rfl (hb hby dj65_59_60) rfl ?_
            show Sg p e below (s₁.setTop (mkF m 62 #[sR P, sI 0, sI 3, sI key, sI 2, sI 2, sI 2, sI x2] [(.int (2 : Int32))])) _
            exact retI X0 hx Bd.returns (hb hby dj65_59_62) hr952
          · show Q_bs0 [x0, x1, x2] key h0 n0 _ s₁.heap _
            rw [e0]
            exact ⟨_, rfl, N0, rfl, Or.inl ⟨2, by simp, rfl, congrArg some (own_eq3 q947 q950)⟩⟩
    · skip
      have P953 : Rg p e below (s₁.setTop (mkF m 48 #[sR P, sI 0, sI 3, sI key, sI 0, sI 2, sI 1, sI x1] [(.int key), (.int x1)])) B0 := fun t k => P943 t (by
        refine XS.icmpYes X0.here hx rfl (pc0 := 33) (pc' := 45) rfl (hb hby dj65_59_33) rfl (flt (show ¬ (x1 < key) from q944)).2.1 (by decide) (by decide) ?_
        refine XS.iload X0.here hx rfl (hb hby dj65_59_45) rfl ?_
        refine XS.iloadN X0.here hx rfl (hb hby dj65_59_47) rfl ?_
        show Sg p e below (s₁.setTop (mkF m 48 #[sR P, sI 0, sI 3, sI key, sI 0, sI 2, sI 1, sI x1] [(.int key), (.int x1)])) _
        exact k)
      by_cases q954 : key < x1
      · skip
        obtain ⟨cl955, Ar955, -, S955, N955, H955, -⟩ := id AP
        have hin955 : ¬ ((0 : Int32) < 0 ∨ cl955.slots.size ≤ ((0 : Int32)).toNatClampNeg) := inb_of S955 (own_inb hM (k := 0) (by simp) hm)
        have P956 : Rg p e below (s₁.setTop (mkF m 33 #[sR P, sI 0, sI 3, sI key, sI 0, sI 0, sI 0, sI x0] [(.int key), (.int x0)])) B0 := fun t k => P953 t (by
          refine XS.icmpNo X0.here hx rfl (hb hby dj65_59_48) rfl (tlt (show key < x1 from q954)).2.2.2 ?_
          refine XS.iload X0.here hx rfl (hb hby dj65_59_51) rfl ?_
          refine XS.iconst X0.here hx rfl (hb hby dj65_59_53) ?_
          refine XS.isub X0.here hx rfl (hb hby dj65_59_54) rfl ?_
          refine XS.istore X0.here hx rfl (hb hby dj65_59_55) rfl (l' := #[sR P, sI 0, sI 3, sI key, sI 0, sI 0, sI 1, sI x1]) rfl ?_
          refine XS.goto X0.here hx rfl (pc0 := 57) (pc' := 63) rfl (hb hby dj65_59_57) (by decide) (by decide) ?_
          refine XS.goto X0.here hx rfl (pc0 := 63) (pc' := 8) rfl (hb hby dj65_59_63) (by decide) (by decide) ?_
          refine XS.iload X0.here hx rfl (hb hby dj65_59_8) rfl ?_
          refine XS.iload X0.here hx rfl (hb hby dj65_59_10) rfl ?_
          refine XS.icmpNo X0.here hx rfl (hb hby dj65_59_12) rfl (flt (show ¬ ((0 : Int32) < (0 : Int32)) from (by decide))).2.2.1 ?_
          refine XS.iload X0.here hx rfl (hb hby dj65_59_15) rfl ?_
          refine XS.iload X0.here hx rfl (hb hby dj65_59_17) rfl ?_
          refine XS.iadd X0.here hx rfl (hb hby dj65_59_19) rfl ?_
          refine XS.iconst X0.here hx rfl (hb hby dj65_59_20) ?_
          refine XS.iushr X0.here hx rfl (hb hby dj65_59_21) rfl ?_
          refine XS.istore X0.here hx rfl (hb hby dj65_59_22) rfl (l' := #[sR P, sI 0, sI 3, sI key, sI 0, sI 0, sI 0, sI x1]) rfl ?_
          refine XS.aloadN X0.here hx rfl (hb hby dj65_59_24) rfl rfl ?_
          refine XS.iload X0.here hx rfl (hb hby dj65_59_25) rfl ?_
          show Sg p e below (s₁.setTop (mkF m 27 #[sR P, sI 0, sI 3, sI key, sI 0, sI 0, sI 0, sI x1] [(.int (0 : Int32)), (.ref P)])) _
          refine X0.iaload hx (j := (0 : Int32)) (v := (.int x0)) (by rw [e0]; exact Ar955.1) (State.isArrayOf_alike hZ.alike Ar955.2.1) Ar955.2.2 hin955 (H955.at hin955 rfl) (g := (mkF m 27 #[sR P, sI 0, sI 3, sI key, sI 0, sI 0, sI 0, sI x1] [(.int (0 : Int32)), (.ref P)])) rfl rfl (hb hby dj65_59_27) _ ?_
          show Sg p e below (s₁.setTop (mkF m 28 #[sR P, sI 0, sI 3, sI key, sI 0, sI 0, sI 0, sI x1] [(.int x0)])) _
          refine XS.istore X0.here hx rfl (hb hby dj65_59_28) rfl (l' := #[sR P, sI 0, sI 3, sI key, sI 0, sI 0, sI 0, sI x0]) rfl ?_
          refine XS.iload X0.here hx rfl (hb hby dj65_59_30) rfl ?_
          refine XS.iloadN X0.here hx rfl (hb hby dj65_59_32) rfl ?_
          show Sg p e below (s₁.setTop (mkF m 33 #[sR P, sI 0, sI 3, sI key, sI 0, sI 0, sI 0, sI x0] [(.int key), (.int x0)])) _
          exact k)
        by_cases q957 : x0 < key
        · skip
          have tq944 := fun z => q944 (Int32.lt_iff_toInt_lt.mpr z)
          have tq954 := Int32.lt_iff_toInt_lt.mp q954
          have tq957 := Int32.lt_iff_toInt_lt.mp q957
          obtain ⟨fs958, hr958, hrun958, hended958, hW958, hsame958⟩ := X0.leave (v := some (.int (-2 : Int32))) (fun h => by rw [Bd.returns] at h; cases h)
          refine ⟨_, _, pre0 _ (P956 _ ?_), hrun958, hended958, _, _, rfl, ?_, ⟨⟨_, rfl⟩, hW958, hsame958.mono (Nat.le_of_ble_eq_true rfl) (Nat.le_of_ble_eq_true rfl)⟩⟩
          · show Sg p e below (s₁.setTop (mkF m 33 #[sR P, sI 0, sI 3, sI key, sI 0, sI 0, sI 0, sI x0] [(.int key), (.int x0)])) _
            refine XS.icmpNo X0.here hx rfl (hb hby dj65_59_33) rfl (tlt (show x0 < key from q957)).2.1 ?_
            refine XS.iload X0.here hx rfl (hb hby dj65_59_36) rfl ?_
            refine XS.iconst X0.here hx rfl (hb hby dj65_59_38) ?_
            refine XS.iadd X0.here hx rfl (hb hby dj65_59_39) rfl ?_
            refine XS.istore X0.here hx rfl (hb hby dj65_59_40) rfl (l' := #[sR P, sI 0, sI 3, sI key, sI 1, sI 0, sI 0, sI x0]) rfl ?_
            refine XS.goto X0.here hx rfl (pc0 := 42) (pc' := 63) rfl (hb hby dj65_59_42) (by decide) (by decide) ?_
            refine XS.goto X0.here hx rfl (pc0 := 63) (pc' := 8) rfl (hb hby dj65_59_63) (by decide) (by decide) ?_
            refine XS.iload X0.here hx rfl (hb hby dj65_59_8) rfl ?_
            refine XS.iload X0.here hx rfl (hb hby dj65_59_10) rfl ?_
            refine XS.icmpYes X0.here hx rfl (pc0 := 12) (pc' := 66) rfl (hb hby dj65_59_12) rfl (tlt (show (0 : Int32) < (1 : Int32) from (by decide))).2.2.1 (by decide) (by decide) ?_
            refine XS.iload X0.here hx rfl (hb hby dj65_59_66) rfl ?_
            refine XS.iconst X0.here hx rfl (hb hby dj65_59_68) ?_
            refine XS.iadd X0.here hx rfl (hb hby dj65_59_69) rfl ?_
            refine XS.ineg X0.here hx rfl (hb hby dj65_59_70) rfl ?_
            show Sg p e below (s₁.setTop (mkF m 71 #[sR P, sI 0, sI 3, sI key, sI 1, sI 0, sI 0, sI x0] [(.int (-2 : Int32))])) _
            exact retI X0 hx Bd.returns (hb hby dj65_59_71) hr958
          · show Q_bs0 [x0, x1, x2] key h0 n0 _ s₁.heap _
            rw [e0]
            exact ⟨_, rfl, N0, rfl, Or.inr ⟨by decide, fun hm => by (simp only [List.mem_cons, List.not_mem_nil, or_false] at hm; rcases hm with e | e | e <;> (have e' := congrArg Int32.toInt e; omega))⟩⟩
        · skip
          have P959 : Rg p e below (s₁.setTop (mkF m 48 #[sR P, sI 0, sI 3, sI key, sI 0, sI 0, sI 0, sI x0] [(.int key), (.int x0)])) B0 := fun t k => P956 t (by
            refine XS.icmpYes X0.here hx rfl (pc0 := 33) (pc' := 45) rfl (hb hby dj65_59_33) rfl (flt (show ¬ (x0 < key) from q957)).2.1 (by decide) (by decide) ?_
            refine XS.iload X0.here hx rfl (hb hby dj65_59_45) rfl ?_
            refine XS.iloadN X0.here hx rfl (hb hby dj65_59_47) rfl ?_
            show Sg p e below (s₁.setTop (mkF m 48 #[sR P, sI 0, sI 3, sI key, sI 0, sI 0, sI 0, sI x0] [(.int key), (.int x0)])) _
            exact k)
          by_cases q960 : key < x0
          · skip
            have tq944 := fun z => q944 (Int32.lt_iff_toInt_lt.mpr z)
            have tq954 := Int32.lt_iff_toInt_lt.mp q954
            have tq957 := fun z => q957 (Int32.lt_iff_toInt_lt.mpr z)
            have tq960 := Int32.lt_iff_toInt_lt.mp q960
            obtain ⟨fs961, hr961, hrun961, hended961, hW961, hsame961⟩ := X0.leave (v := some (.int (-1 : Int32))) (fun h => by rw [Bd.returns] at h; cases h)
            refine ⟨_, _, pre0 _ (P959 _ ?_), hrun961, hended961, _, _, rfl, ?_, ⟨⟨_, rfl⟩, hW961, hsame961.mono (Nat.le_of_ble_eq_true rfl) (Nat.le_of_ble_eq_true rfl)⟩⟩
            · show Sg p e below (s₁.setTop (mkF m 48 #[sR P, sI 0, sI 3, sI key, sI 0, sI 0, sI 0, sI x0] [(.int key), (.int x0)])) _
              refine XS.icmpNo X0.here hx rfl (hb hby dj65_59_48) rfl (tlt (show key < x0 from q960)).2.2.2 ?_
              refine XS.iload X0.here hx rfl (hb hby dj65_59_51) rfl ?_
              refine XS.iconst X0.here hx rfl (hb hby dj65_59_53) ?_
              refine XS.isub X0.here hx rfl (hb hby dj65_59_54) rfl ?_
              refine XS.istore X0.here hx rfl (hb hby dj65_59_55) rfl (l' := #[sR P, sI 0, sI 3, sI key, sI 0, sI (-1), sI 0, sI x0]) rfl ?_
              refine XS.goto X0.here hx rfl (pc0 := 57) (pc' := 63) rfl (hb hby dj65_59_57) (by decide) (by decide) ?_
              refine XS.goto X0.here hx rfl (pc0 := 63) (pc' := 8) rfl (hb hby dj65_59_63) (by decide) (by decide) ?_
              refine XS.iload X0.here hx rfl (hb hby dj65_59_8) rfl ?_
              refine XS.iload X0.here hx rfl (hb hby dj65_59_10) rfl ?_
              refine XS.icmpYes X0.here hx rfl (pc0 := 12) (pc' := 66) rfl (hb hby dj65_59_12) rfl (tlt (show (-1 : Int32) < (0 : Int32) from (by decide))).2.2.1 (by decide) (by decide) ?_
              refine XS.iload X0.here hx rfl (hb hby dj65_59_66) rfl ?_
              refine XS.iconst X0.here hx rfl (hb hby dj65_59_68) ?_
              refine XS.iadd X0.here hx rfl (hb hby dj65_59_69) rfl ?_
              refine XS.ineg X0.here hx rfl (hb hby dj65_59_70) rfl ?_
              show Sg p e below (s₁.setTop (mkF m 71 #[sR P, sI 0, sI 3, sI key, sI 0, sI (-1), sI 0, sI x0] [(.int (-1 : Int32))])) _
              exact retI X0 hx Bd.returns (hb hby dj65_59_71) hr961
            · show Q_bs0 [x0, x1, x2] key h0 n0 _ s₁.heap _
              rw [e0]
              exact ⟨_, rfl, N0, rfl, Or.inr ⟨by decide, fun hm => by (simp only [List.mem_cons, List.not_mem_nil, or_false] at hm; rcases hm with e | e | e <;> (have e' := congrArg Int32.toInt e; omega))⟩⟩
          · skip
            obtain ⟨fs962, hr962, hrun962, hended962, hW962, hsame962⟩ := X0.leave (v := some (.int (0 : Int32))) (fun h => by rw [Bd.returns] at h; cases h)
            refine ⟨_, _, pre0 _ (P959 _ ?_), hrun962, hended962, _, _, rfl, ?_, ⟨⟨_, rfl⟩, hW962, hsame962.mono (Nat.le_of_ble_eq_true rfl) (Nat.le_of_ble_eq_true rfl)⟩⟩
            · show Sg p e below (s₁.setTop (mkF m 48 #[sR P, sI 0, sI 3, sI key, sI 0, sI 0, sI 0, sI x0] [(.int key), (.int x0)])) _
              refine XS.icmpYes X0.here hx rfl (pc0 := 48) (pc' := 60) rfl (hb hby dj65_59_48) rfl (flt (show ¬ (key < x0) from q960)).2.2.2 (by decide) (by decide) ?_
              refine XS.iload X0.here hx rfl (hb hby dj65_59_60) rfl ?_
              show Sg p e below (s₁.setTop (mkF m 62 #[sR P, sI 0, sI 3, sI key, sI 0, sI 0, sI 0, sI x0] [(.int (0 : Int32))])) _
              exact retI X0 hx Bd.returns (hb hby dj65_59_62) hr962
            · show Q_bs0 [x0, x1, x2] key h0 n0 _ s₁.heap _
              rw [e0]
              exact ⟨_, rfl, N0, rfl, Or.inl ⟨0, by simp, rfl, congrArg some (own_eq3 q957 q960)⟩⟩
      · skip
        obtain ⟨fs963, hr963, hrun963, hended963, hW963, hsame963⟩ := X0.leave (v := some (.int (1 : Int32))) (fun h => by rw [Bd.returns] at h; cases h)
        refine ⟨_, _, pre0 _ (P953 _ ?_), hrun963, hended963, _, _, rfl, ?_, ⟨⟨_, rfl⟩, hW963, hsame963.mono (Nat.le_of_ble_eq_true rfl) (Nat.le_of_ble_eq_true rfl)⟩⟩
        · show Sg p e below (s₁.setTop (mkF m 48 #[sR P, sI 0, sI 3, sI key, sI 0, sI 2, sI 1, sI x1] [(.int key), (.int x1)])) _
          refine XS.icmpYes X0.here hx rfl (pc0 := 48) (pc' := 60) rfl (hb hby dj65_59_48) rfl (flt (show ¬ (key < x1) from q954)).2.2.2 (by decide) (by decide) ?_
          refine XS.iload X0.here hx rfl (hb hby dj65_59_60) rfl ?_
          show Sg p e below (s₁.setTop (mkF m 62 #[sR P, sI 0, sI 3, sI key, sI 0, sI 2, sI 1, sI x1] [(.int (1 : Int32))])) _
          exact retI X0 hx Bd.returns (hb hby dj65_59_62) hr963
        · show Q_bs0 [x0, x1, x2] key h0 n0 _ s₁.heap _
          rw [e0]
          exact ⟨_, rfl, N0, rfl, Or.inl ⟨1, by simp, rfl, congrArg some (own_eq3 q944 q954)⟩⟩
  · exact absurd hlen (by simp)
theorem dj65_58_0 : decode jdk_65_method_58_code 0 = .ok (.aload_n 0, 1) := by decide +kernel
theorem dj65_58_1 : decode jdk_65_method_58_code 1 = .ok (.arraylength, 1) := by decide +kernel
theorem dj65_58_2 : decode jdk_65_method_58_code 2 = .ok (.iload_n 1, 1) := by decide +kernel
theorem dj65_58_3 : decode jdk_65_method_58_code 3 = .ok (.iload_n 2, 1) := by decide +kernel
theorem dj65_58_4 : decode jdk_65_method_58_code 4 = .ok (.invokestatic 13, 3) := by decide +kernel
theorem pd__28III_29V : parseMethodDescriptor "(III)V" = some ⟨[.int, .int, .int], none⟩ := by decide +kernel
theorem dj65_58_7 : decode jdk_65_method_58_code 7 = .ok (.aload_n 0, 1) := by decide +kernel
theorem dj65_58_8 : decode jdk_65_method_58_code 8 = .ok (.iload_n 1, 1) := by decide +kernel
theorem dj65_58_9 : decode jdk_65_method_58_code 9 = .ok (.iload_n 2, 1) := by decide +kernel
theorem dj65_58_10 : decode jdk_65_method_58_code 10 = .ok (.iload_n 3, 1) := by decide +kernel
theorem dj65_58_11 : decode jdk_65_method_58_code 11 = .ok (.invokestatic 209, 3) := by decide +kernel
theorem pd__28_5bIIII_29I : parseMethodDescriptor "([IIII)I" = some ⟨[(.array .int), .int, .int, .int], some .int⟩ := by decide +kernel
theorem dj65_58_14 : decode jdk_65_method_58_code 14 = .ok (.ireturn, 1) := by decide +kernel
theorem ef_bsr (m : MethodId) (x0 : Addr) (x1 : Int32) (x2 : Int32) (x3 : Int32) : entryFrame m #[(.ref x0), (.int x1), (.int x2), (.int x3)] 4 = mkF m 0 #[sR x0, sI x1, sI x2, sI x3] [] := by (first | (simp [entryFrame, mkF, argsToLocals, Value.category]; done) | rfl)
def Q_bsr (pl : List Int32) (key : Int32) (h0 : Heap) (n0 : Nat) (v : Option Value) (h : Heap) (L : List Loc) : Prop := ∃ r : Int32, v = some (.int r) ∧ Fr n0 L ∧ h = h0 ∧ own_found pl key r
set_option maxRecDepth 65536 in
set_option maxHeartbeats 40000000 in
theorem rm_bsr (l : Launch) (Z : State) (a0 : Array Value) (hw : ∀ d ∈ tables_1, d.before a0 Z = true) (ws : List Jvm.Cond) (P : Addr) (kP : ClassId) (M : Int32) (pl ur : List Int32) (cn key : Int32) (h0 : Heap) (n0 : Nat) (Z0 : n0 ≤ h0.size) (AP : Arv Z h0 P kP .int M ((pl ++ ur).map Value.int) (.int (0 : Int32))) (hM : M = Int32.ofNat (pl ++ ur).length) (hm : (pl ++ ur).length ≤ 3) (hc : cn = Int32.ofNat pl.length) (hs : pl.Pairwise (· < ·)) :
    MetFree l (⟨"java/util/Arrays", "binarySearch", "([IIII)I"⟩ : MethodName) (head1 (Jvm.Cond.code (⟨"java/util/Arrays", "binarySearch", "([IIII)I"⟩ : MethodName) jdk_65_method_58_code 4 (some .int) :: ws) ({ frames := 1, cells := 0, slots := 0, locals := 19 } : Room)) (fun a U => a = #[(.ref P), (.int (0 : Int32)), (.int cn), (.int key)] ∧ Z.Warmed39 U.vm ∧ U.heap = h0) (fun _ _ _ _ _ => True) (fun _ U o U' => ∃ v L, o = .returned v ∧ Q_bsr pl key h0 n0 v U'.heap L ∧ FrameEnd U o U' L ({ frames := 1, cells := 0, slots := 0, locals := 19 } : Room).cells ({ frames := 1, cells := 0, slots := 0, locals := 19 } : Room).slots) := by
  refine MetFree.of_bodySF (plainFor_of_name pn_java_util_Arrays) hisR ?_
  intro p e s m args below meth c s₁ Bd hml0 hP hK
  obtain ⟨rfl, hZ, hh⟩ := hP
  have hx := Bd.exec
  have hby := Bd.bytes
  have hml : c.maxLocals = 4 := hml0
  have hown : s.vm.findClass "java/util/Arrays" = some m.cls := findClass_of_methodNamed Bd.named
  have hnm := (name_of_methodNamed Bd.named Bd.method).1
  have X0 : Stand p l e ({ frames := 1, cells := 0, slots := 0, locals := 19 } : Room) s m #[(.ref P), (.int (0 : Int32)), (.int cn), (.int key)] below meth c s₁ [] 0 0 := Stand.of_body Bd
  have e0 : s₁.heap = h0 := by rw [← hh, Bd.state]; rfl
  have N0 := Fr.nil n0
  have pre0 : ∀ t, Sg p e below (s₁.setTop (mkF m 0 #[sR P, sI 0, sI cn, sI key] [])) t → Steps p.tables e below (s₁.setTop (entryFrame m #[(.ref P), (.int (0 : Int32)), (.int cn), (.int key)] 4)) t := fun t k => castTop (ef_bsr m P (0 : Int32) cn key) k
  have P0 : ∀ t, Sg p e below (s₁.setTop (mkF m 0 #[sR P, sI 0, sI cn, sI key] [])) t → Sg p e below (s₁.setTop (mkF m 0 #[sR P, sI 0, sI cn, sI key] [])) t := fun t k => k
  obtain ⟨B0, pre0, P0⟩ : ∃ B : State, (∀ t, Steps p.tables e below B t → Steps p.tables e below (s₁.setTop (entryFrame m #[(.ref P), (.int (0 : Int32)), (.int cn), (.int key)] 4)) t) ∧ Rg p e below (s₁.setTop (mkF m 0 #[sR P, sI 0, sI cn, sI key] [])) B := ⟨_, pre0, P0⟩
  obtain ⟨cl964, Ar964, -, S964, N964, -, -⟩ := id AP
  obtain ⟨_, _, ⟨T965, L965, k965, n965⟩, -, X965, ⟨Lc965, hQ965, l965, y965, z965⟩, st965⟩ := Jvm.LawKit.callS X0 hx (y := (⟨"java/util/Arrays", "rangeCheck", "(III)V"⟩ : MethodName)) hown (mvT hZ (own_hw hw 60 rfl)) (mvT hZ (own_hw hw 61 rfl)) (mvT hZ (own_hw hw 58 rfl)) (mvT hZ (own_hw hw 62 rfl)) (by decide) (backOf (W := 0) (rm_rchk l Z a0 hw [] M cn h0 n0 Z0 (own_nneg hc (own_lle hm)) (own_nlt hM hc hm)) hZ (own_hw hw 62 rfl) (own_hw hw 58 rfl) (by decide) (by decide)) (g := (mkF m 4 #[sR P, sI 0, sI cn, sI key] [(.int cn), (.int (0 : Int32)), (.int M)])) rfl (by rw [hml]; rfl) (argsL := [(.int M), (.int (0 : Int32)), (.int cn)]) (rest := []) (lenOf pd__28III_29V rfl) rfl (by show 2 * 0 + _ ≤ _; exact Nat.le_of_eq rfl) (hb hby dj65_58_4) (fun _ _ => ⟨rfl, e0, (Nat.le_of_ble_eq_true rfl : 0 + 0 ≤ _), (Nat.le_of_ble_eq_true rfl : 0 + 0 ≤ _)⟩)
  dsimp only [Pt.U, Pt.locs, Pt.cells, Pt.slots] at X965 l965 y965 z965 st965 hQ965
  subst l965 y965 z965
  obtain ⟨rfl, Nq965, e965⟩ := hQ965
  have N966 := Fr.app N0 Nq965
  have P967 : Rg p e below (T965.setTop (mkF m 7 #[sR P, sI 0, sI cn, sI key] [])) B0 := fun t k => P0 t (by
    refine XS.aloadN X0.here hx rfl (hb hby dj65_58_0) rfl rfl ?_
    show Sg p e below (s₁.setTop (mkF m 1 #[sR P, sI 0, sI cn, sI key] [(.ref P)])) _
    refine X0.arraylength hx (by rw [e0]; exact Ar964.1) (State.isArrayOf_alike hZ.alike Ar964.2.1) (g := (mkF m 1 #[sR P, sI 0, sI cn, sI key] [(.ref P)])) rfl rfl (hb hby dj65_58_1) _ ?_
    rw [len_of S964 N964]
    show Sg p e below (s₁.setTop (mkF m 2 #[sR P, sI 0, sI cn, sI key] [(.int M)])) _
    refine XS.iloadN X0.here hx rfl (hb hby dj65_58_2) rfl ?_
    refine XS.iloadN X0.here hx rfl (hb hby dj65_58_3) rfl ?_
    show Sg p e below (s₁.setTop (mkF m 4 #[sR P, sI 0, sI cn, sI key] [(.int cn), (.int (0 : Int32)), (.int M)])) _
    exact st965 _ k)
  obtain ⟨_, _, ⟨T968, L968, k968, n968⟩, -, X968, ⟨Lc968, hQ968, l968, y968, z968⟩, st968⟩ := Jvm.LawKit.callS X965 hx (y := (⟨"java/util/Arrays", "binarySearch0", "([IIII)I"⟩ : MethodName)) hown (mvT hZ (own_hw hw 63 rfl)) (mvT hZ (own_hw hw 64 rfl)) (mvT hZ (own_hw hw 58 rfl)) (mvT hZ (own_hw hw 65 rfl)) (by decide) (backOf (W := 0) (rm_bs0 l Z a0 hw [] P kP M pl ur cn key h0 n0 Z0 AP hM hm hc hs) hZ (own_hw hw 65 rfl) (own_hw hw 58 rfl) (by decide) (by decide)) (g := (mkF m 11 #[sR P, sI 0, sI cn, sI key] [(.int key), (.int cn), (.int (0 : Int32)), (.ref P)])) rfl (by rw [hml]; rfl) (argsL := [(.ref P), (.int (0 : Int32)), (.int cn), (.int key)]) (rest := []) (lenOf pd__28_5bIIII_29I rfl) rfl (by show 2 * 0 + _ ≤ _; exact Nat.le_of_eq rfl) (hb hby dj65_58_11) (fun _ _ => ⟨rfl, e965, (Nat.le_of_ble_eq_true rfl : 0 + 0 ≤ _), (Nat.le_of_ble_eq_true rfl : 0 + 0 ≤ _)⟩)
  dsimp only [Pt.U, Pt.locs, Pt.cells, Pt.slots] at X968 l968 y968 z968 st968 hQ968
  subst l968 y968 z968
  obtain ⟨r968, rfl, Nq968, e968, hf968⟩ := hQ968
  have N969 := Fr.app N966 Nq968
  have P970 : Rg p e below (T968.setTop (mkF m 14 #[sR P, sI 0, sI cn, sI key] [(.int r968)])) B0 := fun t k => P967 t (by
    refine XS.aloadN X965.here hx rfl (hb hby dj65_58_7) rfl rfl ?_
    refine XS.iloadN X965.here hx rfl (hb hby dj65_58_8) rfl ?_
    refine XS.iloadN X965.here hx rfl (hb hby dj65_58_9) rfl ?_
    refine XS.iloadN X965.here hx rfl (hb hby dj65_58_10) rfl ?_
    show Sg p e below (T965.setTop (mkF m 11 #[sR P, sI 0, sI cn, sI key] [(.int key), (.int cn), (.int (0 : Int32)), (.ref P)])) _
    exact st968 _ k)
  obtain ⟨fs971, hr971, hrun971, hended971, hW971, hsame971⟩ := X968.leave (v := some (.int r968)) (fun h => by rw [Bd.returns] at h; cases h)
  refine ⟨_, _, pre0 _ (P970 _ ?_), hrun971, hended971, _, _, rfl, ?_, ⟨⟨_, rfl⟩, hW971, hsame971.mono (Nat.le_of_ble_eq_true rfl) (Nat.le_of_ble_eq_true rfl)⟩⟩
  · show Sg p e below (T968.setTop (mkF m 14 #[sR P, sI 0, sI cn, sI key] [(.int r968)])) _
    exact retI X968 hx Bd.returns (hb hby dj65_58_14) hr971
  · show Q_bsr pl key h0 n0 _ T968.heap _
    rw [e968]
    exact ⟨_, rfl, N969, rfl, hf968⟩
theorem dp23_4_0 : decode prog_23_method_4_code 0 = .ok (.aload_n 0, 1) := by decide +kernel
theorem dp23_4_1 : decode prog_23_method_4_code 1 = .ok (.getfield 7, 3) := by decide +kernel
theorem dp23_4_4 : decode prog_23_method_4_code 4 = .ok (.iconst 0, 1) := by decide +kernel
theorem dp23_4_5 : decode prog_23_method_4_code 5 = .ok (.aload_n 0, 1) := by decide +kernel
theorem dp23_4_6 : decode prog_23_method_4_code 6 = .ok (.getfield 25, 3) := by decide +kernel
theorem dp23_4_9 : decode prog_23_method_4_code 9 = .ok (.iload_n 1, 1) := by decide +kernel
theorem dp23_4_10 : decode prog_23_method_4_code 10 = .ok (.bipush 6, 2) := by decide +kernel
theorem dp23_4_12 : decode prog_23_method_4_code 12 = .ok (.iushr, 1) := by decide +kernel
theorem dp23_4_13 : decode prog_23_method_4_code 13 = .ok (.invokestatic 29, 3) := by decide +kernel
theorem dp23_4_16 : decode prog_23_method_4_code 16 = .ok (.istore_n 2, 1) := by decide +kernel
theorem dp23_4_17 : decode prog_23_method_4_code 17 = .ok (.iload_n 2, 1) := by decide +kernel
theorem dp23_4_18 : decode prog_23_method_4_code 18 = .ok (.ifCond .lt 19, 3) := by decide +kernel
theorem dp23_4_21 : decode prog_23_method_4_code 21 = .ok (.aload_n 0, 1) := by decide +kernel
theorem dp23_4_22 : decode prog_23_method_4_code 22 = .ok (.getfield 13, 3) := by decide +kernel
theorem dp23_4_25 : decode prog_23_method_4_code 25 = .ok (.iload_n 2, 1) := by decide +kernel
theorem dp23_4_26 : decode prog_23_method_4_code 26 = .ok (.dup2, 1) := by decide +kernel
theorem dp23_4_27 : decode prog_23_method_4_code 27 = .ok (.laload, 1) := by decide +kernel
theorem dp23_4_28 : decode prog_23_method_4_code 28 = .ok (.lconst 1, 1) := by decide +kernel
theorem dp23_4_29 : decode prog_23_method_4_code 29 = .ok (.iload_n 1, 1) := by decide +kernel
theorem dp23_4_30 : decode prog_23_method_4_code 30 = .ok (.lshl, 1) := by decide +kernel
theorem dp23_4_31 : decode prog_23_method_4_code 31 = .ok (.ldc2_w 35, 3) := by decide +kernel
theorem dp23_4_34 : decode prog_23_method_4_code 34 = .ok (.lxor, 1) := by decide +kernel
theorem dp23_4_35 : decode prog_23_method_4_code 35 = .ok (.land, 1) := by decide +kernel
theorem dp23_4_36 : decode prog_23_method_4_code 36 = .ok (.lastore, 1) := by decide +kernel
theorem dp23_4_37 : decode prog_23_method_4_code 37 = .ok (.return_, 1) := by decide +kernel
theorem ef_rmv (m : MethodId) (x0 : Addr) (x1 : Int32) : entryFrame m #[(.ref x0), (.int x1)] 3 = mkF m 0 #[sR x0, sI x1, sU] [] := by (first | (simp [entryFrame, mkF, argsToLocals, Value.category]; done) | rfl)
def Q_rmv (Z : State) (W : Addr) (kW : ClassId) (M : Int32) (pl : List Int32) (wv vr : List Int64) (mm : Int32) (h0 : Heap) (n0 : Nat) (v : Option Value) (h : Heap) (L : List Loc) : Prop := v = none ∧ Fr n0 L ∧ Keep h0 h [W] ∧ Arv Z h W kW .long M ((own_rem pl wv mm ++ vr).map Value.long) (.long (0 : Int64))
set_option maxRecDepth 65536 in
set_option maxHeartbeats 40000000 in
theorem rm_rmv (l : Launch) (Z : State) (a0 : Array Value) (hw : ∀ d ∈ tables_1, d.before a0 Z = true) (ws : List Jvm.Cond) (a1 P W : Addr) (kP kW : ClassId) (M : Int32) (pl ur : List Int32) (wv vr : List Int64) (cn : Int32) (mm : Int32) (h0 : Heap) (n0 : Nat) (Z0 : n0 ≤ h0.size) (g_a1 : n0 ≤ a1) (g_P : n0 ≤ P) (g_W : n0 ≤ W) (E1 : Exa Z h0 a1 sM) (EP : Exa Z h0 P "[I") (EW1 : Exa Z h0 W "[J") (Fp : Fld Z h0 a1 sM "places" "[I" (.ref P)) (Fw : Fld Z h0 a1 sM "words" "[J" (.ref W)) (Fc : Fld Z h0 a1 sM "count" "I" (.int cn)) (AP : Arv Z h0 P kP .int M ((pl ++ ur).map Value.int) (.int (0 : Int32))) (AW : Arv Z h0 W kW .long M ((wv ++ vr).map Value.long) (.long (0 : Int64))) (hM : M = Int32.ofNat (pl ++ ur).length) (hm : (pl ++ ur).length ≤ 3) (hc : cn = Int32.ofNat pl.length) (hl : wv.length = pl.length) (hv : vr.length = ur.length) (hs : pl.Pairwise (· < ·)) :
    MetFree l (⟨"com/example/whittle/whittle/engine/WordSets$Meet", "remove", "(I)V"⟩ : MethodName) (head1 (Jvm.Cond.code (⟨"com/example/whittle/whittle/engine/WordSets$Meet", "remove", "(I)V"⟩ : MethodName) prog_23_method_4_code 3 none :: ws) ({ frames := 2, cells := 0, slots := 0, locals := 34 } : Room)) (fun a U => a = #[(.ref a1), (.int mm)] ∧ Z.Warmed39 U.vm ∧ U.heap = h0) (fun _ _ _ _ _ => True) (fun _ U o U' => ∃ v L, o = .returned v ∧ Q_rmv Z W kW M pl wv vr mm h0 n0 v U'.heap L ∧ FrameEnd U o U' L ({ frames := 2, cells := 0, slots := 0, locals := 34 } : Room).cells ({ frames := 2, cells := 0, slots := 0, locals := 34 } : Room).slots) := by
  refine MetFree.of_bodySF (plainFor_of_name pn_com_example_whittle_whittle_engine_WordSets_Meet) hisR ?_
  intro p e s m args below meth c s₁ Bd hml0 hP hK
  obtain ⟨rfl, hZ, hh⟩ := hP
  have hx := Bd.exec
  have hby := Bd.bytes
  have hml : c.maxLocals = 3 := hml0
  have hown : s.vm.findClass "com/example/whittle/whittle/engine/WordSets$Meet" = some m.cls := findClass_of_methodNamed Bd.named
  have hnm := (name_of_methodNamed Bd.named Bd.method).1
  have X0 : Stand p l e ({ frames := 2, cells := 0, slots := 0, locals := 34 } : Room) s m #[(.ref a1), (.int mm)] below meth c s₁ [] 0 0 := Stand.of_body Bd
  have e0 : s₁.heap = h0 := by rw [← hh, Bd.state]; rfl
  have N0 := Fr.nil n0
  have pre0 : ∀ t, Sg p e below (s₁.setTop (mkF m 0 #[sR a1, sI mm, sU] [])) t → Steps p.tables e below (s₁.setTop (entryFrame m #[(.ref a1), (.int mm)] 3)) t := fun t k => castTop (ef_rmv m a1 mm) k
  have P0 : ∀ t, Sg p e below (s₁.setTop (mkF m 0 #[sR a1, sI mm, sU] [])) t → Sg p e below (s₁.setTop (mkF m 0 #[sR a1, sI mm, sU] [])) t := fun t k => k
  obtain ⟨B0, pre0, P0⟩ : ∃ B : State, (∀ t, Steps p.tables e below B t → Steps p.tables e below (s₁.setTop (entryFrame m #[(.ref a1), (.int mm)] 3)) t) ∧ Rg p e below (s₁.setTop (mkF m 0 #[sR a1, sI mm, sU] [])) B := ⟨_, pre0, P0⟩
  obtain ⟨T972, X972, e972, st972⟩ := getF X0 hx hZ hown (host := "") (Or.inl (own_hw hw 38 rfl)) Via.refl e0 Fp (g := (mkF m 1 #[sR a1, sI mm, sU] [(.ref a1)])) rfl rfl (hb hby dp23_4_1)
  have P973 : Rg p e below (T972.setTop (mkF m 4 #[sR a1, sI mm, sU] [(.ref P)])) B0 := fun t k => P0 t (by
    refine XS.aloadN X0.here hx rfl (hb hby dp23_4_0) rfl rfl ?_
    show Sg p e below (s₁.setTop (mkF m 1 #[sR a1, sI mm, sU] [(.ref a1)])) _
    exact st972 _ k)
  obtain ⟨T974, X974, e974, st974⟩ := getF X972 hx hZ hown (host := "") (Or.inl (own_hw hw 49 rfl)) Via.refl e972 Fc (g := (mkF m 6 #[sR a1, sI mm, sU] [(.ref a1), (.int (0 : Int32)), (.ref P)])) rfl rfl (hb hby dp23_4_6)
  have P975 : Rg p e below (T974.setTop (mkF m 9 #[sR a1, sI mm, sU] [(.int cn), (.int (0 : Int32)), (.ref P)])) B0 := fun t k => P973 t (by
    refine XS.iconst X972.here hx rfl (hb hby dp23_4_4) ?_
    refine XS.aloadN X972.here hx rfl (hb hby dp23_4_5) rfl rfl ?_
    show Sg p e below (T972.setTop (mkF m 6 #[sR a1, sI mm, sU] [(.ref a1), (.int (0 : Int32)), (.ref P)])) _
    exact st974 _ k)
  obtain ⟨_, _, ⟨T976, L976, k976, n976⟩, -, X976, ⟨Lc976, hQ976, l976, y976, z976⟩, st976⟩ := Jvm.LawKit.callS X974 hx (y := (⟨"java/util/Arrays", "binarySearch", "([IIII)I"⟩ : MethodName)) hown (mvT hZ (own_hw hw 56 rfl)) (mvT hZ (own_hw hw 57 rfl)) (mvT hZ (own_hw hw 58 rfl)) (mvT hZ (own_hw hw 59 rfl)) (by decide) (backOf (W := 0) (rm_bsr l Z a0 hw [] P kP M pl ur cn ((mm.toUInt32 >>> ((6 : Int32) &&& 31).toUInt32).toInt32) h0 n0 Z0 AP hM hm hc hs) hZ (own_hw hw 59 rfl) (own_hw hw 58 rfl) (by decide) (by decide)) (g := (mkF m 13 #[sR a1, sI mm, sU] [(.int ((mm.toUInt32 >>> ((6 : Int32) &&& 31).toUInt32).toInt32)), (.int cn), (.int (0 : Int32)), (.ref P)])) rfl (by rw [hml]; rfl) (argsL := [(.ref P), (.int (0 : Int32)), (.int cn), (.int ((mm.toUInt32 >>> ((6 : Int32) &&& 31).toUInt32).toInt32))]) (rest := []) (lenOf pd__28_5bIIII_29I rfl) rfl (by show 2 * 0 + _ ≤ _; exact Nat.le_of_eq rfl) (hb hby dp23_4_13) (fun _ _ => ⟨rfl, e974, (Nat.le_of_ble_eq_true rfl : 0 + 0 ≤ _), (Nat.le_of_ble_eq_true rfl : 0 + 0 ≤ _)⟩)
  dsimp only [Pt.U, Pt.locs, Pt.cells, Pt.slots] at X976 l976 y976 z976 st976 hQ976
  subst l976 y976 z976
  obtain ⟨r976, rfl, Nq976, e976, hf976⟩ := hQ976
  have N977 := Fr.app N0 Nq976
  have P978 : Rg p e below (T976.setTop (mkF m 16 #[sR a1, sI mm, sU] [(.int r976)])) B0 := fun t k => P975 t (by
    refine XS.iloadN X974.here hx rfl (hb hby dp23_4_9) rfl ?_
    refine XS.bipush X974.here hx rfl (hb hby dp23_4_10) ?_
    refine XS.iushr X974.here hx rfl (hb hby dp23_4_12) rfl ?_
    show Sg p e below (T974.setTop (mkF m 13 #[sR a1, sI mm, sU] [(.int ((mm.toUInt32 >>> ((6 : Int32) &&& 31).toUInt32).toInt32)), (.int cn), (.int (0 : Int32)), (.ref P)])) _
    exact st976 _ k)
  rcases hf976 with ⟨i, hi, hr, hk⟩ | ⟨hneg, hni⟩
  · skip
    have hlen : pl.length ≤ 3 := by simp at hm; omega
    rcases pl with _ | ⟨x0, _ | ⟨x1, _ | ⟨x2, _ | ⟨x3, pl⟩⟩⟩⟩
    · skip
      exact absurd hi (Nat.not_lt_zero _)
    · skip
      obtain ⟨y0, rfl⟩ := own_len1 hl
      have hi' : i = 0 := by simp only [List.length_cons, List.length_nil] at hi; omega
      rcases hi' with rfl
      · skip
        have hr' : r976 = (0 : Int32) := hr
        subst hr'
        have hk' : x0 = own_sh mm := Option.some.inj hk
        have hq : ∀ z : Int64, own_rem [x0] [y0] mm = [y0 &&& (own_bit mm ^^^ (-1))] := fun _ => by simp only [own_rem]; rw [if_pos hk']
        obtain ⟨T979, X979, e979, st979⟩ := getF X976 hx hZ hown (host := "") (Or.inl (own_hw hw 40 rfl)) Via.refl e976 Fw (g := (mkF m 22 #[sR a1, sI mm, sI 0] [(.ref a1)])) rfl rfl (hb hby dp23_4_22)
        have P980 : Rg p e below (T979.setTop (mkF m 25 #[sR a1, sI mm, sI 0] [(.ref W)])) B0 := fun t k => P978 t (by
          refine XS.istoreN X976.here hx rfl (hb hby dp23_4_16) rfl (l' := #[sR a1, sI mm, sI 0]) rfl ?_
          refine XS.iloadN X976.here hx rfl (hb hby dp23_4_17) rfl ?_
          refine XS.ifNo X976.here hx rfl (hb hby dp23_4_18) rfl ((if0 _ _).trans (flt (show ¬ ((0 : Int32) < (0 : Int32)) from (by decide))).1) ?_
          refine XS.aloadN X976.here hx rfl (hb hby dp23_4_21) rfl rfl ?_
          show Sg p e below (T976.setTop (mkF m 22 #[sR a1, sI mm, sI 0] [(.ref a1)])) _
          exact st979 _ k)
        obtain ⟨cl981, Ar981, -, S981, N981, H981, -⟩ := id AW
        have hin981 : ¬ ((0 : Int32) < 0 ∨ cl981.slots.size ≤ ((0 : Int32)).toNatClampNeg) := inb_of S981 (own_inb (own_hM2 hM hl hv) (k := 0) (by simp) (own_hm2 hm hl hv))
        obtain ⟨cl982, Ar982, q982, S982, N982, H982, G982⟩ := id AW
        obtain ⟨T982, h982, X982, e982, W982, st982⟩ := stJ X979 hx hZ e979 Ar982 (j := (0 : Int32)) (inb_of S982 (own_inb (own_hM2 hM hl hv) (k := 0) (by simp) (own_hm2 hm hl hv))) (g := (mkF m 36 #[sR a1, sI mm, sI 0] [(.long (y0 &&& (((1 : Int64) <<< (mm &&& 0x3f).toInt64) ^^^ (-1 : Int64)))), (.int (0 : Int32)), (.ref W)])) rfl rfl (hb hby dp23_4_36)
        have v983 : Arv Z h982 W kW .long M (([(y0 &&& (((1 : Int64) <<< (mm &&& 0x3f).toInt64) ^^^ (-1 : Int64)))] ++ vr).map Value.long) (.long (0 : Int64)) := Arv.set Ar982 q982 S982 N982 H982 G982 rfl W982 0 rfl (by simp)
        have P984 : Rg p e below (T982.setTop (mkF m 37 #[sR a1, sI mm, sI 0] [])) B0 := fun t k => P980 t (by
          refine XS.iloadN X979.here hx rfl (hb hby dp23_4_25) rfl ?_
          refine XT.dup2 X979.here hx rfl (hb hby dp23_4_26) rfl rfl rfl ?_
          show Sg p e below (T979.setTop (mkF m 27 #[sR a1, sI mm, sI 0] [(.int (0 : Int32)), (.ref W), (.int (0 : Int32)), (.ref W)])) _
          refine X979.laload hx (j := (0 : Int32)) (v := (.long y0)) (by rw [e979]; exact Ar981.1) (State.isArrayOf_alike hZ.alike Ar981.2.1) Ar981.2.2 hin981 (H981.at hin981 rfl) (g := (mkF m 27 #[sR a1, sI mm, sI 0] [(.int (0 : Int32)), (.ref W), (.int (0 : Int32)), (.ref W)])) rfl rfl (hb hby dp23_4_27) _ ?_
          show Sg p e below (T979.setTop (mkF m 28 #[sR a1, sI mm, sI 0] [(.long y0), (.int (0 : Int32)), (.ref W)])) _
          refine XS.lconst X979.here hx rfl (hb hby dp23_4_28) ?_
          refine XS.iloadN X979.here hx rfl (hb hby dp23_4_29) rfl ?_
          refine XS.lshl X979.here hx rfl (hb hby dp23_4_30) rfl ?_
          show Sg p e below (T979.setTop (mkF m 31 #[sR a1, sI mm, sI 0] [(.long ((1 : Int64) <<< (mm &&& 0x3f).toInt64)), (.long y0), (.int (0 : Int32)), (.ref W)])) _
          refine X979.ldc2Long hx hown (mvT hZ (own_hw hw 66 rfl)) (g := (mkF m 31 #[sR a1, sI mm, sI 0] [(.long ((1 : Int64) <<< (mm &&& 0x3f).toInt64)), (.long y0), (.int (0 : Int32)), (.ref W)])) rfl (hb hby dp23_4_31) _ ?_
          show Sg p e below (T979.setTop (mkF m 34 #[sR a1, sI mm, sI 0] [(.long (-1 : Int64)), (.long ((1 : Int64) <<< (mm &&& 0x3f).toInt64)), (.long y0), (.int (0 : Int32)), (.ref W)])) _
          refine XS.lxor X979.here hx rfl (hb hby dp23_4_34) rfl ?_
          refine XS.land X979.here hx rfl (hb hby dp23_4_35) rfl ?_
          show Sg p e below (T979.setTop (mkF m 36 #[sR a1, sI mm, sI 0] [(.long (y0 &&& (((1 : Int64) <<< (mm &&& 0x3f).toInt64) ^^^ (-1 : Int64)))), (.int (0 : Int32)), (.ref W)])) _
          exact st982 _ k)
        have N985 := Fr.snoc X982 N977 g_W
        have Z986 : n0 ≤ h982.size := Nat.le_trans Z0 (Keep.of_wr W982).1
        have K987 : Keep h0 h982 [W] := (Keep.refl h0 [W]).wr W982 (Or.inl (List.mem_of_getElem? (i := 0) rfl))
        obtain ⟨fs988, hr988, hrun988, hended988, hW988, hsame988⟩ := X982.leave (v := none) (fun _ => rfl)
        refine ⟨_, _, pre0 _ (P984 _ ?_), hrun988, hended988, _, _, rfl, ?_, ⟨⟨_, rfl⟩, hW988, hsame988.mono (Nat.le_of_ble_eq_true rfl) (Nat.le_of_ble_eq_true rfl)⟩⟩
        · show Sg p e below (T982.setTop (mkF m 37 #[sR a1, sI mm, sI 0] [])) _
          exact X982.returnOut hx Bd.returns (hb hby dp23_4_37) hr988
        · show Q_rmv Z W kW M [x0] [y0] vr mm h0 n0 _ T982.heap _
          rw [e982]
          exact ⟨rfl, N985, K987, by rw [hq 0]; exact v983⟩
    · skip
      obtain ⟨y0, y1, rfl⟩ := own_len2 hl
      have hs01 := Int32.lt_iff_toInt_lt.mp (own_p2 hs)
      have hi' : i = 0 ∨ i = 1 := by simp only [List.length_cons, List.length_nil] at hi; omega
      rcases hi' with rfl | rfl
      · skip
        have hr' : r976 = (0 : Int32) := hr
        subst hr'
        have hk' : x0 = own_sh mm := Option.some.inj hk
        have hn1 : ¬ x1 = own_sh mm := fun e => by (have e' := congrArg Int32.toInt (e.trans hk'.symm); omega)
        have hq : ∀ z : Int64, own_rem [x0, x1] [y0, y1] mm = [y0 &&& (own_bit mm ^^^ (-1)), y1] := fun _ => by simp only [own_rem]; rw [if_pos hk', if_neg hn1]
        obtain ⟨T989, X989, e989, st989⟩ := getF X976 hx hZ hown (host := "") (Or.inl (own_hw hw 40 rfl)) Via.refl e976 Fw (g := (mkF m 22 #[sR a1, sI mm, sI 0] [(.ref a1)])) rfl rfl (hb hby dp23_4_22)
        have P990 : Rg p e below (T989.setTop (mkF m 25 #[sR a1, sI mm, sI 0] [(.ref W)])) B0 := fun t k => P978 t (by
          refine XS.istoreN X976.here hx rfl (hb hby dp23_4_16) rfl (l' := #[sR a1, sI mm, sI 0]) rfl ?_
          refine XS.iloadN X976.here hx rfl (hb hby dp23_4_17) rfl ?_
          refine XS.ifNo X976.here hx rfl (hb hby dp23_4_18) rfl ((if0 _ _).trans (flt (show ¬ ((0 : Int32) < (0 : Int32)) from (by decide))).1) ?_
          refine XS.aloadN X976.here hx rfl (hb hby dp23_4_21) rfl rfl ?_
          show Sg p e below (T976.setTop (mkF m 22 #[sR a1, sI mm, sI 0] [(.ref a1)])) _
          exact st989 _ k)
        obtain ⟨cl991, Ar991, -, S991, N991, H991, -⟩ := id AW
        have hin991 : ¬ ((0 : Int32) < 0 ∨ cl991.slots.size ≤ ((0 : Int32)).toNatClampNeg) := inb_of S991 (own_inb (own_hM2 hM hl hv) (k := 0) (by simp) (own_hm2 hm hl hv))
        obtain ⟨cl992, Ar992, q992, S992, N992, H992, G992⟩ := id AW
        obtain ⟨T992, h992, X992, e992, W992, st992⟩ := stJ X989 hx hZ e989 Ar992 (j := (0 : Int32)) (inb_of S992 (own_inb (own_hM2 hM hl hv) (k := 0) (by simp) (own_hm2 hm hl hv))) (g := (mkF m 36 #[sR a1, sI mm, sI 0] [(.long (y0 &&& (((1 : Int64) <<< (mm &&& 0x3f).toInt64) ^^^ (-1 : Int64)))), (.int (0 : Int32)), (.ref W)])) rfl rfl (hb hby dp23_4_36)
        have v993 : Arv Z h992 W kW .long M (([(y0 &&& (((1 : Int64) <<< (mm &&& 0x3f).toInt64) ^^^ (-1 : Int64))), y1] ++ vr).map Value.long) (.long (0 : Int64)) := Arv.set Ar992 q992 S992 N992 H992 G992 rfl W992 0 rfl (by simp)
        have P994 : Rg p e below (T992.setTop (mkF m 37 #[sR a1, sI mm, sI 0] [])) B0 := fun t k => P990 t (by
          refine XS.iloadN X989.here hx rfl (hb hby dp23_4_25) rfl ?_
          refine XT.dup2 X989.here hx rfl (hb hby dp23_4_26) rfl rfl rfl ?_
          show Sg p e below (T989.setTop (mkF m 27 #[sR a1, sI mm, sI 0] [(.int (0 : Int32)), (.ref W), (.int (0 : Int32)), (.ref W)])) _
          refine X989.laload hx (j := (0 : Int32)) (v := (.long y0)) (by rw [e989]; exact Ar991.1) (State.isArrayOf_alike hZ.alike Ar991.2.1) Ar991.2.2 hin991 (H991.at hin991 rfl) (g := (mkF m 27 #[sR a1, sI mm, sI 0] [(.int (0 : Int32)), (.ref W), (.int (0 : Int32)), (.ref W)])) rfl rfl (hb hby dp23_4_27) _ ?_
          show Sg p e below (T989.setTop (mkF m 28 #[sR a1, sI mm, sI 0] [(.long y0), (.int (0 : Int32)), (.ref W)])) _
          refine XS.lconst X989.here hx rfl (hb hby dp23_4_28) ?_
          refine XS.iloadN X989.here hx rfl (hb hby dp23_4_29) rfl ?_
          refine XS.lshl X989.here hx rfl (hb hby dp23_4_30) rfl ?_
          show Sg p e below (T989.setTop (mkF m 31 #[sR a1, sI mm, sI 0] [(.long ((1 : Int64) <<< (mm &&& 0x3f).toInt64)), (.long y0), (.int (0 : Int32)), (.ref W)])) _
          refine X989.ldc2Long hx hown (mvT hZ (own_hw hw 66 rfl)) (g := (mkF m 31 #[sR a1, sI mm, sI 0] [(.long ((1 : Int64) <<< (mm &&& 0x3f).toInt64)), (.long y0), (.int (0 : Int32)), (.ref W)])) rfl (hb hby dp23_4_31) _ ?_
          show Sg p e below (T989.setTop (mkF m 34 #[sR a1, sI mm, sI 0] [(.long (-1 : Int64)), (.long ((1 : Int64) <<< (mm &&& 0x3f).toInt64)), (.long y0), (.int (0 : Int32)), (.ref W)])) _
          refine XS.lxor X989.here hx rfl (hb hby dp23_4_34) rfl ?_
          refine XS.land X989.here hx rfl (hb hby dp23_4_35) rfl ?_
          show Sg p e below (T989.setTop (mkF m 36 #[sR a1, sI mm, sI 0] [(.long (y0 &&& (((1 : Int64) <<< (mm &&& 0x3f).toInt64) ^^^ (-1 : Int64)))), (.int (0 : Int32)), (.ref W)])) _
          exact st992 _ k)
        have N995 := Fr.snoc X992 N977 g_W
        have Z996 : n0 ≤ h992.size := Nat.le_trans Z0 (Keep.of_wr W992).1
        have K997 : Keep h0 h992 [W] := (Keep.refl h0 [W]).wr W992 (Or.inl (List.mem_of_getElem? (i := 0) rfl))
        obtain ⟨fs998, hr998, hrun998, hended998, hW998, hsame998⟩ := X992.leave (v := none) (fun _ => rfl)
        refine ⟨_, _, pre0 _ (P994 _ ?_), hrun998, hended998, _, _, rfl, ?_, ⟨⟨_, rfl⟩, hW998, hsame998.mono (Nat.le_of_ble_eq_true rfl) (Nat.le_of_ble_eq_true rfl)⟩⟩
        · show Sg p e below (T992.setTop (mkF m 37 #[sR a1, sI mm, sI 0] [])) _
          exact X992.returnOut hx Bd.returns (hb hby dp23_4_37) hr998
        · show Q_rmv Z W kW M [x0, x1] [y0, y1] vr mm h0 n0 _ T992.heap _
          rw [e992]
          exact ⟨rfl, N995, K997, by rw [hq 0]; exact v993⟩
      · skip
        have hr' : r976 = (1 : Int32) := hr
        subst hr'
        have hk' : x1 = own_sh mm := Option.some.inj hk
        have hn0 : ¬ x0 = own_sh mm := fun e => by (have e' := congrArg Int32.toInt (e.trans hk'.symm); omega)
        have hq : ∀ z : Int64, own_rem [x0, x1] [y0, y1] mm = [y0, y1 &&& (own_bit mm ^^^ (-1))] := fun _ => by simp only [own_rem]; rw [if_neg hn0, if_pos hk']
        obtain ⟨T999, X999, e999, st999⟩ := getF X976 hx hZ hown (host := "") (Or.inl (own_hw hw 40 rfl)) Via.refl e976 Fw (g := (mkF m 22 #[sR a1, sI mm, sI 1] [(.ref a1)])) rfl rfl (hb hby dp23_4_22)
        have P1000 : Rg p e below (T999.setTop (mkF m 25 #[sR a1, sI mm, sI 1] [(.ref W)])) B0 := fun t k => P978 t (by
          refine XS.istoreN X976.here hx rfl (hb hby dp23_4_16) rfl (l' := #[sR a1, sI mm, sI 1]) rfl ?_
          refine XS.iloadN X976.here hx rfl (hb hby dp23_4_17) rfl ?_
          refine XS.ifNo X976.here hx rfl (hb hby dp23_4_18) rfl ((if0 _ _).trans (flt (show ¬ ((1 : Int32) < (0 : Int32)) from (by decide))).1) ?_
          refine XS.aloadN X976.here hx rfl (hb hby dp23_4_21) rfl rfl ?_
          show Sg p e below (T976.setTop (mkF m 22 #[sR a1, sI mm, sI 1] [(.ref a1)])) _
          exact st999 _ k)
        obtain ⟨cl1001, Ar1001, -, S1001, N1001, H1001, -⟩ := id AW
        have hin1001 : ¬ ((1 : Int32) < 0 ∨ cl1001.slots.size ≤ ((1 : Int32)).toNatClampNeg) := inb_of S1001 (own_inb (own_hM2 hM hl hv) (k := 1) (by simp) (own_hm2 hm hl hv))
        obtain ⟨cl1002, Ar1002, q1002, S1002, N1002, H1002, G1002⟩ := id AW
        obtain ⟨T1002, h1002, X1002, e1002, W1002, st1002⟩ := stJ X999 hx hZ e999 Ar1002 (j := (1 : Int32)) (inb_of S1002 (own_inb (own_hM2 hM hl hv) (k := 1) (by simp) (own_hm2 hm hl hv))) (g := (mkF m 36 #[sR a1, sI mm, sI 1] [(.long (y1 &&& (((1 : Int64) <<< (mm &&& 0x3f).toInt64) ^^^ (-1 : Int64)))), (.int (1 : Int32)), (.ref W)])) rfl rfl (hb hby dp23_4_36)
        have v1003 : Arv Z h1002 W kW .long M (([y0, (y1 &&& (((1 : Int64) <<< (mm &&& 0x3f).toInt64) ^^^ (-1 : Int64)))] ++ vr).map Value.long) (.long (0 : Int64)) := Arv.set Ar1002 q1002 S1002 N1002 H1002 G1002 rfl W1002 1 rfl (by simp)
        have P1004 : Rg p e below (T1002.setTop (mkF m 37 #[sR a1, sI mm, sI 1] [])) B0 := fun t k => P1000 t (by
          refine XS.iloadN X999.here hx rfl (hb hby dp23_4_25) rfl ?_
          refine XT.dup2 X999.here hx rfl (hb hby dp23_4_26) rfl rfl rfl ?_
          show Sg p e below (T999.setTop (mkF m 27 #[sR a1, sI mm, sI 1] [(.int (1 : Int32)), (.ref W), (.int (1 : Int32)), (.ref W)])) _
          refine X999.laload hx (j := (1 : Int32)) (v := (.long y1)) (by rw [e999]; exact Ar1001.1) (State.isArrayOf_alike hZ.alike Ar1001.2.1) Ar1001.2.2 hin1001 (H1001.at hin1001 rfl) (g := (mkF m 27 #[sR a1, sI mm, sI 1] [(.int (1 : Int32)), (.ref W), (.int (1 : Int32)), (.ref W)])) rfl rfl (hb hby dp23_4_27) _ ?_
          show Sg p e below (T999.setTop (mkF m 28 #[sR a1, sI mm, sI 1] [(.long y1), (.int (1 : Int32)), (.ref W)])) _
          refine XS.lconst X999.here hx rfl (hb hby dp23_4_28) ?_
          refine XS.iloadN X999.here hx rfl (hb hby dp23_4_29) rfl ?_
          refine XS.lshl X999.here hx rfl (hb hby dp23_4_30) rfl ?_
          show Sg p e below (T999.setTop (mkF m 31 #[sR a1, sI mm, sI 1] [(.long ((1 : Int64) <<< (mm &&& 0x3f).toInt64)), (.long y1), (.int (1 : Int32)), (.ref W)])) _
          refine X999.ldc2Long hx hown (mvT hZ (own_hw hw 66 rfl)) (g := (mkF m 31 #[sR a1, sI mm, sI 1] [(.long ((1 : Int64) <<< (mm &&& 0x3f).toInt64)), (.long y1), (.int (1 : Int32)), (.ref W)])) rfl (hb hby dp23_4_31) _ ?_
          show Sg p e below (T999.setTop (mkF m 34 #[sR a1, sI mm, sI 1] [(.long (-1 : Int64)), (.long ((1 : Int64) <<< (mm &&& 0x3f).toInt64)), (.long y1), (.int (1 : Int32)), (.ref W)])) _
          refine XS.lxor X999.here hx rfl (hb hby dp23_4_34) rfl ?_
          refine XS.land X999.here hx rfl (hb hby dp23_4_35) rfl ?_
          show Sg p e below (T999.setTop (mkF m 36 #[sR a1, sI mm, sI 1] [(.long (y1 &&& (((1 : Int64) <<< (mm &&& 0x3f).toInt64) ^^^ (-1 : Int64)))), (.int (1 : Int32)), (.ref W)])) _
          exact st1002 _ k)
        have N1005 := Fr.snoc X1002 N977 g_W
        have Z1006 : n0 ≤ h1002.size := Nat.le_trans Z0 (Keep.of_wr W1002).1
        have K1007 : Keep h0 h1002 [W] := (Keep.refl h0 [W]).wr W1002 (Or.inl (List.mem_of_getElem? (i := 0) rfl))
        obtain ⟨fs1008, hr1008, hrun1008, hended1008, hW1008, hsame1008⟩ := X1002.leave (v := none) (fun _ => rfl)
        refine ⟨_, _, pre0 _ (P1004 _ ?_), hrun1008, hended1008, _, _, rfl, ?_, ⟨⟨_, rfl⟩, hW1008, hsame1008.mono (Nat.le_of_ble_eq_true rfl) (Nat.le_of_ble_eq_true rfl)⟩⟩
        · show Sg p e below (T1002.setTop (mkF m 37 #[sR a1, sI mm, sI 1] [])) _
          exact X1002.returnOut hx Bd.returns (hb hby dp23_4_37) hr1008
        · show Q_rmv Z W kW M [x0, x1] [y0, y1] vr mm h0 n0 _ T1002.heap _
          rw [e1002]
          exact ⟨rfl, N1005, K1007, by rw [hq 0]; exact v1003⟩
    · skip
      obtain ⟨y0, y1, y2, rfl⟩ := own_len3 hl
      obtain ⟨hs01', hs12'⟩ := own_p3 hs
      have hs01 := Int32.lt_iff_toInt_lt.mp hs01'
      have hs12 := Int32.lt_iff_toInt_lt.mp hs12'
      have hi' : i = 0 ∨ i = 1 ∨ i = 2 := by simp only [List.length_cons, List.length_nil] at hi; omega
      rcases hi' with rfl | rfl | rfl
      · skip
        have hr' : r976 = (0 : Int32) := hr
        subst hr'
        have hk' : x0 = own_sh mm := Option.some.inj hk
        have hn1 : ¬ x1 = own_sh mm := fun e => by (have e' := congrArg Int32.toInt (e.trans hk'.symm); omega)
        have hn2 : ¬ x2 = own_sh mm := fun e => by (have e' := congrArg Int32.toInt (e.trans hk'.symm); omega)
        have hq : ∀ z : Int64, own_rem [x0, x1, x2] [y0, y1, y2] mm = [y0 &&& (own_bit mm ^^^ (-1)), y1, y2] := fun _ => by simp only [own_rem]; rw [if_pos hk', if_neg hn1, if_neg hn2]
        obtain ⟨T1009, X1009, e1009, st1009⟩ := getF X976 hx hZ hown (host := "") (Or.inl (own_hw hw 40 rfl)) Via.refl e976 Fw (g := (mkF m 22 #[sR a1, sI mm, sI 0] [(.ref a1)])) rfl rfl (hb hby dp23_4_22)
        have P1010 : Rg p e below (T1009.setTop (mkF m 25 #[sR a1, sI mm, sI 0] [(.ref W)])) B0 := fun t k => P978 t (by
          refine XS.istoreN X976.here hx rfl (hb hby dp23_4_16) rfl (l' := #[sR a1, sI mm, sI 0]) rfl ?_
          refine XS.iloadN X976.here hx rfl (hb hby dp23_4_17) rfl ?_
          refine XS.ifNo X976.here hx rfl (hb hby dp23_4_18) rfl ((if0 _ _).trans (flt (show ¬ ((0 : Int32) < (0 : Int32)) from (by decide))).1) ?_
          refine XS.aloadN X976.here hx rfl (hb hby dp23_4_21) rfl rfl ?_
          show Sg p e below (T976.setTop (mkF m 22 #[sR a1, sI mm, sI 0] [(.ref a1)])) _
          exact st1009 _ k)
        obtain ⟨cl1011, Ar1011, -, S1011, N1011, H1011, -⟩ := id AW
        have hin1011 : ¬ ((0 : Int32) < 0 ∨ cl1011.slots.size ≤ ((0 : Int32)).toNatClampNeg) := inb_of S1011 (own_inb (own_hM2 hM hl hv) (k := 0) (by simp) (own_hm2 hm hl hv))
        obtain ⟨cl1012, Ar1012, q1012, S1012, N1012, H1012, G1012⟩ := id AW
        obtain ⟨T1012, h1012, X1012, e1012, W1012, st1012⟩ := stJ X1009 hx hZ e1009 Ar1012 (j := (0 : Int32)) (inb_of S1012 (own_inb (own_hM2 hM hl hv) (k := 0) (by simp) (own_hm2 hm hl hv))) (g := (mkF m 36 #[sR a1, sI mm, sI 0] [(.long (y0 &&& (((1 : Int64) <<< (mm &&& 0x3f).toInt64) ^^^ (-1 : Int64)))), (.int (0 : Int32)), (.ref W)])) rfl rfl (hb hby dp23_4_36)
        have v1013 : Arv Z h1012 W kW .long M (([(y0 &&& (((1 : Int64) <<< (mm &&& 0x3f).toInt64) ^^^ (-1 : Int64))), y1, y2] ++ vr).map Value.long) (.long (0 : Int64)) := Arv.set Ar1012 q1012 S1012 N1012 H1012 G1012 rfl W1012 0 rfl (by simp)
        have P1014 : Rg p e below (T1012.setTop (mkF m 37 #[sR a1, sI mm, sI 0] [])) B0 := fun t k => P1010 t (by
          refine XS.iloadN X1009.here hx rfl (hb hby dp23_4_25) rfl ?_
          refine XT.dup2 X1009.here hx rfl (hb hby dp23_4_26) rfl rfl rfl ?_
          show Sg p e below (T1009.setTop (mkF m 27 #[sR a1, sI mm, sI 0] [(.int (0 : Int32)), (.ref W), (.int (0 : Int32)), (.ref W)])) _
          refine X1009.laload hx (j := (0 : Int32)) (v := (.long y0)) (by rw [e1009]; exact Ar1011.1) (State.isArrayOf_alike hZ.alike Ar1011.2.1) Ar1011.2.2 hin1011 (H1011.at hin1011 rfl) (g := (mkF m 27 #[sR a1, sI mm, sI 0] [(.int (0 : Int32)), (.ref W), (.int (0 : Int32)), (.ref W)])) rfl rfl (hb hby dp23_4_27) _ ?_
          show Sg p e below (T1009.setTop (mkF m 28 #[sR a1, sI mm, sI 0] [(.long y0), (.int (0 : Int32)), (.ref W)])) _
          refine XS.lconst X1009.here hx rfl (hb hby dp23_4_28) ?_
          refine XS.iloadN X1009.here hx rfl (hb hby dp23_4_29) rfl ?_
          refine XS.lshl X1009.here hx rfl (hb hby dp23_4_30) rfl ?_
          show Sg p e below (T1009.setTop (mkF m 31 #[sR a1, sI mm, sI 0] [(.long ((1 : Int64) <<< (mm &&& 0x3f).toInt64)), (.long y0), (.int (0 : Int32)), (.ref W)])) _
          refine X1009.ldc2Long hx hown (mvT hZ (own_hw hw 66 rfl)) (g := (mkF m 31 #[sR a1, sI mm, sI 0] [(.long ((1 : Int64) <<< (mm &&& 0x3f).toInt64)), (.long y0), (.int (0 : Int32)), (.ref W)])) rfl (hb hby dp23_4_31) _ ?_
          show Sg p e below (T1009.setTop (mkF m 34 #[sR a1, sI mm, sI 0] [(.long (-1 : Int64)), (.long ((1 : Int64) <<< (mm &&& 0x3f).toInt64)), (.long y0), (.int (0 : Int32)), (.ref W)])) _
          refine XS.lxor X1009.here hx rfl (hb hby dp23_4_34) rfl ?_
          refine XS.land X1009.here hx rfl (hb hby dp23_4_35) rfl ?_
          show Sg p e below (T1009.setTop (mkF m 36 #[sR a1, sI mm, sI 0] [(.long (y0 &&& (((1 : Int64) <<< (mm &&& 0x3f).toInt64) ^^^ (-1 : Int64)))), (.int (0 : Int32)), (.ref W)])) _
          exact st1012 _ k)
        have N1015 := Fr.snoc X1012 N977 g_W
        have Z1016 : n0 ≤ h1012.size := Nat.le_trans Z0 (Keep.of_wr W1012).1
        have K1017 : Keep h0 h1012 [W] := (Keep.refl h0 [W]).wr W1012 (Or.inl (List.mem_of_getElem? (i := 0) rfl))
        obtain ⟨fs1018, hr1018, hrun1018, hended1018, hW1018, hsame1018⟩ := X1012.leave (v := none) (fun _ => rfl)
        refine ⟨_, _, pre0 _ (P1014 _ ?_), hrun1018, hended1018, _, _, rfl, ?_, ⟨⟨_, rfl⟩, hW1018, hsame1018.mono (Nat.le_of_ble_eq_true rfl) (Nat.le_of_ble_eq_true rfl)⟩⟩
        · show Sg p e below (T1012.setTop (mkF m 37 #[sR a1, sI mm, sI 0] [])) _
          exact X1012.returnOut hx Bd.returns (hb hby dp23_4_37) hr1018
        · show Q_rmv Z W kW M [x0, x1, x2] [y0, y1, y2] vr mm h0 n0 _ T1012.heap _
          rw [e1012]
          exact ⟨rfl, N1015, K1017, by rw [hq 0]; exact v1013⟩
      · skip
        have hr' : r976 = (1 : Int32) := hr
        subst hr'
        have hk' : x1 = own_sh mm := Option.some.inj hk
        have hn0 : ¬ x0 = own_sh mm := fun e => by (have e' := congrArg Int32.toInt (e.trans hk'.symm); omega)
        have hn2 : ¬ x2 = own_sh mm := fun e => by (have e' := congrArg Int32.toInt (e.trans hk'.symm); omega)
        have hq : ∀ z : Int64, own_rem [x0, x1, x2] [y0, y1, y2] mm = [y0, y1 &&& (own_bit mm ^^^ (-1)), y2] := fun _ => by simp only [own_rem]; rw [if_neg hn0, if_pos hk', if_neg hn2]
        obtain ⟨T1019, X1019, e1019, st1019⟩ := getF X976 hx hZ hown (host := "") (Or.inl (own_hw hw 40 rfl)) Via.refl e976 Fw (g := (mkF m 22 #[sR a1, sI mm, sI 1] [(.ref a1)])) rfl rfl (hb hby dp23_4_22)
        have P1020 : Rg p e below (T1019.setTop (mkF m 25 #[sR a1, sI mm, sI 1] [(.ref W)])) B0 := fun t k => P978 t (by
          refine XS.istoreN X976.here hx rfl (hb hby dp23_4_16) rfl (l' := #[sR a1, sI mm, sI 1]) rfl ?_
          refine XS.iloadN X976.here hx rfl (hb hby dp23_4_17) rfl ?_
          refine XS.ifNo X976.here hx rfl (hb hby dp23_4_18) rfl ((if0 _ _).trans (flt (show ¬ ((1 : Int32) < (0 : Int32)) from (by decide))).1) ?_
          refine XS.aloadN X976.here hx rfl (hb hby dp23_4_21) rfl rfl ?_
          show Sg p e below (T976.setTop (mkF m 22 #[sR a1, sI mm, sI 1] [(.ref a1)])) _
          exact st1019 _ k)
        obtain ⟨cl1021, Ar1021, -, S1021, N1021, H1021, -⟩ := id AW
        have hin1021 : ¬ ((1 : Int32) < 0 ∨ cl1021.slots.size ≤ ((1 : Int32)).toNatClampNeg) := inb_of S1021 (own_inb (own_hM2 hM hl hv) (k := 1) (by simp) (own_hm2 hm hl hv))
        obtain ⟨cl1022, Ar1022, q1022, S1022, N1022, H1022, G1022⟩ := id AW
        obtain ⟨T1022, h1022, X1022, e1022, W1022, st1022⟩ := stJ X1019 hx hZ e1019 Ar1022 (j := (1 : Int32)) (inb_of S1022 (own_inb (own_hM2 hM hl hv) (k := 1) (by simp) (own_hm2 hm hl hv))) (g := (mkF m 36 #[sR a1, sI mm, sI 1] [(.long (y1 &&& (((1 : Int64) <<< (mm &&& 0x3f).toInt64) ^^^ (-1 : Int64)))), (.int (1 : Int32)), (.ref W)])) rfl rfl (hb hby dp23_4_36)
        have v1023 : Arv Z h1022 W kW .long M (([y0, (y1 &&& (((1 : Int64) <<< (mm &&& 0x3f).toInt64) ^^^ (-1 : Int64))), y2] ++ vr).map Value.long) (.long (0 : Int64)) := Arv.set Ar1022 q1022 S1022 N1022 H1022 G1022 rfl W1022 1 rfl (by simp)
        have P1024 : Rg p e below (T1022.setTop (mkF m 37 #[sR a1, sI mm, sI 1] [])) B0 := fun t k => P1020 t (by
          refine XS.iloadN X1019.here hx rfl (hb hby dp23_4_25) rfl ?_
          refine XT.dup2 X1019.here hx rfl (hb hby dp23_4_26) rfl rfl rfl ?_
          show Sg p e below (T1019.setTop (mkF m 27 #[sR a1, sI mm, sI 1] [(.int (1 : Int32)), (.ref W), (.int (1 : Int32)), (.ref W)])) _
          refine X1019.laload hx (j := (1 : Int32)) (v := (.long y1)) (by rw [e1019]; exact Ar1021.1) (State.isArrayOf_alike hZ.alike Ar1021.2.1) Ar1021.2.2 hin1021 (H1021.at hin1021 rfl) (g := (mkF m 27 #[sR a1, sI mm, sI 1] [(.int (1 : Int32)), (.ref W), (.int (1 : Int32)), (.ref W)])) rfl rfl (hb hby dp23_4_27) _ ?_
          show Sg p e below (T1019.setTop (mkF m 28 #[sR a1, sI mm, sI 1] [(.long y1), (.int (1 : Int32)), (.ref W)])) _
          refine XS.lconst X1019.here hx rfl (hb hby dp23_4_28) ?_
          refine XS.iloadN X1019.here hx rfl (hb hby dp23_4_29) rfl ?_
          refine XS.lshl X1019.here hx rfl (hb hby dp23_4_30) rfl ?_
          show Sg p e below (T1019.setTop (mkF m 31 #[sR a1, sI mm, sI 1] [(.long ((1 : Int64) <<< (mm &&& 0x3f).toInt64)), (.long y1), (.int (1 : Int32)), (.ref W)])) _
          refine X1019.ldc2Long hx hown (mvT hZ (own_hw hw 66 rfl)) (g := (mkF m 31 #[sR a1, sI mm, sI 1] [(.long ((1 : Int64) <<< (mm &&& 0x3f).toInt64)), (.long y1), (.int (1 : Int32)), (.ref W)])) rfl (hb hby dp23_4_31) _ ?_
          show Sg p e below (T1019.setTop (mkF m 34 #[sR a1, sI mm, sI 1] [(.long (-1 : Int64)), (.long ((1 : Int64) <<< (mm &&& 0x3f).toInt64)), (.long y1), (.int (1 : Int32)), (.ref W)])) _
          refine XS.lxor X1019.here hx rfl (hb hby dp23_4_34) rfl ?_
          refine XS.land X1019.here hx rfl (hb hby dp23_4_35) rfl ?_
          show Sg p e below (T1019.setTop (mkF m 36 #[sR a1, sI mm, sI 1] [(.long (y1 &&& (((1 : Int64) <<< (mm &&& 0x3f).toInt64) ^^^ (-1 : Int64)))), (.int (1 : Int32)), (.ref W)])) _
          exact st1022 _ k)
        have N1025 := Fr.snoc X1022 N977 g_W
        have Z1026 : n0 ≤ h1022.size := Nat.le_trans Z0 (Keep.of_wr W1022).1
        have K1027 : Keep h0 h1022 [W] := (Keep.refl h0 [W]).wr W1022 (Or.inl (List.mem_of_getElem? (i := 0) rfl))
        obtain ⟨fs1028, hr1028, hrun1028, hended1028, hW1028, hsame1028⟩ := X1022.leave (v := none) (fun _ => rfl)
        refine ⟨_, _, pre0 _ (P1024 _ ?_), hrun1028, hended1028, _, _, rfl, ?_, ⟨⟨_, rfl⟩, hW1028, hsame1028.mono (Nat.le_of_ble_eq_true rfl) (Nat.le_of_ble_eq_true rfl)⟩⟩
        · show Sg p e below (T1022.setTop (mkF m 37 #[sR a1, sI mm, sI 1] [])) _
          exact X1022.returnOut hx Bd.returns (hb hby dp23_4_37) hr1028
        · show Q_rmv Z W kW M [x0, x1, x2] [y0, y1, y2] vr mm h0 n0 _ T1022.heap _
          rw [e1022]
          exact ⟨rfl, N1025, K1027, by rw [hq 0]; exact v1023⟩
      · skip
        have hr' : r976 = (2 : Int32) := hr
        subst hr'
        have hk' : x2 = own_sh mm := Option.some.inj hk
        have hn0 : ¬ x0 = own_sh mm := fun e => by (have e' := congrArg Int32.toInt (e.trans hk'.symm); omega)
        have hn1 : ¬ x1 = own_sh mm := fun e => by (have e' := congrArg Int32.toInt (e.trans hk'.symm); omega)
        have hq : ∀ z : Int64, own_rem [x0, x1, x2] [y0, y1, y2] mm = [y0, y1, y2 &&& (own_bit mm ^^^ (-1))] := fun _ => by simp only [own_rem]; rw [if_neg hn0, if_neg hn1, if_pos hk']
        obtain ⟨T1029, X1029, e1029, st1029⟩ := getF X976 hx hZ hown (host := "") (Or.inl (own_hw hw 40 rfl)) Via.refl e976 Fw (g := (mkF m 22 #[sR a1, sI mm, sI 2] [(.ref a1)])) rfl rfl (hb hby dp23_4_22)
        have P1030 : Rg p e below (T1029.setTop (mkF m 25 #[sR a1, sI mm, sI 2] [(.ref W)])) B0 := fun t k => P978 t (by
          refine XS.istoreN X976.here hx rfl (hb hby dp23_4_16) rfl (l' := #[sR a1, sI mm, sI 2]) rfl ?_
          refine XS.iloadN X976.here hx rfl (hb hby dp23_4_17) rfl ?_
          refine XS.ifNo X976.here hx rfl (hb hby dp23_4_18) rfl ((if0 _ _).trans (flt (show ¬ ((2 : Int32) < (0 : Int32)) from (by decide))).1) ?_
          refine XS.aloadN X976.here hx rfl (hb hby dp23_4_21) rfl rfl ?_
          show Sg p e below (T976.setTop (mkF m 22 #[sR a1, sI mm, sI 2] [(.ref a1)])) _
          exact st1029 _ k)
        obtain ⟨cl1031, Ar1031, -, S1031, N1031, H1031, -⟩ := id AW
        have hin1031 : ¬ ((2 : Int32) < 0 ∨ cl1031.slots.size ≤ ((2 : Int32)).toNatClampNeg) := inb_of S1031 (own_inb (own_hM2 hM hl hv) (k := 2) (by simp) (own_hm2 hm hl hv))
        obtain ⟨cl1032, Ar1032, q1032, S1032, N1032, H1032, G1032⟩ := id AW
        obtain ⟨T1032, h1032, X1032, e1032, W1032, st1032⟩ := stJ X1029 hx hZ e1029 Ar1032 (j := (2 : Int32)) (inb_of S1032 (own_inb (own_hM2 hM hl hv) (k := 2) (by simp) (own_hm2 hm hl hv))) (g := (mkF m 36 #[sR a1, sI mm, sI 2] [(.long (y2 &&& (((1 : Int64) <<< (mm &&& 0x3f).toInt64) ^^^ (-1 : Int64)))), (.int (2 : Int32)), (.ref W)])) rfl rfl (hb hby dp23_4_36)
        have v1033 : Arv Z h1032 W kW .long M (([y0, y1, (y2 &&& (((1 : Int64) <<< (mm &&& 0x3f).toInt64) ^^^ (-1 : Int64)))] ++ vr).map Value.long) (.long (0 : Int64)) := Arv.set Ar1032 q1032 S1032 N1032 H1032 G1032 rfl W1032 2 rfl (by simp)
        have P1034 : Rg p e below (T1032.setTop (mkF m 37 #[sR a1, sI mm, sI 2] [])) B0 := fun t k => P1030 t (by
          refine XS.iloadN X1029.here hx rfl (hb hby dp23_4_25) rfl ?_
          refine XT.dup2 X1029.here hx rfl (hb hby dp23_4_26) rfl rfl rfl ?_
          show Sg p e below (T1029.setTop (mkF m 27 #[sR a1, sI mm, sI 2] [(.int (2 : Int32)), (.ref W), (.int (2 : Int32)), (.ref W)])) _
          refine X1029.laload hx (j := (2 : Int32)) (v := (.long y2)) (by rw [e1029]; exact Ar1031.1) (State.isArrayOf_alike hZ.alike Ar1031.2.1) Ar1031.2.2 hin1031 (H1031.at hin1031 rfl) (g := (mkF m 27 #[sR a1, sI mm, sI 2] [(.int (2 : Int32)), (.ref W), (.int (2 : Int32)), (.ref W)])) rfl rfl (hb hby dp23_4_27) _ ?_
          show Sg p e below (T1029.setTop (mkF m 28 #[sR a1, sI mm, sI 2] [(.long y2), (.int (2 : Int32)), (.ref W)])) _
          refine XS.lconst X1029.here hx rfl (hb hby dp23_4_28) ?_
          refine XS.iloadN X1029.here hx rfl (hb hby dp23_4_29) rfl ?_
          refine XS.lshl X1029.here hx rfl (hb hby dp23_4_30) rfl ?_
          show Sg p e below (T1029.setTop (mkF m 31 #[sR a1, sI mm, sI 2] [(.long ((1 : Int64) <<< (mm &&& 0x3f).toInt64)), (.long y2), (.int (2 : Int32)), (.ref W)])) _
          refine X1029.ldc2Long hx hown (mvT hZ (own_hw hw 66 rfl)) (g := (mkF m 31 #[sR a1, sI mm, sI 2] [(.long ((1 : Int64) <<< (mm &&& 0x3f).toInt64)), (.long y2), (.int (2 : Int32)), (.ref W)])) rfl (hb hby dp23_4_31) _ ?_
          show Sg p e below (T1029.setTop (mkF m 34 #[sR a1, sI mm, sI 2] [(.long (-1 : Int64)), (.long ((1 : Int64) <<< (mm &&& 0x3f).toInt64)), (.long y2), (.int (2 : Int32)), (.ref W)])) _
          refine XS.lxor X1029.here hx rfl (hb hby dp23_4_34) rfl ?_
          refine XS.land X1029.here hx rfl (hb hby dp23_4_35) rfl ?_
          show Sg p e below (T1029.setTop (mkF m 36 #[sR a1, sI mm, sI 2] [(.long (y2 &&& (((1 : Int64) <<< (mm &&& 0x3f).toInt64) ^^^ (-1 : Int64)))), (.int (2 : Int32)), (.ref W)])) _
          exact st1032 _ k)
        have N1035 := Fr.snoc X1032 N977 g_W
        have Z1036 : n0 ≤ h1032.size := Nat.le_trans Z0 (Keep.of_wr W1032).1
        have K1037 : Keep h0 h1032 [W] := (Keep.refl h0 [W]).wr W1032 (Or.inl (List.mem_of_getElem? (i := 0) rfl))
        obtain ⟨fs1038, hr1038, hrun1038, hended1038, hW1038, hsame1038⟩ := X1032.leave (v := none) (fun _ => rfl)
        refine ⟨_, _, pre0 _ (P1034 _ ?_), hrun1038, hended1038, _, _, rfl, ?_, ⟨⟨_, rfl⟩, hW1038, hsame1038.mono (Nat.le_of_ble_eq_true rfl) (Nat.le_of_ble_eq_true rfl)⟩⟩
        · show Sg p e below (T1032.setTop (mkF m 37 #[sR a1, sI mm, sI 2] [])) _
          exact X1032.returnOut hx Bd.returns (hb hby dp23_4_37) hr1038
        · show Q_rmv Z W kW M [x0, x1, x2] [y0, y1, y2] vr mm h0 n0 _ T1032.heap _
          rw [e1032]
          exact ⟨rfl, N1035, K1037, by rw [hq 0]; exact v1033⟩
    · exact absurd hlen (by simp)
  · skip
    obtain ⟨fs1039, hr1039, hrun1039, hended1039, hW1039, hsame1039⟩ := X976.leave (v := none) (fun _ => rfl)
    refine ⟨_, _, pre0 _ (P978 _ ?_), hrun1039, hended1039, _, _, rfl, ?_, ⟨⟨_, rfl⟩, hW1039, hsame1039.mono (Nat.le_of_ble_eq_true rfl) (Nat.le_of_ble_eq_true rfl)⟩⟩
    · show Sg p e below (T976.setTop (mkF m 16 #[sR a1, sI mm, sU] [(.int r976)])) _
      refine XS.istoreN X976.here hx rfl (hb hby dp23_4_16) rfl (l' := #[sR a1, sI mm, sI r976]) rfl ?_
      refine XS.iloadN X976.here hx rfl (hb hby dp23_4_17) rfl ?_
      refine XS.ifYes X976.here hx rfl (pc0 := 18) (pc' := 37) rfl (hb hby dp23_4_18) rfl ((if0 _ _).trans (tlt (show r976 < (0 : Int32) from hneg)).1) (by decide) (by decide) ?_
      show Sg p e below (T976.setTop (mkF m 37 #[sR a1, sI mm, sI r976] [])) _
      exact X976.returnOut hx Bd.returns (hb hby dp23_4_37) hr1039
    · show Q_rmv Z W kW M pl wv vr mm h0 n0 _ T976.heap _
      rw [e976]
      exact ⟨rfl, N977, Keep.refl h0 [W], by rw [own_rem_none hni]; exact AW⟩
theorem dj35_50_0 : decode jdk_35_method_50_code 0 = .ok (.lload_n 0, 1) := by decide +kernel
theorem dj35_50_1 : decode jdk_35_method_50_code 1 = .ok (.lload_n 0, 1) := by decide +kernel
theorem dj35_50_2 : decode jdk_35_method_50_code 2 = .ok (.iconst 1, 1) := by decide +kernel
theorem dj35_50_3 : decode jdk_35_method_50_code 3 = .ok (.lushr, 1) := by decide +kernel
theorem dj35_50_4 : decode jdk_35_method_50_code 4 = .ok (.ldc2_w 314, 3) := by decide +kernel
theorem dj35_50_7 : decode jdk_35_method_50_code 7 = .ok (.land, 1) := by decide +kernel
theorem dj35_50_8 : decode jdk_35_method_50_code 8 = .ok (.lsub, 1) := by decide +kernel
theorem dj35_50_9 : decode jdk_35_method_50_code 9 = .ok (.lstore_n 0, 1) := by decide +kernel
theorem dj35_50_10 : decode jdk_35_method_50_code 10 = .ok (.lload_n 0, 1) := by decide +kernel
theorem dj35_50_11 : decode jdk_35_method_50_code 11 = .ok (.ldc2_w 316, 3) := by decide +kernel
theorem dj35_50_14 : decode jdk_35_method_50_code 14 = .ok (.land, 1) := by decide +kernel
theorem dj35_50_15 : decode jdk_35_method_50_code 15 = .ok (.lload_n 0, 1) := by decide +kernel
theorem dj35_50_16 : decode jdk_35_method_50_code 16 = .ok (.iconst 2, 1) := by decide +kernel
theorem dj35_50_17 : decode jdk_35_method_50_code 17 = .ok (.lushr, 1) := by decide +kernel
theorem dj35_50_18 : decode jdk_35_method_50_code 18 = .ok (.ldc2_w 316, 3) := by decide +kernel
theorem dj35_50_21 : decode jdk_35_method_50_code 21 = .ok (.land, 1) := by decide +kernel
theorem dj35_50_22 : decode jdk_35_method_50_code 22 = .ok (.ladd, 1) := by decide +kernel
theorem dj35_50_23 : decode jdk_35_method_50_code 23 = .ok (.lstore_n 0, 1) := by decide +kernel
theorem dj35_50_24 : decode jdk_35_method_50_code 24 = .ok (.lload_n 0, 1) := by decide +kernel
theorem dj35_50_25 : decode jdk_35_method_50_code 25 = .ok (.lload_n 0, 1) := by decide +kernel
theorem dj35_50_26 : decode jdk_35_method_50_code 26 = .ok (.iconst 4, 1) := by decide +kernel
theorem dj35_50_27 : decode jdk_35_method_50_code 27 = .ok (.lushr, 1) := by decide +kernel
theorem dj35_50_28 : decode jdk_35_method_50_code 28 = .ok (.ladd, 1) := by decide +kernel
theorem dj35_50_29 : decode jdk_35_method_50_code 29 = .ok (.ldc2_w 318, 3) := by decide +kernel
theorem dj35_50_32 : decode jdk_35_method_50_code 32 = .ok (.land, 1) := by decide +kernel
theorem dj35_50_33 : decode jdk_35_method_50_code 33 = .ok (.lstore_n 0, 1) := by decide +kernel
theorem dj35_50_34 : decode jdk_35_method_50_code 34 = .ok (.lload_n 0, 1) := by decide +kernel
theorem dj35_50_35 : decode jdk_35_method_50_code 35 = .ok (.lload_n 0, 1) := by decide +kernel
theorem dj35_50_36 : decode jdk_35_method_50_code 36 = .ok (.bipush 8, 2) := by decide +kernel
theorem dj35_50_38 : decode jdk_35_method_50_code 38 = .ok (.lushr, 1) := by decide +kernel
theorem dj35_50_39 : decode jdk_35_method_50_code 39 = .ok (.ladd, 1) := by decide +kernel
theorem dj35_50_40 : decode jdk_35_method_50_code 40 = .ok (.lstore_n 0, 1) := by decide +kernel
theorem dj35_50_41 : decode jdk_35_method_50_code 41 = .ok (.lload_n 0, 1) := by decide +kernel
theorem dj35_50_42 : decode jdk_35_method_50_code 42 = .ok (.lload_n 0, 1) := by decide +kernel
theorem dj35_50_43 : decode jdk_35_method_50_code 43 = .ok (.bipush 16, 2) := by decide +kernel
theorem dj35_50_45 : decode jdk_35_method_50_code 45 = .ok (.lushr, 1) := by decide +kernel
theorem dj35_50_46 : decode jdk_35_method_50_code 46 = .ok (.ladd, 1) := by decide +kernel
theorem dj35_50_47 : decode jdk_35_method_50_code 47 = .ok (.lstore_n 0, 1) := by decide +kernel
theorem dj35_50_48 : decode jdk_35_method_50_code 48 = .ok (.lload_n 0, 1) := by decide +kernel
theorem dj35_50_49 : decode jdk_35_method_50_code 49 = .ok (.lload_n 0, 1) := by decide +kernel
theorem dj35_50_50 : decode jdk_35_method_50_code 50 = .ok (.bipush 32, 2) := by decide +kernel
theorem dj35_50_52 : decode jdk_35_method_50_code 52 = .ok (.lushr, 1) := by decide +kernel
theorem dj35_50_53 : decode jdk_35_method_50_code 53 = .ok (.ladd, 1) := by decide +kernel
theorem dj35_50_54 : decode jdk_35_method_50_code 54 = .ok (.lstore_n 0, 1) := by decide +kernel
theorem dj35_50_55 : decode jdk_35_method_50_code 55 = .ok (.lload_n 0, 1) := by decide +kernel
theorem dj35_50_56 : decode jdk_35_method_50_code 56 = .ok (.l2i, 1) := by decide +kernel
theorem dj35_50_57 : decode jdk_35_method_50_code 57 = .ok (.bipush 127, 2) := by decide +kernel
theorem dj35_50_59 : decode jdk_35_method_50_code 59 = .ok (.iand, 1) := by decide +kernel
theorem dj35_50_60 : decode jdk_35_method_50_code 60 = .ok (.ireturn, 1) := by decide +kernel
theorem pn_java_lang_Long : plainName "java/lang/Long" = true := by first | (simp [plainName, overriddenIn]; done) | decide +kernel
theorem ef_bct (m : MethodId) (x0 : Int64) : entryFrame m #[(.long x0)] 2 = mkF m 0 #[.val (.long x0), .second] [] := by (first | (simp [entryFrame, mkF, argsToLocals, Value.category]; done) | rfl)
def Q_bct (y : Int64) (h0 : Heap) (n0 : Nat) (v : Option Value) (h : Heap) (L : List Loc) : Prop := ∃ r : Int32, v = some (.int r) ∧ Fr n0 L ∧ h = h0 ∧ r = JP.Long_bitCount_J.val y
set_option maxRecDepth 65536 in
set_option maxHeartbeats 40000000 in
theorem rm_bct (l : Launch) (Z : State) (a0 : Array Value) (hw : ∀ d ∈ tables_1, d.before a0 Z = true) (ws : List Jvm.Cond) (y : Int64) (h0 : Heap) (n0 : Nat) (Z0 : n0 ≤ h0.size)  :
    MetFree l (⟨"java/lang/Long", "bitCount", "(J)I"⟩ : MethodName) (head1 (Jvm.Cond.code (⟨"java/lang/Long", "bitCount", "(J)I"⟩ : MethodName) jdk_35_method_50_code 2 (some .int) :: ws) ({ frames := 0, cells := 0, slots := 0, locals := 0 } : Room)) (fun a U => a = #[(.long y)] ∧ Z.Warmed39 U.vm ∧ U.heap = h0) (fun _ _ _ _ _ => True) (fun _ U o U' => ∃ v L, o = .returned v ∧ Q_bct y h0 n0 v U'.heap L ∧ FrameEnd U o U' L ({ frames := 0, cells := 0, slots := 0, locals := 0 } : Room).cells ({ frames := 0, cells := 0, slots := 0, locals := 0 } : Room).slots) := by
  refine MetFree.of_bodySF (plainFor_of_name pn_java_lang_Long) hisR ?_
  intro p e s m args below meth c s₁ Bd hml0 hP hK
  obtain ⟨rfl, hZ, hh⟩ := hP
  have hx := Bd.exec
  have hby := Bd.bytes
  have hml : c.maxLocals = 2 := hml0
  have hown : s.vm.findClass "java/lang/Long" = some m.cls := findClass_of_methodNamed Bd.named
  have hnm := (name_of_methodNamed Bd.named Bd.method).1
  have X0 : Stand p l e ({ frames := 0, cells := 0, slots := 0, locals := 0 } : Room) s m #[(.long y)] below meth c s₁ [] 0 0 := Stand.of_body Bd
  have e0 : s₁.heap = h0 := by rw [← hh, Bd.state]; rfl
  have N0 := Fr.nil n0
  have pre0 : ∀ t, Sg p e below (s₁.setTop (mkF m 0 #[.val (.long y), .second] [])) t → Steps p.tables e below (s₁.setTop (entryFrame m #[(.long y)] 2)) t := fun t k => castTop (ef_bct m y) k
  have P0 : ∀ t, Sg p e below (s₁.setTop (mkF m 0 #[.val (.long y), .second] [])) t → Sg p e below (s₁.setTop (mkF m 0 #[.val (.long y), .second] [])) t := fun t k => k
  obtain ⟨B0, pre0, P0⟩ : ∃ B : State, (∀ t, Steps p.tables e below B t → Steps p.tables e below (s₁.setTop (entryFrame m #[(.long y)] 2)) t) ∧ Rg p e below (s₁.setTop (mkF m 0 #[.val (.long y), .second] [])) B := ⟨_, pre0, P0⟩
  obtain ⟨z1040, hz1040⟩ : ∃ z : Int64, z = (y - (((y.toUInt64 >>> ((1 : Int32) &&& 0x3f).toInt64.toUInt64).toInt64) &&& (6148914691236517205 : Int64))) := ⟨_, rfl⟩
  have P1041 : Rg p e below (s₁.setTop (mkF m 9 #[.val (.long y), .second] [(.long (y - (((y.toUInt64 >>> ((1 : Int32) &&& 0x3f).toInt64.toUInt64).toInt64) &&& (6148914691236517205 : Int64))))])) B0 := fun t k => P0 t (by
    refine XS.lloadN X0.here hx rfl (hb hby dj35_50_0) rfl ?_
    refine XS.lloadN X0.here hx rfl (hb hby dj35_50_1) rfl ?_
    refine XS.iconst X0.here hx rfl (hb hby dj35_50_2) ?_
    refine XS.lushr X0.here hx rfl (hb hby dj35_50_3) rfl ?_
    show Sg p e below (s₁.setTop (mkF m 4 #[.val (.long y), .second] [(.long ((y.toUInt64 >>> ((1 : Int32) &&& 0x3f).toInt64.toUInt64).toInt64)), (.long y)])) _
    refine X0.ldc2Long hx hown (mvT hZ (own_hw hw 79 rfl)) (g := (mkF m 4 #[.val (.long y), .second] [(.long ((y.toUInt64 >>> ((1 : Int32) &&& 0x3f).toInt64.toUInt64).toInt64)), (.long y)])) rfl (hb hby dj35_50_4) _ ?_
    show Sg p e below (s₁.setTop (mkF m 7 #[.val (.long y), .second] [(.long (6148914691236517205 : Int64)), (.long ((y.toUInt64 >>> ((1 : Int32) &&& 0x3f).toInt64.toUInt64).toInt64)), (.long y)])) _
    refine XS.land X0.here hx rfl (hb hby dj35_50_7) rfl ?_
    refine XS.lsub X0.here hx rfl (hb hby dj35_50_8) rfl ?_
    show Sg p e below (s₁.setTop (mkF m 9 #[.val (.long y), .second] [(.long (y - (((y.toUInt64 >>> ((1 : Int32) &&& 0x3f).toInt64.toUInt64).toInt64) &&& (6148914691236517205 : Int64))))])) _
    exact k)
  have P1042 : Rg p e below (s₁.setTop (mkF m 9 #[.val (.long y), .second] [(.long z1040)])) B0 := fun t k => P1041 t (by rw [hz1040] at k; exact k)
  obtain ⟨z1043, hz1043⟩ : ∃ z : Int64, z = ((z1040 &&& (3689348814741910323 : Int64)) + (((z1040.toUInt64 >>> ((2 : Int32) &&& 0x3f).toInt64.toUInt64).toInt64) &&& (3689348814741910323 : Int64))) := ⟨_, rfl⟩
  have P1044 : Rg p e below (s₁.setTop (mkF m 23 #[.val (.long z1040), .second] [(.long ((z1040 &&& (3689348814741910323 : Int64)) + (((z1040.toUInt64 >>> ((2 : Int32) &&& 0x3f).toInt64.toUInt64).toInt64) &&& (3689348814741910323 : Int64))))])) B0 := fun t k => P1042 t (by
    refine XS.lstoreN X0.here hx rfl (hb hby dj35_50_9) rfl (l' := #[.val (.long z1040), .second]) rfl ?_
    refine XS.lloadN X0.here hx rfl (hb hby dj35_50_10) rfl ?_
    show Sg p e below (s₁.setTop (mkF m 11 #[.val (.long z1040), .second] [(.long z1040)])) _
    refine X0.ldc2Long hx hown (mvT hZ (own_hw hw 80 rfl)) (g := (mkF m 11 #[.val (.long z1040), .second] [(.long z1040)])) rfl (hb hby dj35_50_11) _ ?_
    show Sg p e below (s₁.setTop (mkF m 14 #[.val (.long z1040), .second] [(.long (3689348814741910323 : Int64)), (.long z1040)])) _
    refine XS.land X0.here hx rfl (hb hby dj35_50_14) rfl ?_
    refine XS.lloadN X0.here hx rfl (hb hby dj35_50_15) rfl ?_
    refine XS.iconst X0.here hx rfl (hb hby dj35_50_16) ?_
    refine XS.lushr X0.here hx rfl (hb hby dj35_50_17) rfl ?_
    show Sg p e below (s₁.setTop (mkF m 18 #[.val (.long z1040), .second] [(.long ((z1040.toUInt64 >>> ((2 : Int32) &&& 0x3f).toInt64.toUInt64).toInt64)), (.long (z1040 &&& (3689348814741910323 : Int64)))])) _
    refine X0.ldc2Long hx hown (mvT hZ (own_hw hw 80 rfl)) (g := (mkF m 18 #[.val (.long z1040), .second] [(.long ((z1040.toUInt64 >>> ((2 : Int32) &&& 0x3f).toInt64.toUInt64).toInt64)), (.long (z1040 &&& (3689348814741910323 : Int64)))])) rfl (hb hby dj35_50_18) _ ?_
    show Sg p e below (s₁.setTop (mkF m 21 #[.val (.long z1040), .second] [(.long (3689348814741910323 : Int64)), (.long ((z1040.toUInt64 >>> ((2 : Int32) &&& 0x3f).toInt64.toUInt64).toInt64)), (.long (z1040 &&& (3689348814741910323 : Int64)))])) _
    refine XS.land X0.here hx rfl (hb hby dj35_50_21) rfl ?_
    refine XS.ladd X0.here hx rfl (hb hby dj35_50_22) rfl ?_
    show Sg p e below (s₁.setTop (mkF m 23 #[.val (.long z1040), .second] [(.long ((z1040 &&& (3689348814741910323 : Int64)) + (((z1040.toUInt64 >>> ((2 : Int32) &&& 0x3f).toInt64.toUInt64).toInt64) &&& (3689348814741910323 : Int64))))])) _
    exact k)
  have P1045 : Rg p e below (s₁.setTop (mkF m 23 #[.val (.long z1040), .second] [(.long z1043)])) B0 := fun t k => P1044 t (by rw [hz1043] at k; exact k)
  obtain ⟨z1046, hz1046⟩ : ∃ z : Int64, z = ((z1043 + ((z1043.toUInt64 >>> ((4 : Int32) &&& 0x3f).toInt64.toUInt64).toInt64)) &&& (1085102592571150095 : Int64)) := ⟨_, rfl⟩
  have P1047 : Rg p e below (s₁.setTop (mkF m 33 #[.val (.long z1043), .second] [(.long ((z1043 + ((z1043.toUInt64 >>> ((4 : Int32) &&& 0x3f).toInt64.toUInt64).toInt64)) &&& (1085102592571150095 : Int64)))])) B0 := fun t k => P1045 t (by
    refine XS.lstoreN X0.here hx rfl (hb hby dj35_50_23) rfl (l' := #[.val (.long z1043), .second]) rfl ?_
    refine XS.lloadN X0.here hx rfl (hb hby dj35_50_24) rfl ?_
    refine XS.lloadN X0.here hx rfl (hb hby dj35_50_25) rfl ?_
    refine XS.iconst X0.here hx rfl (hb hby dj35_50_26) ?_
    refine XS.lushr X0.here hx rfl (hb hby dj35_50_27) rfl ?_
    refine XS.ladd X0.here hx rfl (hb hby dj35_50_28) rfl ?_
    show Sg p e below (s₁.setTop (mkF m 29 #[.val (.long z1043), .second] [(.long (z1043 + ((z1043.toUInt64 >>> ((4 : Int32) &&& 0x3f).toInt64.toUInt64).toInt64)))])) _
    refine X0.ldc2Long hx hown (mvT hZ (own_hw hw 81 rfl)) (g := (mkF m 29 #[.val (.long z1043), .second] [(.long (z1043 + ((z1043.toUInt64 >>> ((4 : Int32) &&& 0x3f).toInt64.toUInt64).toInt64)))])) rfl (hb hby dj35_50_29) _ ?_
    show Sg p e below (s₁.setTop (mkF m 32 #[.val (.long z1043), .second] [(.long (1085102592571150095 : Int64)), (.long (z1043 + ((z1043.toUInt64 >>> ((4 : Int32) &&& 0x3f).toInt64.toUInt64).toInt64)))])) _
    refine XS.land X0.here hx rfl (hb hby dj35_50_32) rfl ?_
    show Sg p e below (s₁.setTop (mkF m 33 #[.val (.long z1043), .second] [(.long ((z1043 + ((z1043.toUInt64 >>> ((4 : Int32) &&& 0x3f).toInt64.toUInt64).toInt64)) &&& (1085102592571150095 : Int64)))])) _
    exact k)
  have P1048 : Rg p e below (s₁.setTop (mkF m 33 #[.val (.long z1043), .second] [(.long z1046)])) B0 := fun t k => P1047 t (by rw [hz1046] at k; exact k)
  obtain ⟨z1049, hz1049⟩ : ∃ z : Int64, z = (z1046 + ((z1046.toUInt64 >>> ((8 : Int32) &&& 0x3f).toInt64.toUInt64).toInt64)) := ⟨_, rfl⟩
  have P1050 : Rg p e below (s₁.setTop (mkF m 40 #[.val (.long z1046), .second] [(.long (z1046 + ((z1046.toUInt64 >>> ((8 : Int32) &&& 0x3f).toInt64.toUInt64).toInt64)))])) B0 := fun t k => P1048 t (by
    refine XS.lstoreN X0.here hx rfl (hb hby dj35_50_33) rfl (l' := #[.val (.long z1046), .second]) rfl ?_
    refine XS.lloadN X0.here hx rfl (hb hby dj35_50_34) rfl ?_
    refine XS.lloadN X0.here hx rfl (hb hby dj35_50_35) rfl ?_
    refine XS.bipush X0.here hx rfl (hb hby dj35_50_36) ?_
    refine XS.lushr X0.here hx rfl (hb hby dj35_50_38) rfl ?_
    refine XS.ladd X0.here hx rfl (hb hby dj35_50_39) rfl ?_
    show Sg p e below (s₁.setTop (mkF m 40 #[.val (.long z1046), .second] [(.long (z1046 + ((z1046.toUInt64 >>> ((8 : Int32) &&& 0x3f).toInt64.toUInt64).toInt64)))])) _
    exact k)
  have P1051 : Rg p e below (s₁.setTop (mkF m 40 #[.val (.long z1046), .second] [(.long z1049)])) B0 := fun t k => P1050 t (by rw [hz1049] at k; exact k)
  obtain ⟨z1052, hz1052⟩ : ∃ z : Int64, z = (z1049 + ((z1049.toUInt64 >>> ((16 : Int32) &&& 0x3f).toInt64.toUInt64).toInt64)) := ⟨_, rfl⟩
  have P1053 : Rg p e below (s₁.setTop (mkF m 47 #[.val (.long z1049), .second] [(.long (z1049 + ((z1049.toUInt64 >>> ((16 : Int32) &&& 0x3f).toInt64.toUInt64).toInt64)))])) B0 := fun t k => P1051 t (by
    refine XS.lstoreN X0.here hx rfl (hb hby dj35_50_40) rfl (l' := #[.val (.long z1049), .second]) rfl ?_
    refine XS.lloadN X0.here hx rfl (hb hby dj35_50_41) rfl ?_
    refine XS.lloadN X0.here hx rfl (hb hby dj35_50_42) rfl ?_
    refine XS.bipush X0.here hx rfl (hb hby dj35_50_43) ?_
    refine XS.lushr X0.here hx rfl (hb hby dj35_50_45) rfl ?_
    refine XS.ladd X0.here hx rfl (hb hby dj35_50_46) rfl ?_
    show Sg p e below (s₁.setTop (mkF m 47 #[.val (.long z1049), .second] [(.long (z1049 + ((z1049.toUInt64 >>> ((16 : Int32) &&& 0x3f).toInt64.toUInt64).toInt64)))])) _
    exact k)
  have P1054 : Rg p e below (s₁.setTop (mkF m 47 #[.val (.long z1049), .second] [(.long z1052)])) B0 := fun t k => P1053 t (by rw [hz1052] at k; exact k)
  obtain ⟨z1055, hz1055⟩ : ∃ z : Int64, z = (z1052 + ((z1052.toUInt64 >>> ((32 : Int32) &&& 0x3f).toInt64.toUInt64).toInt64)) := ⟨_, rfl⟩
  have P1056 : Rg p e below (s₁.setTop (mkF m 54 #[.val (.long z1052), .second] [(.long (z1052 + ((z1052.toUInt64 >>> ((32 : Int32) &&& 0x3f).toInt64.toUInt64).toInt64)))])) B0 := fun t k => P1054 t (by
    refine XS.lstoreN X0.here hx rfl (hb hby dj35_50_47) rfl (l' := #[.val (.long z1052), .second]) rfl ?_
    refine XS.lloadN X0.here hx rfl (hb hby dj35_50_48) rfl ?_
    refine XS.lloadN X0.here hx rfl (hb hby dj35_50_49) rfl ?_
    refine XS.bipush X0.here hx rfl (hb hby dj35_50_50) ?_
    refine XS.lushr X0.here hx rfl (hb hby dj35_50_52) rfl ?_
    refine XS.ladd X0.here hx rfl (hb hby dj35_50_53) rfl ?_
    show Sg p e below (s₁.setTop (mkF m 54 #[.val (.long z1052), .second] [(.long (z1052 + ((z1052.toUInt64 >>> ((32 : Int32) &&& 0x3f).toInt64.toUInt64).toInt64)))])) _
    exact k)
  have P1057 : Rg p e below (s₁.setTop (mkF m 54 #[.val (.long z1052), .second] [(.long z1055)])) B0 := fun t k => P1056 t (by rw [hz1055] at k; exact k)
  obtain ⟨fs1058, hr1058, hrun1058, hended1058, hW1058, hsame1058⟩ := X0.leave (v := some (.int ((z1055.toInt32) &&& (127 : Int32)))) (fun h => by rw [Bd.returns] at h; cases h)
  refine ⟨_, _, pre0 _ (P1057 _ ?_), hrun1058, hended1058, _, _, rfl, ?_, ⟨⟨_, rfl⟩, hW1058, hsame1058.mono (Nat.le_of_ble_eq_true rfl) (Nat.le_of_ble_eq_true rfl)⟩⟩
  · show Sg p e below (s₁.setTop (mkF m 54 #[.val (.long z1052), .second] [(.long z1055)])) _
    refine XS.lstoreN X0.here hx rfl (hb hby dj35_50_54) rfl (l' := #[.val (.long z1055), .second]) rfl ?_
    refine XS.lloadN X0.here hx rfl (hb hby dj35_50_55) rfl ?_
    refine XS.l2i X0.here hx rfl (hb hby dj35_50_56) rfl ?_
    refine XS.bipush X0.here hx rfl (hb hby dj35_50_57) ?_
    refine XS.iand X0.here hx rfl (hb hby dj35_50_59) rfl ?_
    show Sg p e below (s₁.setTop (mkF m 60 #[.val (.long z1055), .second] [(.int ((z1055.toInt32) &&& (127 : Int32)))])) _
    exact retI X0 hx Bd.returns (hb hby dj35_50_60) hr1058
  · show Q_bct y h0 n0 _ s₁.heap _
    rw [e0]
    exact ⟨_, rfl, N0, rfl, by subst hz1040 hz1043 hz1046 hz1049 hz1052 hz1055; rfl⟩
theorem dj33_48_0 : decode jdk_33_method_48_code 0 = .ok (.iload_n 0, 1) := by decide +kernel
theorem dj33_48_1 : decode jdk_33_method_48_code 1 = .ok (.iconst (-1), 1) := by decide +kernel
theorem dj33_48_2 : decode jdk_33_method_48_code 2 = .ok (.ixor, 1) := by decide +kernel
theorem dj33_48_3 : decode jdk_33_method_48_code 3 = .ok (.iload_n 0, 1) := by decide +kernel
theorem dj33_48_4 : decode jdk_33_method_48_code 4 = .ok (.iconst 1, 1) := by decide +kernel
theorem dj33_48_5 : decode jdk_33_method_48_code 5 = .ok (.isub, 1) := by decide +kernel
theorem dj33_48_6 : decode jdk_33_method_48_code 6 = .ok (.iand, 1) := by decide +kernel
theorem dj33_48_7 : decode jdk_33_method_48_code 7 = .ok (.istore_n 0, 1) := by decide +kernel
theorem dj33_48_8 : decode jdk_33_method_48_code 8 = .ok (.iload_n 0, 1) := by decide +kernel
theorem dj33_48_9 : decode jdk_33_method_48_code 9 = .ok (.ifCond .gt 8, 3) := by decide +kernel
theorem dj33_48_17 : decode jdk_33_method_48_code 17 = .ok (.iconst 1, 1) := by decide +kernel
theorem dj33_48_18 : decode jdk_33_method_48_code 18 = .ok (.istore_n 1, 1) := by decide +kernel
theorem dj33_48_19 : decode jdk_33_method_48_code 19 = .ok (.iload_n 0, 1) := by decide +kernel
theorem dj33_48_20 : decode jdk_33_method_48_code 20 = .ok (.ldc_w 264, 3) := by decide +kernel
theorem dj33_48_23 : decode jdk_33_method_48_code 23 = .ok (.if_icmp .le 11, 3) := by decide +kernel
theorem dj33_48_26 : decode jdk_33_method_48_code 26 = .ok (.iinc 1 16, 3) := by decide +kernel
theorem dj33_48_29 : decode jdk_33_method_48_code 29 = .ok (.iload_n 0, 1) := by decide +kernel
theorem dj33_48_30 : decode jdk_33_method_48_code 30 = .ok (.bipush 16, 2) := by decide +kernel
theorem dj33_48_32 : decode jdk_33_method_48_code 32 = .ok (.iushr, 1) := by decide +kernel
theorem dj33_48_33 : decode jdk_33_method_48_code 33 = .ok (.istore_n 0, 1) := by decide +kernel
theorem dj33_48_34 : decode jdk_33_method_48_code 34 = .ok (.iload_n 0, 1) := by decide +kernel
theorem dj33_48_35 : decode jdk_33_method_48_code 35 = .ok (.sipush 256, 3) := by decide +kernel
theorem dj33_48_38 : decode jdk_33_method_48_code 38 = .ok (.if_icmp .le 11, 3) := by decide +kernel
theorem dj33_48_41 : decode jdk_33_method_48_code 41 = .ok (.iinc 1 8, 3) := by decide +kernel
theorem dj33_48_44 : decode jdk_33_method_48_code 44 = .ok (.iload_n 0, 1) := by decide +kernel
theorem dj33_48_45 : decode jdk_33_method_48_code 45 = .ok (.bipush 8, 2) := by decide +kernel
theorem dj33_48_47 : decode jdk_33_method_48_code 47 = .ok (.iushr, 1) := by decide +kernel
theorem dj33_48_48 : decode jdk_33_method_48_code 48 = .ok (.istore_n 0, 1) := by decide +kernel
theorem dj33_48_49 : decode jdk_33_method_48_code 49 = .ok (.iload_n 0, 1) := by decide +kernel
theorem dj33_48_50 : decode jdk_33_method_48_code 50 = .ok (.bipush 16, 2) := by decide +kernel
theorem dj33_48_52 : decode jdk_33_method_48_code 52 = .ok (.if_icmp .le 10, 3) := by decide +kernel
theorem dj33_48_55 : decode jdk_33_method_48_code 55 = .ok (.iinc 1 4, 3) := by decide +kernel
theorem dj33_48_58 : decode jdk_33_method_48_code 58 = .ok (.iload_n 0, 1) := by decide +kernel
theorem dj33_48_59 : decode jdk_33_method_48_code 59 = .ok (.iconst 4, 1) := by decide +kernel
theorem dj33_48_60 : decode jdk_33_method_48_code 60 = .ok (.iushr, 1) := by decide +kernel
theorem dj33_48_61 : decode jdk_33_method_48_code 61 = .ok (.istore_n 0, 1) := by decide +kernel
theorem dj33_48_62 : decode jdk_33_method_48_code 62 = .ok (.iload_n 0, 1) := by decide +kernel
theorem dj33_48_63 : decode jdk_33_method_48_code 63 = .ok (.iconst 4, 1) := by decide +kernel
theorem dj33_48_64 : decode jdk_33_method_48_code 64 = .ok (.if_icmp .le 10, 3) := by decide +kernel
theorem dj33_48_67 : decode jdk_33_method_48_code 67 = .ok (.iinc 1 2, 3) := by decide +kernel
theorem dj33_48_70 : decode jdk_33_method_48_code 70 = .ok (.iload_n 0, 1) := by decide +kernel
theorem dj33_48_71 : decode jdk_33_method_48_code 71 = .ok (.iconst 2, 1) := by decide +kernel
theorem dj33_48_72 : decode jdk_33_method_48_code 72 = .ok (.iushr, 1) := by decide +kernel
theorem dj33_48_73 : decode jdk_33_method_48_code 73 = .ok (.istore_n 0, 1) := by decide +kernel
theorem dj33_48_74 : decode jdk_33_method_48_code 74 = .ok (.iload_n 1, 1) := by decide +kernel
theorem dj33_48_75 : decode jdk_33_method_48_code 75 = .ok (.iload_n 0, 1) := by decide +kernel
theorem dj33_48_76 : decode jdk_33_method_48_code 76 = .ok (.iconst 1, 1) := by decide +kernel
theorem dj33_48_77 : decode jdk_33_method_48_code 77 = .ok (.iushr, 1) := by decide +kernel
theorem dj33_48_78 : decode jdk_33_method_48_code 78 = .ok (.iadd, 1) := by decide +kernel
theorem dj33_48_79 : decode jdk_33_method_48_code 79 = .ok (.ireturn, 1) := by decide +kernel
theorem dj33_48_12 : decode jdk_33_method_48_code 12 = .ok (.iload_n 0, 1) := by decide +kernel
theorem dj33_48_13 : decode jdk_33_method_48_code 13 = .ok (.bipush 32, 2) := by decide +kernel
theorem dj33_48_15 : decode jdk_33_method_48_code 15 = .ok (.iand, 1) := by decide +kernel
theorem dj33_48_16 : decode jdk_33_method_48_code 16 = .ok (.ireturn, 1) := by decide +kernel
theorem pn_java_lang_Integer : plainName "java/lang/Integer" = true := by first | (simp [plainName, overriddenIn]; done) | decide +kernel
theorem ef_ntzi (m : MethodId) (x0 : Int32) : entryFrame m #[(.int x0)] 2 = mkF m 0 #[sI x0, sU] [] := by (first | (simp [entryFrame, mkF, argsToLocals, Value.category]; done) | rfl)
def Q_ntzi (x : Int32) (h0 : Heap) (n0 : Nat) (v : Option Value) (h : Heap) (L : List Loc) : Prop := ∃ r : Int32, v = some (.int r) ∧ Fr n0 L ∧ h = h0 ∧ r = JP.Integer_numberOfTrailingZeros_I.val x
set_option maxRecDepth 65536 in
set_option maxHeartbeats 40000000 in
theorem rm_ntzi (l : Launch) (Z : State) (a0 : Array Value) (hw : ∀ d ∈ tables_1, d.before a0 Z = true) (ws : List Jvm.Cond) (x : Int32) (h0 : Heap) (n0 : Nat) (Z0 : n0 ≤ h0.size)  :
    MetFree l (⟨"java/lang/Integer", "numberOfTrailingZeros", "(I)I"⟩ : MethodName) (head1 (Jvm.Cond.code (⟨"java/lang/Integer", "numberOfTrailingZeros", "(I)I"⟩ : MethodName) jdk_33_method_48_code 2 (some .int) :: ws) ({ frames := 0, cells := 0, slots := 0, locals := 0 } : Room)) (fun a U => a = #[(.int x)] ∧ Z.Warmed39 U.vm ∧ U.heap = h0) (fun _ _ _ _ _ => True) (fun _ U o U' => ∃ v L, o = .returned v ∧ Q_ntzi x h0 n0 v U'.heap L ∧ FrameEnd U o U' L ({ frames := 0, cells := 0, slots := 0, locals := 0 } : Room).cells ({ frames := 0, cells := 0, slots := 0, locals := 0 } : Room).slots) := by
  refine MetFree.of_bodySF (plainFor_of_name pn_java_lang_Integer) hisR ?_
  intro p e s m args below meth c s₁ Bd hml0 hP hK
  obtain ⟨rfl, hZ, hh⟩ := hP
  have hx := Bd.exec
  have hby := Bd.bytes
  have hml : c.maxLocals = 2 := hml0
  have hown : s.vm.findClass "java/lang/Integer" = some m.cls := findClass_of_methodNamed Bd.named
  have hnm := (name_of_methodNamed Bd.named Bd.method).1
  have X0 : Stand p l e ({ frames := 0, cells := 0, slots := 0, locals := 0 } : Room) s m #[(.int x)] below meth c s₁ [] 0 0 := Stand.of_body Bd
  have e0 : s₁.heap = h0 := by rw [← hh, Bd.state]; rfl
  have N0 := Fr.nil n0
  have pre0 : ∀ t, Sg p e below (s₁.setTop (mkF m 0 #[sI x, sU] [])) t → Steps p.tables e below (s₁.setTop (entryFrame m #[(.int x)] 2)) t := fun t k => castTop (ef_ntzi m x) k
  have P0 : ∀ t, Sg p e below (s₁.setTop (mkF m 0 #[sI x, sU] [])) t → Sg p e below (s₁.setTop (mkF m 0 #[sI x, sU] [])) t := fun t k => k
  obtain ⟨B0, pre0, P0⟩ : ∃ B : State, (∀ t, Steps p.tables e below B t → Steps p.tables e below (s₁.setTop (entryFrame m #[(.int x)] 2)) t) ∧ Rg p e below (s₁.setTop (mkF m 0 #[sI x, sU] [])) B := ⟨_, pre0, P0⟩
  have P1059 : Rg p e below (s₁.setTop (mkF m 9 #[.val (.int ((x ^^^ (-1 : Int32)) &&& (x - (1 : Int32)))), sU] [(.int ((x ^^^ (-1 : Int32)) &&& (x - (1 : Int32))))])) B0 := fun t k => P0 t (by
    refine XS.iloadN X0.here hx rfl (hb hby dj33_48_0) rfl ?_
    refine XS.iconst X0.here hx rfl (hb hby dj33_48_1) ?_
    refine XS.ixor X0.here hx rfl (hb hby dj33_48_2) rfl ?_
    refine XS.iloadN X0.here hx rfl (hb hby dj33_48_3) rfl ?_
    refine XS.iconst X0.here hx rfl (hb hby dj33_48_4) ?_
    refine XS.isub X0.here hx rfl (hb hby dj33_48_5) rfl ?_
    refine XS.iand X0.here hx rfl (hb hby dj33_48_6) rfl ?_
    refine XS.istoreN X0.here hx rfl (hb hby dj33_48_7) rfl (l' := #[.val (.int ((x ^^^ (-1 : Int32)) &&& (x - (1 : Int32)))), sU]) rfl ?_
    refine XS.iloadN X0.here hx rfl (hb hby dj33_48_8) rfl ?_
    show Sg p e below (s₁.setTop (mkF m 9 #[.val (.int ((x ^^^ (-1 : Int32)) &&& (x - (1 : Int32)))), sU] [(.int ((x ^^^ (-1 : Int32)) &&& (x - (1 : Int32))))])) _
    exact k)
  by_cases q1060 : (0 : Int32) < ((x ^^^ (-1 : Int32)) &&& (x - (1 : Int32)))
  · skip
    have P1061 : Rg p e below (s₁.setTop (mkF m 23 #[.val (.int ((x ^^^ (-1 : Int32)) &&& (x - (1 : Int32)))), sI 1] [(.int (65536 : Int32)), (.int ((x ^^^ (-1 : Int32)) &&& (x - (1 : Int32))))])) B0 := fun t k => P1059 t (by
      refine XS.ifYes X0.here hx rfl (pc0 := 9) (pc' := 17) rfl (hb hby dj33_48_9) rfl ((if0 _ _).trans (tlt (show (0 : Int32) < ((x ^^^ (-1 : Int32)) &&& (x - (1 : Int32))) from q1060)).2.2.1) (by decide) (by decide) ?_
      refine XS.iconst X0.here hx rfl (hb hby dj33_48_17) ?_
      refine XS.istoreN X0.here hx rfl (hb hby dj33_48_18) rfl (l' := #[.val (.int ((x ^^^ (-1 : Int32)) &&& (x - (1 : Int32)))), sI 1]) rfl ?_
      refine XS.iloadN X0.here hx rfl (hb hby dj33_48_19) rfl ?_
      show Sg p e below (s₁.setTop (mkF m 20 #[.val (.int ((x ^^^ (-1 : Int32)) &&& (x - (1 : Int32)))), sI 1] [(.int ((x ^^^ (-1 : Int32)) &&& (x - (1 : Int32))))])) _
      refine X0.ldcwInt hx hown (mvT hZ (own_hw hw 89 rfl)) (g := (mkF m 20 #[.val (.int ((x ^^^ (-1 : Int32)) &&& (x - (1 : Int32)))), sI 1] [(.int ((x ^^^ (-1 : Int32)) &&& (x - (1 : Int32))))])) rfl (hb hby dj33_48_20) _ ?_
      show Sg p e below (s₁.setTop (mkF m 23 #[.val (.int ((x ^^^ (-1 : Int32)) &&& (x - (1 : Int32)))), sI 1] [(.int (65536 : Int32)), (.int ((x ^^^ (-1 : Int32)) &&& (x - (1 : Int32))))])) _
      exact k)
    by_cases q1062 : (65536 : Int32) < ((x ^^^ (-1 : Int32)) &&& (x - (1 : Int32)))
    · skip
      have P1063 : Rg p e below (s₁.setTop (mkF m 38 #[.val (.int ((((x ^^^ (-1 : Int32)) &&& (x - (1 : Int32))).toUInt32 >>> ((16 : Int32) &&& 31).toUInt32).toInt32)), sI 17] [(.int (256 : Int32)), (.int ((((x ^^^ (-1 : Int32)) &&& (x - (1 : Int32))).toUInt32 >>> ((16 : Int32) &&& 31).toUInt32).toInt32))])) B0 := fun t k => P1061 t (by
        refine XS.icmpNo X0.here hx rfl (hb hby dj33_48_23) rfl (tlt (show (65536 : Int32) < ((x ^^^ (-1 : Int32)) &&& (x - (1 : Int32))) from q1062)).2.2.2 ?_
        refine XS.iinc X0.here hx rfl (hb hby dj33_48_26) rfl (l' := #[.val (.int ((x ^^^ (-1 : Int32)) &&& (x - (1 : Int32)))), sI 17]) rfl ?_
        refine XS.iloadN X0.here hx rfl (hb hby dj33_48_29) rfl ?_
        refine XS.bipush X0.here hx rfl (hb hby dj33_48_30) ?_
        refine XS.iushr X0.here hx rfl (hb hby dj33_48_32) rfl ?_
        refine XS.istoreN X0.here hx rfl (hb hby dj33_48_33) rfl (l' := #[.val (.int ((((x ^^^ (-1 : Int32)) &&& (x - (1 : Int32))).toUInt32 >>> ((16 : Int32) &&& 31).toUInt32).toInt32)), sI 17]) rfl ?_
        refine XS.iloadN X0.here hx rfl (hb hby dj33_48_34) rfl ?_
        refine XS.sipush X0.here hx rfl (hb hby dj33_48_35) ?_
        show Sg p e below (s₁.setTop (mkF m 38 #[.val (.int ((((x ^^^ (-1 : Int32)) &&& (x - (1 : Int32))).toUInt32 >>> ((16 : Int32) &&& 31).toUInt32).toInt32)), sI 17] [(.int (256 : Int32)), (.int ((((x ^^^ (-1 : Int32)) &&& (x - (1 : Int32))).toUInt32 >>> ((16 : Int32) &&& 31).toUInt32).toInt32))])) _
        exact k)
      by_cases q1064 : (256 : Int32) < ((((x ^^^ (-1 : Int32)) &&& (x - (1 : Int32))).toUInt32 >>> ((16 : Int32) &&& 31).toUInt32).toInt32)
      · skip
        have P1065 : Rg p e below (s₁.setTop (mkF m 52 #[.val (.int ((((((x ^^^ (-1 : Int32)) &&& (x - (1 : Int32))).toUInt32 >>> ((16 : Int32) &&& 31).toUInt32).toInt32).toUInt32 >>> ((8 : Int32) &&& 31).toUInt32).toInt32)), sI 25] [(.int (16 : Int32)), (.int ((((((x ^^^ (-1 : Int32)) &&& (x - (1 : Int32))).toUInt32 >>> ((16 : Int32) &&& 31).toUInt32).toInt32).toUInt32 >>> ((8 : Int32) &&& 31).toUInt32).toInt32))])) B0 := fun t k => P1063 t (by
          refine XS.icmpNo X0.here hx rfl (hb hby dj33_48_38) rfl (tlt (show (256 : Int32) < ((((x ^^^ (-1 : Int32)) &&& (x - (1 : Int32))).toUInt32 >>> ((16 : Int32) &&& 31).toUInt32).toInt32) from q1064)).2.2.2 ?_
          refine XS.iinc X0.here hx rfl (hb hby dj33_48_41) rfl (l' := #[.val (.int ((((x ^^^ (-1 : Int32)) &&& (x - (1 : Int32))).toUInt32 >>> ((16 : Int32) &&& 31).toUInt32).toInt32)), sI 25]) rfl ?_
          refine XS.iloadN X0.here hx rfl (hb hby dj33_48_44) rfl ?_
          refine XS.bipush X0.here hx rfl (hb hby dj33_48_45) ?_
          refine XS.iushr X0.here hx rfl (hb hby dj33_48_47) rfl ?_
          refine XS.istoreN X0.here hx rfl (hb hby dj33_48_48) rfl (l' := #[.val (.int ((((((x ^^^ (-1 : Int32)) &&& (x - (1 : Int32))).toUInt32 >>> ((16 : Int32) &&& 31).toUInt32).toInt32).toUInt32 >>> ((8 : Int32) &&& 31).toUInt32).toInt32)), sI 25]) rfl ?_
          refine XS.iloadN X0.here hx rfl (hb hby dj33_48_49) rfl ?_
          refine XS.bipush X0.here hx rfl (hb hby dj33_48_50) ?_
          show Sg p e below (s₁.setTop (mkF m 52 #[.val (.int ((((((x ^^^ (-1 : Int32)) &&& (x - (1 : Int32))).toUInt32 >>> ((16 : Int32) &&& 31).toUInt32).toInt32).toUInt32 >>> ((8 : Int32) &&& 31).toUInt32).toInt32)), sI 25] [(.int (16 : Int32)), (.int ((((((x ^^^ (-1 : Int32)) &&& (x - (1 : Int32))).toUInt32 >>> ((16 : Int32) &&& 31).toUInt32).toInt32).toUInt32 >>> ((8 : Int32) &&& 31).toUInt32).toInt32))])) _
          exact k)
        by_cases q1066 : (16 : Int32) < ((((((x ^^^ (-1 : Int32)) &&& (x - (1 : Int32))).toUInt32 >>> ((16 : Int32) &&& 31).toUInt32).toInt32).toUInt32 >>> ((8 : Int32) &&& 31).toUInt32).toInt32)
        · skip
          have P1067 : Rg p e below (s₁.setTop (mkF m 64 #[.val (.int ((((((((x ^^^ (-1 : Int32)) &&& (x - (1 : Int32))).toUInt32 >>> ((16 : Int32) &&& 31).toUInt32).toInt32).toUInt32 >>> ((8 : Int32) &&& 31).toUInt32).toInt32).toUInt32 >>> ((4 : Int32) &&& 31).toUInt32).toInt32)), sI 29] [(.int (4 : Int32)), (.int ((((((((x ^^^ (-1 : Int32)) &&& (x - (1 : Int32))).toUInt32 >>> ((16 : Int32) &&& 31).toUInt32).toInt32).toUInt32 >>> ((8 : Int32) &&& 31).toUInt32).toInt32).toUInt32 >>> ((4 : Int32) &&& 31).toUInt32).toInt32))])) B0 := fun t k => P1065 t (by
            refine XS.icmpNo X0.here hx rfl (hb hby dj33_48_52) rfl (tlt (show (16 : Int32) < ((((((x ^^^ (-1 : Int32)) &&& (x - (1 : Int32))).toUInt32 >>> ((16 : Int32) &&& 31).toUInt32).toInt32).toUInt32 >>> ((8 : Int32) &&& 31).toUInt32).toInt32) from q1066)).2.2.2 ?_
            refine XS.iinc X0.here hx rfl (hb hby dj33_48_55) rfl (l' := #[.val (.int ((((((x ^^^ (-1 : Int32)) &&& (x - (1 : Int32))).toUInt32 >>> ((16 : Int32) &&& 31).toUInt32).toInt32).toUInt32 >>> ((8 : Int32) &&& 31).toUInt32).toInt32)), sI 29]) rfl ?_
            refine XS.iloadN X0.here hx rfl (hb hby dj33_48_58) rfl ?_
            refine XS.iconst X0.here hx rfl (hb hby dj33_48_59) ?_
            refine XS.iushr X0.here hx rfl (hb hby dj33_48_60) rfl ?_
            refine XS.istoreN X0.here hx rfl (hb hby dj33_48_61) rfl (l' := #[.val (.int ((((((((x ^^^ (-1 : Int32)) &&& (x - (1 : Int32))).toUInt32 >>> ((16 : Int32) &&& 31).toUInt32).toInt32).toUInt32 >>> ((8 : Int32) &&& 31).toUInt32).toInt32).toUInt32 >>> ((4 : Int32) &&& 31).toUInt32).toInt32)), sI 29]) rfl ?_
            refine XS.iloadN X0.here hx rfl (hb hby dj33_48_62) rfl ?_
            refine XS.iconst X0.here hx rfl (hb hby dj33_48_63) ?_
            show Sg p e below (s₁.setTop (mkF m 64 #[.val (.int ((((((((x ^^^ (-1 : Int32)) &&& (x - (1 : Int32))).toUInt32 >>> ((16 : Int32) &&& 31).toUInt32).toInt32).toUInt32 >>> ((8 : Int32) &&& 31).toUInt32).toInt32).toUInt32 >>> ((4 : Int32) &&& 31).toUInt32).toInt32)), sI 29] [(.int (4 : Int32)), (.int ((((((((x ^^^ (-1 : Int32)) &&& (x - (1 : Int32))).toUInt32 >>> ((16 : Int32) &&& 31).toUInt32).toInt32).toUInt32 >>> ((8 : Int32) &&& 31).toUInt32).toInt32).toUInt32 >>> ((4 : Int32) &&& 31).toUInt32).toInt32))])) _
            exact k)
          by_cases q1068 : (4 : Int32) < ((((((((x ^^^ (-1 : Int32)) &&& (x - (1 : Int32))).toUInt32 >>> ((16 : Int32) &&& 31).toUInt32).toInt32).toUInt32 >>> ((8 : Int32) &&& 31).toUInt32).toInt32).toUInt32 >>> ((4 : Int32) &&& 31).toUInt32).toInt32)
          · skip
            obtain ⟨fs1069, hr1069, hrun1069, hended1069, hW1069, hsame1069⟩ := X0.leave (v := some (.int ((31 : Int32) + ((((((((((((x ^^^ (-1 : Int32)) &&& (x - (1 : Int32))).toUInt32 >>> ((16 : Int32) &&& 31).toUInt32).toInt32).toUInt32 >>> ((8 : Int32) &&& 31).toUInt32).toInt32).toUInt32 >>> ((4 : Int32) &&& 31).toUInt32).toInt32).toUInt32 >>> ((2 : Int32) &&& 31).toUInt32).toInt32).toUInt32 >>> ((1 : Int32) &&& 31).toUInt32).toInt32)))) (fun h => by rw [Bd.returns] at h; cases h)
            refine ⟨_, _, pre0 _ (P1067 _ ?_), hrun1069, hended1069, _, _, rfl, ?_, ⟨⟨_, rfl⟩, hW1069, hsame1069.mono (Nat.le_of_ble_eq_true rfl) (Nat.le_of_ble_eq_true rfl)⟩⟩
            · show Sg p e below (s₁.setTop (mkF m 64 #[.val (.int ((((((((x ^^^ (-1 : Int32)) &&& (x - (1 : Int32))).toUInt32 >>> ((16 : Int32) &&& 31).toUInt32).toInt32).toUInt32 >>> ((8 : Int32) &&& 31).toUInt32).toInt32).toUInt32 >>> ((4 : Int32) &&& 31).toUInt32).toInt32)), sI 29] [(.int (4 : Int32)), (.int ((((((((x ^^^ (-1 : Int32)) &&& (x - (1 : Int32))).toUInt32 >>> ((16 : Int32) &&& 31).toUInt32).toInt32).toUInt32 >>> ((8 : Int32) &&& 31).toUInt32).toInt32).toUInt32 >>> ((4 : Int32) &&& 31).toUInt32).toInt32))])) _
              refine XS.icmpNo X0.here hx rfl (hb hby dj33_48_64) rfl (tlt (show (4 : Int32) < ((((((((x ^^^ (-1 : Int32)) &&& (x - (1 : Int32))).toUInt32 >>> ((16 : Int32) &&& 31).toUInt32).toInt32).toUInt32 >>> ((8 : Int32) &&& 31).toUInt32).toInt32).toUInt32 >>> ((4 : Int32) &&& 31).toUInt32).toInt32) from q1068)).2.2.2 ?_
              refine XS.iinc X0.here hx rfl (hb hby dj33_48_67) rfl (l' := #[.val (.int ((((((((x ^^^ (-1 : Int32)) &&& (x - (1 : Int32))).toUInt32 >>> ((16 : Int32) &&& 31).toUInt32).toInt32).toUInt32 >>> ((8 : Int32) &&& 31).toUInt32).toInt32).toUInt32 >>> ((4 : Int32) &&& 31).toUInt32).toInt32)), sI 31]) rfl ?_
              refine XS.iloadN X0.here hx rfl (hb hby dj33_48_70) rfl ?_
              refine XS.iconst X0.here hx rfl (hb hby dj33_48_71) ?_
              refine XS.iushr X0.here hx rfl (hb hby dj33_48_72) rfl ?_
              refine XS.istoreN X0.here hx rfl (hb hby dj33_48_73) rfl (l' := #[.val (.int ((((((((((x ^^^ (-1 : Int32)) &&& (x - (1 : Int32))).toUInt32 >>> ((16 : Int32) &&& 31).toUInt32).toInt32).toUInt32 >>> ((8 : Int32) &&& 31).toUInt32).toInt32).toUInt32 >>> ((4 : Int32) &&& 31).toUInt32).toInt32).toUInt32 >>> ((2 : Int32) &&& 31).toUInt32).toInt32)), sI 31]) rfl ?_
              refine XS.iloadN X0.here hx rfl (hb hby dj33_48_74) rfl ?_
              refine XS.iloadN X0.here hx rfl (hb hby dj33_48_75) rfl ?_
              refine XS.iconst X0.here hx rfl (hb hby dj33_48_76) ?_
              refine XS.iushr X0.here hx rfl (hb hby dj33_48_77) rfl ?_
              refine XS.iadd X0.here hx rfl (hb hby dj33_48_78) rfl ?_
              show Sg p e below (s₁.setTop (mkF m 79 #[.val (.int ((((((((((x ^^^ (-1 : Int32)) &&& (x - (1 : Int32))).toUInt32 >>> ((16 : Int32) &&& 31).toUInt32).toInt32).toUInt32 >>> ((8 : Int32) &&& 31).toUInt32).toInt32).toUInt32 >>> ((4 : Int32) &&& 31).toUInt32).toInt32).toUInt32 >>> ((2 : Int32) &&& 31).toUInt32).toInt32)), sI 31] [(.int ((31 : Int32) + ((((((((((((x ^^^ (-1 : Int32)) &&& (x - (1 : Int32))).toUInt32 >>> ((16 : Int32) &&& 31).toUInt32).toInt32).toUInt32 >>> ((8 : Int32) &&& 31).toUInt32).toInt32).toUInt32 >>> ((4 : Int32) &&& 31).toUInt32).toInt32).toUInt32 >>> ((2 : Int32) &&& 31).toUInt32).toInt32).toUInt32 >>> ((1 : Int32) &&& 31).toUInt32).toInt32)))])) _
              exact retI X0 hx Bd.returns (hb hby dj33_48_79) hr1069
            · show Q_ntzi x h0 n0 _ s₁.heap _
              rw [e0]
              exact ⟨_, rfl, N0, rfl, ((if_pos q1060).trans ((if_pos q1062).trans ((if_pos q1064).trans ((if_pos q1066).trans ((if_pos q1068).trans (rfl)))))).symm⟩
          · skip
            obtain ⟨fs1070, hr1070, hrun1070, hended1070, hW1070, hsame1070⟩ := X0.leave (v := some (.int ((29 : Int32) + ((((((((((x ^^^ (-1 : Int32)) &&& (x - (1 : Int32))).toUInt32 >>> ((16 : Int32) &&& 31).toUInt32).toInt32).toUInt32 >>> ((8 : Int32) &&& 31).toUInt32).toInt32).toUInt32 >>> ((4 : Int32) &&& 31).toUInt32).toInt32).toUInt32 >>> ((1 : Int32) &&& 31).toUInt32).toInt32)))) (fun h => by rw [Bd.returns] at h; cases h)
            refine ⟨_, _, pre0 _ (P1067 _ ?_), hrun1070, hended1070, _, _, rfl, ?_, ⟨⟨_, rfl⟩, hW1070, hsame1070.mono (Nat.le_of_ble_eq_true rfl) (Nat.le_of_ble_eq_true rfl)⟩⟩
            · show Sg p e below (s₁.setTop (mkF m 64 #[.val (.int ((((((((x ^^^ (-1 : Int32)) &&& (x - (1 : Int32))).toUInt32 >>> ((16 : Int32) &&& 31).toUInt32).toInt32).toUInt32 >>> ((8 : Int32) &&& 31).toUInt32).toInt32).toUInt32 >>> ((4 : Int32) &&& 31).toUInt32).toInt32)), sI 29] [(.int (4 : Int32)), (.int ((((((((x ^^^ (-1 : Int32)) &&& (x - (1 : Int32))).toUInt32 >>> ((16 : Int32) &&& 31).toUInt32).toInt32).toUInt32 >>> ((8 : Int32) &&& 31).toUInt32).toInt32).toUInt32 >>> ((4 : Int32) &&& 31).toUInt32).toInt32))])) _
              refine XS.icmpYes X0.here hx rfl (pc0 := 64) (pc' := 74) rfl (hb hby dj33_48_64) rfl (flt (show ¬ ((4 : Int32) < ((((((((x ^^^ (-1 : Int32)) &&& (x - (1 : Int32))).toUInt32 >>> ((16 : Int32) &&& 31).toUInt32).toInt32).toUInt32 >>> ((8 : Int32) &&& 31).toUInt32).toInt32).toUInt32 >>> ((4 : Int32) &&& 31).toUInt32).toInt32)) from q1068)).2.2.2 (by decide) (by decide) ?_
              refine XS.iloadN X0.here hx rfl (hb hby dj33_48_74) rfl ?_
              refine XS.iloadN X0.here hx rfl (hb hby dj33_48_75) rfl ?_
              refine XS.iconst X0.here hx rfl (hb hby dj33_48_76) ?_
              refine XS.iushr X0.here hx rfl (hb hby dj33_48_77) rfl ?_
              refine XS.iadd X0.here hx rfl (hb hby dj33_48_78) rfl ?_
              show Sg p e below (s₁.setTop (mkF m 79 #[.val (.int ((((((((x ^^^ (-1 : Int32)) &&& (x - (1 : Int32))).toUInt32 >>> ((16 : Int32) &&& 31).toUInt32).toInt32).toUInt32 >>> ((8 : Int32) &&& 31).toUInt32).toInt32).toUInt32 >>> ((4 : Int32) &&& 31).toUInt32).toInt32)), sI 29] [(.int ((29 : Int32) + ((((((((((x ^^^ (-1 : Int32)) &&& (x - (1 : Int32))).toUInt32 >>> ((16 : Int32) &&& 31).toUInt32).toInt32).toUInt32 >>> ((8 : Int32) &&& 31).toUInt32).toInt32).toUInt32 >>> ((4 : Int32) &&& 31).toUInt32).toInt32).toUInt32 >>> ((1 : Int32) &&& 31).toUInt32).toInt32)))])) _
              exact retI X0 hx Bd.returns (hb hby dj33_48_79) hr1070
            · show Q_ntzi x h0 n0 _ s₁.heap _
              rw [e0]
              exact ⟨_, rfl, N0, rfl, ((if_pos q1060).trans ((if_pos q1062).trans ((if_pos q1064).trans ((if_pos q1066).trans ((if_neg q1068).trans (rfl)))))).symm⟩
        · skip
          have P1071 : Rg p e below (s₁.setTop (mkF m 64 #[.val (.int ((((((x ^^^ (-1 : Int32)) &&& (x - (1 : Int32))).toUInt32 >>> ((16 : Int32) &&& 31).toUInt32).toInt32).toUInt32 >>> ((8 : Int32) &&& 31).toUInt32).toInt32)), sI 25] [(.int (4 : Int32)), (.int ((((((x ^^^ (-1 : Int32)) &&& (x - (1 : Int32))).toUInt32 >>> ((16 : Int32) &&& 31).toUInt32).toInt32).toUInt32 >>> ((8 : Int32) &&& 31).toUInt32).toInt32))])) B0 := fun t k => P1065 t (by
            refine XS.icmpYes X0.here hx rfl (pc0 := 52) (pc' := 62) rfl (hb hby dj33_48_52) rfl (flt (show ¬ ((16 : Int32) < ((((((x ^^^ (-1 : Int32)) &&& (x - (1 : Int32))).toUInt32 >>> ((16 : Int32) &&& 31).toUInt32).toInt32).toUInt32 >>> ((8 : Int32) &&& 31).toUInt32).toInt32)) from q1066)).2.2.2 (by decide) (by decide) ?_
            refine XS.iloadN X0.here hx rfl (hb hby dj33_48_62) rfl ?_
            refine XS.iconst X0.here hx rfl (hb hby dj33_48_63) ?_
            show Sg p e below (s₁.setTop (mkF m 64 #[.val (.int ((((((x ^^^ (-1 : Int32)) &&& (x - (1 : Int32))).toUInt32 >>> ((16 : Int32) &&& 31).toUInt32).toInt32).toUInt32 >>> ((8 : Int32) &&& 31).toUInt32).toInt32)), sI 25] [(.int (4 : Int32)), (.int ((((((x ^^^ (-1 : Int32)) &&& (x - (1 : Int32))).toUInt32 >>> ((16 : Int32) &&& 31).toUInt32).toInt32).toUInt32 >>> ((8 : Int32) &&& 31).toUInt32).toInt32))])) _
            exact k)
          by_cases q1072 : (4 : Int32) < ((((((x ^^^ (-1 : Int32)) &&& (x - (1 : Int32))).toUInt32 >>> ((16 : Int32) &&& 31).toUInt32).toInt32).toUInt32 >>> ((8 : Int32) &&& 31).toUInt32).toInt32)
          · skip
            obtain ⟨fs1073, hr1073, hrun1073, hended1073, hW1073, hsame1073⟩ := X0.leave (v := some (.int ((27 : Int32) + ((((((((((x ^^^ (-1 : Int32)) &&& (x - (1 : Int32))).toUInt32 >>> ((16 : Int32) &&& 31).toUInt32).toInt32).toUInt32 >>> ((8 : Int32) &&& 31).toUInt32).toInt32).toUInt32 >>> ((2 : Int32) &&& 31).toUInt32).toInt32).toUInt32 >>> ((1 : Int32) &&& 31).toUInt32).toInt32)))) (fun h => by rw [Bd.returns] at h; cases h)
            refine ⟨_, _, pre0 _ (P1071 _ ?_), hrun1073, hended1073, _, _, rfl, ?_, ⟨⟨_, rfl⟩, hW1073, hsame1073.mono (Nat.le_of_ble_eq_true rfl) (Nat.le_of_ble_eq_true rfl)⟩⟩
            · show Sg p e below (s₁.setTop (mkF m 64 #[.val (.int ((((((x ^^^ (-1 : Int32)) &&& (x - (1 : Int32))).toUInt32 >>> ((16 : Int32) &&& 31).toUInt32).toInt32).toUInt32 >>> ((8 : Int32) &&& 31).toUInt32).toInt32)), sI 25] [(.int (4 : Int32)), (.int ((((((x ^^^ (-1 : Int32)) &&& (x - (1 : Int32))).toUInt32 >>> ((16 : Int32) &&& 31).toUInt32).toInt32).toUInt32 >>> ((8 : Int32) &&& 31).toUInt32).toInt32))])) _
              refine XS.icmpNo X0.here hx rfl (hb hby dj33_48_64) rfl (tlt (show (4 : Int32) < ((((((x ^^^ (-1 : Int32)) &&& (x - (1 : Int32))).toUInt32 >>> ((16 : Int32) &&& 31).toUInt32).toInt32).toUInt32 >>> ((8 : Int32) &&& 31).toUInt32).toInt32) from q1072)).2.2.2 ?_
              refine XS.iinc X0.here hx rfl (hb hby dj33_48_67) rfl (l' := #[.val (.int ((((((x ^^^ (-1 : Int32)) &&& (x - (1 : Int32))).toUInt32 >>> ((16 : Int32) &&& 31).toUInt32).toInt32).toUInt32 >>> ((8 : Int32) &&& 31).toUInt32).toInt32)), sI 27]) rfl ?_
              refine XS.iloadN X0.here hx rfl (hb hby dj33_48_70) rfl ?_
              refine XS.iconst X0.here hx rfl (hb hby dj33_48_71) ?_
              refine XS.iushr X0.here hx rfl (hb hby dj33_48_72) rfl ?_
              refine XS.istoreN X0.here hx rfl (hb hby dj33_48_73) rfl (l' := #[.val (.int ((((((((x ^^^ (-1 : Int32)) &&& (x - (1 : Int32))).toUInt32 >>> ((16 : Int32) &&& 31).toUInt32).toInt32).toUInt32 >>> ((8 : Int32) &&& 31).toUInt32).toInt32).toUInt32 >>> ((2 : Int32) &&& 31).toUInt32).toInt32)), sI 27]) rfl ?_
              refine XS.iloadN X0.here hx rfl (hb hby dj33_48_74) rfl ?_
              refine XS.iloadN X0.here hx rfl (hb hby dj33_48_75) rfl ?_
              refine XS.iconst X0.here hx rfl (hb hby dj33_48_76) ?_
              refine XS.iushr X0.here hx rfl (hb hby dj33_48_77) rfl ?_
              refine XS.iadd X0.here hx rfl (hb hby dj33_48_78) rfl ?_
              show Sg p e below (s₁.setTop (mkF m 79 #[.val (.int ((((((((x ^^^ (-1 : Int32)) &&& (x - (1 : Int32))).toUInt32 >>> ((16 : Int32) &&& 31).toUInt32).toInt32).toUInt32 >>> ((8 : Int32) &&& 31).toUInt32).toInt32).toUInt32 >>> ((2 : Int32) &&& 31).toUInt32).toInt32)), sI 27] [(.int ((27 : Int32) + ((((((((((x ^^^ (-1 : Int32)) &&& (x - (1 : Int32))).toUInt32 >>> ((16 : Int32) &&& 31).toUInt32).toInt32).toUInt32 >>> ((8 : Int32) &&& 31).toUInt32).toInt32).toUInt32 >>> ((2 : Int32) &&& 31).toUInt32).toInt32).toUInt32 >>> ((1 : Int32) &&& 31).toUInt32).toInt32)))])) _
              exact retI X0 hx Bd.returns (hb hby dj33_48_79) hr1073
            · show Q_ntzi x h0 n0 _ s₁.heap _
              rw [e0]
              exact ⟨_, rfl, N0, rfl, ((if_pos q1060).trans ((if_pos q1062).trans ((if_pos q1064).trans ((if_neg q1066).trans ((if_pos q1072).trans (rfl)))))).symm⟩
          · skip
            obtain ⟨fs1074, hr1074, hrun1074, hended1074, hW1074, hsame1074⟩ := X0.leave (v := some (.int ((25 : Int32) + ((((((((x ^^^ (-1 : Int32)) &&& (x - (1 : Int32))).toUInt32 >>> ((16 : Int32) &&& 31).toUInt32).toInt32).toUInt32 >>> ((8 : Int32) &&& 31).toUInt32).toInt32).toUInt32 >>> ((1 : Int32) &&& 31).toUInt32).toInt32)))) (fun h => by rw [Bd.returns] at h; cases h)
            refine ⟨_, _, pre0 _ (P1071 _ ?_), hrun1074, hended1074, _, _, rfl, ?_, ⟨⟨_, rfl⟩, hW1074, hsame1074.mono (Nat.le_of_ble_eq_true rfl) (Nat.le_of_ble_eq_true rfl)⟩⟩
            · show Sg p e below (s₁.setTop (mkF m 64 #[.val (.int ((((((x ^^^ (-1 : Int32)) &&& (x - (1 : Int32))).toUInt32 >>> ((16 : Int32) &&& 31).toUInt32).toInt32).toUInt32 >>> ((8 : Int32) &&& 31).toUInt32).toInt32)), sI 25] [(.int (4 : Int32)), (.int ((((((x ^^^ (-1 : Int32)) &&& (x - (1 : Int32))).toUInt32 >>> ((16 : Int32) &&& 31).toUInt32).toInt32).toUInt32 >>> ((8 : Int32) &&& 31).toUInt32).toInt32))])) _
              refine XS.icmpYes X0.here hx rfl (pc0 := 64) (pc' := 74) rfl (hb hby dj33_48_64) rfl (flt (show ¬ ((4 : Int32) < ((((((x ^^^ (-1 : Int32)) &&& (x - (1 : Int32))).toUInt32 >>> ((16 : Int32) &&& 31).toUInt32).toInt32).toUInt32 >>> ((8 : Int32) &&& 31).toUInt32).toInt32)) from q1072)).2.2.2 (by decide) (by decide) ?_
              refine XS.iloadN X0.here hx rfl (hb hby dj33_48_74) rfl ?_
              refine XS.iloadN X0.here hx rfl (hb hby dj33_48_75) rfl ?_
              refine XS.iconst X0.here hx rfl (hb hby dj33_48_76) ?_
              refine XS.iushr X0.here hx rfl (hb hby dj33_48_77) rfl ?_
              refine XS.iadd X0.here hx rfl (hb hby dj33_48_78) rfl ?_
              show Sg p e below (s₁.setTop (mkF m 79 #[.val (.int ((((((x ^^^ (-1 : Int32)) &&& (x - (1 : Int32))).toUInt32 >>> ((16 : Int32) &&& 31).toUInt32).toInt32).toUInt32 >>> ((8 : Int32) &&& 31).toUInt32).toInt32)), sI 25] [(.int ((25 : Int32) + ((((((((x ^^^ (-1 : Int32)) &&& (x - (1 : Int32))).toUInt32 >>> ((16 : Int32) &&& 31).toUInt32).toInt32).toUInt32 >>> ((8 : Int32) &&& 31).toUInt32).toInt32).toUInt32 >>> ((1 : Int32) &&& 31).toUInt32).toInt32)))])) _
              exact retI X0 hx Bd.returns (hb hby dj33_48_79) hr1074
            · show Q_ntzi x h0 n0 _ s₁.heap _
              rw [e0]
              exact ⟨_, rfl, N0, rfl, ((if_pos q1060).trans ((if_pos q1062).trans ((if_pos q1064).trans ((if_neg q1066).trans ((if_neg q1072).trans (rfl)))))).symm⟩
      · skip
        have P1075 : Rg p e below (s₁.setTop (mkF m 52 #[.val (.int ((((x ^^^ (-1 : Int32)) &&& (x - (1 : Int32))).toUInt32 >>> ((16 : Int32) &&& 31).toUInt32).toInt32)), sI 17] [(.int (16 : Int32)), (.int ((((x ^^^ (-1 : Int32)) &&& (x - (1 : Int32))).toUInt32 >>> ((16 : Int32) &&& 31).toUInt32).toInt32))])) B0 := fun t k => P1063 t (by
          refine XS.icmpYes X0.here hx rfl (pc0 := 38) (pc' := 49) rfl (hb hby dj33_48_38) rfl (flt (show ¬ ((256 : Int32) < ((((x ^^^ (-1 : Int32)) &&& (x - (1 : Int32))).toUInt32 >>> ((16 : Int32) &&& 31).toUInt32).toInt32)) from q1064)).2.2.2 (by decide) (by decide) ?_
          refine XS.iloadN X0.here hx rfl (hb hby dj33_48_49) rfl ?_
          refine XS.bipush X0.here hx rfl (hb hby dj33_48_50) ?_
          show Sg p e below (s₁.setTop (mkF m 52 #[.val (.int ((((x ^^^ (-1 : Int32)) &&& (x - (1 : Int32))).toUInt32 >>> ((16 : Int32) &&& 31).toUInt32).toInt32)), sI 17] [(.int (16 : Int32)), (.int ((((x ^^^ (-1 : Int32)) &&& (x - (1 : Int32))).toUInt32 >>> ((16 : Int32) &&& 31).toUInt32).toInt32))])) _
          exact k)
        by_cases q1076 : (16 : Int32) < ((((x ^^^ (-1 : Int32)) &&& (x - (1 : Int32))).toUInt32 >>> ((16 : Int32) &&& 31).toUInt32).toInt32)
        · skip
          have P1077 : Rg p e below (s₁.setTop (mkF m 64 #[.val (.int ((((((x ^^^ (-1 : Int32)) &&& (x - (1 : Int32))).toUInt32 >>> ((16 : Int32) &&& 31).toUInt32).toInt32).toUInt32 >>> ((4 : Int32) &&& 31).toUInt32).toInt32)), sI 21] [(.int (4 : Int32)), (.int ((((((x ^^^ (-1 : Int32)) &&& (x - (1 : Int32))).toUInt32 >>> ((16 : Int32) &&& 31).toUInt32).toInt32).toUInt32 >>> ((4 : Int32) &&& 31).toUInt32).toInt32))])) B0 := fun t k => P1075 t (by
            refine XS.icmpNo X0.here hx rfl (hb hby dj33_48_52) rfl (tlt (show (16 : Int32) < ((((x ^^^ (-1 : Int32)) &&& (x - (1 : Int32))).toUInt32 >>> ((16 : Int32) &&& 31).toUInt32).toInt32) from q1076)).2.2.2 ?_
            refine XS.iinc X0.here hx rfl (hb hby dj33_48_55) rfl (l' := #[.val (.int ((((x ^^^ (-1 : Int32)) &&& (x - (1 : Int32))).toUInt32 >>> ((16 : Int32) &&& 31).toUInt32).toInt32)), sI 21]) rfl ?_
            refine XS.iloadN X0.here hx rfl (hb hby dj33_48_58) rfl ?_
            refine XS.iconst X0.here hx rfl (hb hby dj33_48_59) ?_
            refine XS.iushr X0.here hx rfl (hb hby dj33_48_60) rfl ?_
            refine XS.istoreN X0.here hx rfl (hb hby dj33_48_61) rfl (l' := #[.val (.int ((((((x ^^^ (-1 : Int32)) &&& (x - (1 : Int32))).toUInt32 >>> ((16 : Int32) &&& 31).toUInt32).toInt32).toUInt32 >>> ((4 : Int32) &&& 31).toUInt32).toInt32)), sI 21]) rfl ?_
            refine XS.iloadN X0.here hx rfl (hb hby dj33_48_62) rfl ?_
            refine XS.iconst X0.here hx rfl (hb hby dj33_48_63) ?_
            show Sg p e below (s₁.setTop (mkF m 64 #[.val (.int ((((((x ^^^ (-1 : Int32)) &&& (x - (1 : Int32))).toUInt32 >>> ((16 : Int32) &&& 31).toUInt32).toInt32).toUInt32 >>> ((4 : Int32) &&& 31).toUInt32).toInt32)), sI 21] [(.int (4 : Int32)), (.int ((((((x ^^^ (-1 : Int32)) &&& (x - (1 : Int32))).toUInt32 >>> ((16 : Int32) &&& 31).toUInt32).toInt32).toUInt32 >>> ((4 : Int32) &&& 31).toUInt32).toInt32))])) _
            exact k)
          by_cases q1078 : (4 : Int32) < ((((((x ^^^ (-1 : Int32)) &&& (x - (1 : Int32))).toUInt32 >>> ((16 : Int32) &&& 31).toUInt32).toInt32).toUInt32 >>> ((4 : Int32) &&& 31).toUInt32).toInt32)
          · skip
            obtain ⟨fs1079, hr1079, hrun1079, hended1079, hW1079, hsame1079⟩ := X0.leave (v := some (.int ((23 : Int32) + ((((((((((x ^^^ (-1 : Int32)) &&& (x - (1 : Int32))).toUInt32 >>> ((16 : Int32) &&& 31).toUInt32).toInt32).toUInt32 >>> ((4 : Int32) &&& 31).toUInt32).toInt32).toUInt32 >>> ((2 : Int32) &&& 31).toUInt32).toInt32).toUInt32 >>> ((1 : Int32) &&& 31).toUInt32).toInt32)))) (fun h => by rw [Bd.returns] at h; cases h)
            refine ⟨_, _, pre0 _ (P1077 _ ?_), hrun1079, hended1079, _, _, rfl, ?_, ⟨⟨_, rfl⟩, hW1079, hsame1079.mono (Nat.le_of_ble_eq_true rfl) (Nat.le_of_ble_eq_true rfl)⟩⟩
            · show Sg p e below (s₁.setTop (mkF m 64 #[.val (.int ((((((x ^^^ (-1 : Int32)) &&& (x - (1 : Int32))).toUInt32 >>> ((16 : Int32) &&& 31).toUInt32).toInt32).toUInt32 >>> ((4 : Int32) &&& 31).toUInt32).toInt32)), sI 21] [(.int (4 : Int32)), (.int ((((((x ^^^ (-1 : Int32)) &&& (x - (1 : Int32))).toUInt32 >>> ((16 : Int32) &&& 31).toUInt32).toInt32).toUInt32 >>> ((4 : Int32) &&& 31).toUInt32).toInt32))])) _
              refine XS.icmpNo X0.here hx rfl (hb hby dj33_48_64) rfl (tlt (show (4 : Int32) < ((((((x ^^^ (-1 : Int32)) &&& (x - (1 : Int32))).toUInt32 >>> ((16 : Int32) &&& 31).toUInt32).toInt32).toUInt32 >>> ((4 : Int32) &&& 31).toUInt32).toInt32) from q1078)).2.2.2 ?_
              refine XS.iinc X0.here hx rfl (hb hby dj33_48_67) rfl (l' := #[.val (.int ((((((x ^^^ (-1 : Int32)) &&& (x - (1 : Int32))).toUInt32 >>> ((16 : Int32) &&& 31).toUInt32).toInt32).toUInt32 >>> ((4 : Int32) &&& 31).toUInt32).toInt32)), sI 23]) rfl ?_
              refine XS.iloadN X0.here hx rfl (hb hby dj33_48_70) rfl ?_
              refine XS.iconst X0.here hx rfl (hb hby dj33_48_71) ?_
              refine XS.iushr X0.here hx rfl (hb hby dj33_48_72) rfl ?_
              refine XS.istoreN X0.here hx rfl (hb hby dj33_48_73) rfl (l' := #[.val (.int ((((((((x ^^^ (-1 : Int32)) &&& (x - (1 : Int32))).toUInt32 >>> ((16 : Int32) &&& 31).toUInt32).toInt32).toUInt32 >>> ((4 : Int32) &&& 31).toUInt32).toInt32).toUInt32 >>> ((2 : Int32) &&& 31).toUInt32).toInt32)), sI 23]) rfl ?_
              refine XS.iloadN X0.here hx rfl (hb hby dj33_48_74) rfl ?_
              refine XS.iloadN X0.here hx rfl (hb hby dj33_48_75) rfl ?_
              refine XS.iconst X0.here hx rfl (hb hby dj33_48_76) ?_
              refine XS.iushr X0.here hx rfl (hb hby dj33_48_77) rfl ?_
              refine XS.iadd X0.here hx rfl (hb hby dj33_48_78) rfl ?_
              show Sg p e below (s₁.setTop (mkF m 79 #[.val (.int ((((((((x ^^^ (-1 : Int32)) &&& (x - (1 : Int32))).toUInt32 >>> ((16 : Int32) &&& 31).toUInt32).toInt32).toUInt32 >>> ((4 : Int32) &&& 31).toUInt32).toInt32).toUInt32 >>> ((2 : Int32) &&& 31).toUInt32).toInt32)), sI 23] [(.int ((23 : Int32) + ((((((((((x ^^^ (-1 : Int32)) &&& (x - (1 : Int32))).toUInt32 >>> ((16 : Int32) &&& 31).toUInt32).toInt32).toUInt32 >>> ((4 : Int32) &&& 31).toUInt32).toInt32).toUInt32 >>> ((2 : Int32) &&& 31).toUInt32).toInt32).toUInt32 >>> ((1 : Int32) &&& 31).toUInt32).toInt32)))])) _
              exact retI X0 hx Bd.returns (hb hby dj33_48_79) hr1079
            · show Q_ntzi x h0 n0 _ s₁.heap _
              rw [e0]
              exact ⟨_, rfl, N0, rfl, ((if_pos q1060).trans ((if_pos q1062).trans ((if_neg q1064).trans ((if_pos q1076).trans ((if_pos q1078).trans (rfl)))))).symm⟩
          · skip
            obtain ⟨fs1080, hr1080, hrun1080, hended1080, hW1080, hsame1080⟩ := X0.leave (v := some (.int ((21 : Int32) + ((((((((x ^^^ (-1 : Int32)) &&& (x - (1 : Int32))).toUInt32 >>> ((16 : Int32) &&& 31).toUInt32).toInt32).toUInt32 >>> ((4 : Int32) &&& 31).toUInt32).toInt32).toUInt32 >>> ((1 : Int32) &&& 31).toUInt32).toInt32)))) (fun h => by rw [Bd.returns] at h; cases h)
            refine ⟨_, _, pre0 _ (P1077 _ ?_), hrun1080, hended1080, _, _, rfl, ?_, ⟨⟨_, rfl⟩, hW1080, hsame1080.mono (Nat.le_of_ble_eq_true rfl) (Nat.le_of_ble_eq_true rfl)⟩⟩
            · show Sg p e below (s₁.setTop (mkF m 64 #[.val (.int ((((((x ^^^ (-1 : Int32)) &&& (x - (1 : Int32))).toUInt32 >>> ((16 : Int32) &&& 31).toUInt32).toInt32).toUInt32 >>> ((4 : Int32) &&& 31).toUInt32).toInt32)), sI 21] [(.int (4 : Int32)), (.int ((((((x ^^^ (-1 : Int32)) &&& (x - (1 : Int32))).toUInt32 >>> ((16 : Int32) &&& 31).toUInt32).toInt32).toUInt32 >>> ((4 : Int32) &&& 31).toUInt32).toInt32))])) _
              refine XS.icmpYes X0.here hx rfl (pc0 := 64) (pc' := 74) rfl (hb hby dj33_48_64) rfl (flt (show ¬ ((4 : Int32) < ((((((x ^^^ (-1 : Int32)) &&& (x - (1 : Int32))).toUInt32 >>> ((16 : Int32) &&& 31).toUInt32).toInt32).toUInt32 >>> ((4 : Int32) &&& 31).toUInt32).toInt32)) from q1078)).2.2.2 (by decide) (by decide) ?_
              refine XS.iloadN X0.here hx rfl (hb hby dj33_48_74) rfl ?_
              refine XS.iloadN X0.here hx rfl (hb hby dj33_48_75) rfl ?_
              refine XS.iconst X0.here hx rfl (hb hby dj33_48_76) ?_
              refine XS.iushr X0.here hx rfl (hb hby dj33_48_77) rfl ?_
              refine XS.iadd X0.here hx rfl (hb hby dj33_48_78) rfl ?_
              show Sg p e below (s₁.setTop (mkF m 79 #[.val (.int ((((((x ^^^ (-1 : Int32)) &&& (x - (1 : Int32))).toUInt32 >>> ((16 : Int32) &&& 31).toUInt32).toInt32).toUInt32 >>> ((4 : Int32) &&& 31).toUInt32).toInt32)), sI 21] [(.int ((21 : Int32) + ((((((((x ^^^ (-1 : Int32)) &&& (x - (1 : Int32))).toUInt32 >>> ((16 : Int32) &&& 31).toUInt32).toInt32).toUInt32 >>> ((4 : Int32) &&& 31).toUInt32).toInt32).toUInt32 >>> ((1 : Int32) &&& 31).toUInt32).toInt32)))])) _
              exact retI X0 hx Bd.returns (hb hby dj33_48_79) hr1080
            · show Q_ntzi x h0 n0 _ s₁.heap _
              rw [e0]
              exact ⟨_, rfl, N0, rfl, ((if_pos q1060).trans ((if_pos q1062).trans ((if_neg q1064).trans ((if_pos q1076).trans ((if_neg q1078).trans (rfl)))))).symm⟩
        · skip
          have P1081 : Rg p e below (s₁.setTop (mkF m 64 #[.val (.int ((((x ^^^ (-1 : Int32)) &&& (x - (1 : Int32))).toUInt32 >>> ((16 : Int32) &&& 31).toUInt32).toInt32)), sI 17] [(.int (4 : Int32)), (.int ((((x ^^^ (-1 : Int32)) &&& (x - (1 : Int32))).toUInt32 >>> ((16 : Int32) &&& 31).toUInt32).toInt32))])) B0 := fun t k => P1075 t (by
            refine XS.icmpYes X0.here hx rfl (pc0 := 52) (pc' := 62) rfl (hb hby dj33_48_52) rfl (flt (show ¬ ((16 : Int32) < ((((x ^^^ (-1 : Int32)) &&& (x - (1 : Int32))).toUInt32 >>> ((16 : Int32) &&& 31).toUInt32).toInt32)) from q1076)).2.2.2 (by decide) (by decide) ?_
            refine XS.iloadN X0.here hx rfl (hb hby dj33_48_62) rfl ?_
            refine XS.iconst X0.here hx rfl (hb hby dj33_48_63) ?_
            show Sg p e below (s₁.setTop (mkF m 64 #[.val (.int ((((x ^^^ (-1 : Int32)) &&& (x - (1 : Int32))).toUInt32 >>> ((16 : Int32) &&& 31).toUInt32).toInt32)), sI 17] [(.int (4 : Int32)), (.int ((((x ^^^ (-1 : Int32)) &&& (x - (1 : Int32))).toUInt32 >>> ((16 : Int32) &&& 31).toUInt32).toInt32))])) _
            exact k)
          by_cases q1082 : (4 : Int32) < ((((x ^^^ (-1 : Int32)) &&& (x - (1 : Int32))).toUInt32 >>> ((16 : Int32) &&& 31).toUInt32).toInt32)
          · skip
            obtain ⟨fs1083, hr1083, hrun1083, hended1083, hW1083, hsame1083⟩ := X0.leave (v := some (.int ((19 : Int32) + ((((((((x ^^^ (-1 : Int32)) &&& (x - (1 : Int32))).toUInt32 >>> ((16 : Int32) &&& 31).toUInt32).toInt32).toUInt32 >>> ((2 : Int32) &&& 31).toUInt32).toInt32).toUInt32 >>> ((1 : Int32) &&& 31).toUInt32).toInt32)))) (fun h => by rw [Bd.returns] at h; cases h)
            refine ⟨_, _, pre0 _ (P1081 _ ?_), hrun1083, hended1083, _, _, rfl, ?_, ⟨⟨_, rfl⟩, hW1083, hsame1083.mono (Nat.le_of_ble_eq_true rfl) (Nat.le_of_ble_eq_true rfl)⟩⟩
            · show Sg p e below (s₁.setTop (mkF m 64 #[.val (.int ((((x ^^^ (-1 : Int32)) &&& (x - (1 : Int32))).toUInt32 >>> ((16 : Int32) &&& 31).toUInt32).toInt32)), sI 17] [(.int (4 : Int32)), (.int ((((x ^^^ (-1 : Int32)) &&& (x - (1 : Int32))).toUInt32 >>> ((16 : Int32) &&& 31).toUInt32).toInt32))])) _
              refine XS.icmpNo X0.here hx rfl (hb hby dj33_48_64) rfl (tlt (show (4 : Int32) < ((((x ^^^ (-1 : Int32)) &&& (x - (1 : Int32))).toUInt32 >>> ((16 : Int32) &&& 31).toUInt32).toInt32) from q1082)).2.2.2 ?_
              refine XS.iinc X0.here hx rfl (hb hby dj33_48_67) rfl (l' := #[.val (.int ((((x ^^^ (-1 : Int32)) &&& (x - (1 : Int32))).toUInt32 >>> ((16 : Int32) &&& 31).toUInt32).toInt32)), sI 19]) rfl ?_
              refine XS.iloadN X0.here hx rfl (hb hby dj33_48_70) rfl ?_
              refine XS.iconst X0.here hx rfl (hb hby dj33_48_71) ?_
              refine XS.iushr X0.here hx rfl (hb hby dj33_48_72) rfl ?_
              refine XS.istoreN X0.here hx rfl (hb hby dj33_48_73) rfl (l' := #[.val (.int ((((((x ^^^ (-1 : Int32)) &&& (x - (1 : Int32))).toUInt32 >>> ((16 : Int32) &&& 31).toUInt32).toInt32).toUInt32 >>> ((2 : Int32) &&& 31).toUInt32).toInt32)), sI 19]) rfl ?_
              refine XS.iloadN X0.here hx rfl (hb hby dj33_48_74) rfl ?_
              refine XS.iloadN X0.here hx rfl (hb hby dj33_48_75) rfl ?_
              refine XS.iconst X0.here hx rfl (hb hby dj33_48_76) ?_
              refine XS.iushr X0.here hx rfl (hb hby dj33_48_77) rfl ?_
              refine XS.iadd X0.here hx rfl (hb hby dj33_48_78) rfl ?_
              show Sg p e below (s₁.setTop (mkF m 79 #[.val (.int ((((((x ^^^ (-1 : Int32)) &&& (x - (1 : Int32))).toUInt32 >>> ((16 : Int32) &&& 31).toUInt32).toInt32).toUInt32 >>> ((2 : Int32) &&& 31).toUInt32).toInt32)), sI 19] [(.int ((19 : Int32) + ((((((((x ^^^ (-1 : Int32)) &&& (x - (1 : Int32))).toUInt32 >>> ((16 : Int32) &&& 31).toUInt32).toInt32).toUInt32 >>> ((2 : Int32) &&& 31).toUInt32).toInt32).toUInt32 >>> ((1 : Int32) &&& 31).toUInt32).toInt32)))])) _
              exact retI X0 hx Bd.returns (hb hby dj33_48_79) hr1083
            · show Q_ntzi x h0 n0 _ s₁.heap _
              rw [e0]
              exact ⟨_, rfl, N0, rfl, ((if_pos q1060).trans ((if_pos q1062).trans ((if_neg q1064).trans ((if_neg q1076).trans ((if_pos q1082).trans (rfl)))))).symm⟩
          · skip
            obtain ⟨fs1084, hr1084, hrun1084, hended1084, hW1084, hsame1084⟩ := X0.leave (v := some (.int ((17 : Int32) + ((((((x ^^^ (-1 : Int32)) &&& (x - (1 : Int32))).toUInt32 >>> ((16 : Int32) &&& 31).toUInt32).toInt32).toUInt32 >>> ((1 : Int32) &&& 31).toUInt32).toInt32)))) (fun h => by rw [Bd.returns] at h; cases h)
            refine ⟨_, _, pre0 _ (P1081 _ ?_), hrun1084, hended1084, _, _, rfl, ?_, ⟨⟨_, rfl⟩, hW1084, hsame1084.mono (Nat.le_of_ble_eq_true rfl) (Nat.le_of_ble_eq_true rfl)⟩⟩
            · show Sg p e below (s₁.setTop (mkF m 64 #[.val (.int ((((x ^^^ (-1 : Int32)) &&& (x - (1 : Int32))).toUInt32 >>> ((16 : Int32) &&& 31).toUInt32).toInt32)), sI 17] [(.int (4 : Int32)), (.int ((((x ^^^ (-1 : Int32)) &&& (x - (1 : Int32))).toUInt32 >>> ((16 : Int32) &&& 31).toUInt32).toInt32))])) _
              refine XS.icmpYes X0.here hx rfl (pc0 := 64) (pc' := 74) rfl (hb hby dj33_48_64) rfl (flt (show ¬ ((4 : Int32) < ((((x ^^^ (-1 : Int32)) &&& (x - (1 : Int32))).toUInt32 >>> ((16 : Int32) &&& 31).toUInt32).toInt32)) from q1082)).2.2.2 (by decide) (by decide) ?_
              refine XS.iloadN X0.here hx rfl (hb hby dj33_48_74) rfl ?_
              refine XS.iloadN X0.here hx rfl (hb hby dj33_48_75) rfl ?_
              refine XS.iconst X0.here hx rfl (hb hby dj33_48_76) ?_
              refine XS.iushr X0.here hx rfl (hb hby dj33_48_77) rfl ?_
              refine XS.iadd X0.here hx rfl (hb hby dj33_48_78) rfl ?_
              show Sg p e below (s₁.setTop (mkF m 79 #[.val (.int ((((x ^^^ (-1 : Int32)) &&& (x - (1 : Int32))).toUInt32 >>> ((16 : Int32) &&& 31).toUInt32).toInt32)), sI 17] [(.int ((17 : Int32) + ((((((x ^^^ (-1 : Int32)) &&& (x - (1 : Int32))).toUInt32 >>> ((16 : Int32) &&& 31).toUInt32).toInt32).toUInt32 >>> ((1 : Int32) &&& 31).toUInt32).toInt32)))])) _
              exact retI X0 hx Bd.returns (hb hby dj33_48_79) hr1084
            · show Q_ntzi x h0 n0 _ s₁.heap _
              rw [e0]
              exact ⟨_, rfl, N0, rfl, ((if_pos q1060).trans ((if_pos q1062).trans ((if_neg q1064).trans ((if_neg q1076).trans ((if_neg q1082).trans (rfl)))))).symm⟩
    · skip
      have P1085 : Rg p e below (s₁.setTop (mkF m 38 #[.val (.int ((x ^^^ (-1 : Int32)) &&& (x - (1 : Int32)))), sI 1] [(.int (256 : Int32)), (.int ((x ^^^ (-1 : Int32)) &&& (x - (1 : Int32))))])) B0 := fun t k => P1061 t (by
        refine XS.icmpYes X0.here hx rfl (pc0 := 23) (pc' := 34) rfl (hb hby dj33_48_23) rfl (flt (show ¬ ((65536 : Int32) < ((x ^^^ (-1 : Int32)) &&& (x - (1 : Int32)))) from q1062)).2.2.2 (by decide) (by decide) ?_
        refine XS.iloadN X0.here hx rfl (hb hby dj33_48_34) rfl ?_
        refine XS.sipush X0.here hx rfl (hb hby dj33_48_35) ?_
        show Sg p e below (s₁.setTop (mkF m 38 #[.val (.int ((x ^^^ (-1 : Int32)) &&& (x - (1 : Int32)))), sI 1] [(.int (256 : Int32)), (.int ((x ^^^ (-1 : Int32)) &&& (x - (1 : Int32))))])) _
        exact k)
      by_cases q1086 : (256 : Int32) < ((x ^^^ (-1 : Int32)) &&& (x - (1 : Int32)))
      · skip
        have P1087 : Rg p e below (s₁.setTop (mkF m 52 #[.val (.int ((((x ^^^ (-1 : Int32)) &&& (x - (1 : Int32))).toUInt32 >>> ((8 : Int32) &&& 31).toUInt32).toInt32)), sI 9] [(.int (16 : Int32)), (.int ((((x ^^^ (-1 : Int32)) &&& (x - (1 : Int32))).toUInt32 >>> ((8 : Int32) &&& 31).toUInt32).toInt32))])) B0 := fun t k => P1085 t (by
          refine XS.icmpNo X0.here hx rfl (hb hby dj33_48_38) rfl (tlt (show (256 : Int32) < ((x ^^^ (-1 : Int32)) &&& (x - (1 : Int32))) from q1086)).2.2.2 ?_
          refine XS.iinc X0.here hx rfl (hb hby dj33_48_41) rfl (l' := #[.val (.int ((x ^^^ (-1 : Int32)) &&& (x - (1 : Int32)))), sI 9]) rfl ?_
          refine XS.iloadN X0.here hx rfl (hb hby dj33_48_44) rfl ?_
          refine XS.bipush X0.here hx rfl (hb hby dj33_48_45) ?_
          refine XS.iushr X0.here hx rfl (hb hby dj33_48_47) rfl ?_
          refine XS.istoreN X0.here hx rfl (hb hby dj33_48_48) rfl (l' := #[.val (.int ((((x ^^^ (-1 : Int32)) &&& (x - (1 : Int32))).toUInt32 >>> ((8 : Int32) &&& 31).toUInt32).toInt32)), sI 9]) rfl ?_
          refine XS.iloadN X0.here hx rfl (hb hby dj33_48_49) rfl ?_
          refine XS.bipush X0.here hx rfl (hb hby dj33_48_50) ?_
          show Sg p e below (s₁.setTop (mkF m 52 #[.val (.int ((((x ^^^ (-1 : Int32)) &&& (x - (1 : Int32))).toUInt32 >>> ((8 : Int32) &&& 31).toUInt32).toInt32)), sI 9] [(.int (16 : Int32)), (.int ((((x ^^^ (-1 : Int32)) &&& (x - (1 : Int32))).toUInt32 >>> ((8 : Int32) &&& 31).toUInt32).toInt32))])) _
          exact k)
        by_cases q1088 : (16 : Int32) < ((((x ^^^ (-1 : Int32)) &&& (x - (1 : Int32))).toUInt32 >>> ((8 : Int32) &&& 31).toUInt32).toInt32)
        · skip
          have P1089 : Rg p e below (s₁.setTop (mkF m 64 #[.val (.int ((((((x ^^^ (-1 : Int32)) &&& (x - (1 : Int32))).toUInt32 >>> ((8 : Int32) &&& 31).toUInt32).toInt32).toUInt32 >>> ((4 : Int32) &&& 31).toUInt32).toInt32)), sI 13] [(.int (4 : Int32)), (.int ((((((x ^^^ (-1 : Int32)) &&& (x - (1 : Int32))).toUInt32 >>> ((8 : Int32) &&& 31).toUInt32).toInt32).toUInt32 >>> ((4 : Int32) &&& 31).toUInt32).toInt32))])) B0 := fun t k => P1087 t (by
            refine XS.icmpNo X0.here hx rfl (hb hby dj33_48_52) rfl (tlt (show (16 : Int32) < ((((x ^^^ (-1 : Int32)) &&& (x - (1 : Int32))).toUInt32 >>> ((8 : Int32) &&& 31).toUInt32).toInt32) from q1088)).2.2.2 ?_
            refine XS.iinc X0.here hx rfl (hb hby dj33_48_55) rfl (l' := #[.val (.int ((((x ^^^ (-1 : Int32)) &&& (x - (1 : Int32))).toUInt32 >>> ((8 : Int32) &&& 31).toUInt32).toInt32)), sI 13]) rfl ?_
            refine XS.iloadN X0.here hx rfl (hb hby dj33_48_58) rfl ?_
            refine XS.iconst X0.here hx rfl (hb hby dj33_48_59) ?_
            refine XS.iushr X0.here hx rfl (hb hby dj33_48_60) rfl ?_
            refine XS.istoreN X0.here hx rfl (hb hby dj33_48_61) rfl (l' := #[.val (.int ((((((x ^^^ (-1 : Int32)) &&& (x - (1 : Int32))).toUInt32 >>> ((8 : Int32) &&& 31).toUInt32).toInt32).toUInt32 >>> ((4 : Int32) &&& 31).toUInt32).toInt32)), sI 13]) rfl ?_
            refine XS.iloadN X0.here hx rfl (hb hby dj33_48_62) rfl ?_
            refine XS.iconst X0.here hx rfl (hb hby dj33_48_63) ?_
            show Sg p e below (s₁.setTop (mkF m 64 #[.val (.int ((((((x ^^^ (-1 : Int32)) &&& (x - (1 : Int32))).toUInt32 >>> ((8 : Int32) &&& 31).toUInt32).toInt32).toUInt32 >>> ((4 : Int32) &&& 31).toUInt32).toInt32)), sI 13] [(.int (4 : Int32)), (.int ((((((x ^^^ (-1 : Int32)) &&& (x - (1 : Int32))).toUInt32 >>> ((8 : Int32) &&& 31).toUInt32).toInt32).toUInt32 >>> ((4 : Int32) &&& 31).toUInt32).toInt32))])) _
            exact k)
          by_cases q1090 : (4 : Int32) < ((((((x ^^^ (-1 : Int32)) &&& (x - (1 : Int32))).toUInt32 >>> ((8 : Int32) &&& 31).toUInt32).toInt32).toUInt32 >>> ((4 : Int32) &&& 31).toUInt32).toInt32)
          · skip
            obtain ⟨fs1091, hr1091, hrun1091, hended1091, hW1091, hsame1091⟩ := X0.leave (v := some (.int ((15 : Int32) + ((((((((((x ^^^ (-1 : Int32)) &&& (x - (1 : Int32))).toUInt32 >>> ((8 : Int32) &&& 31).toUInt32).toInt32).toUInt32 >>> ((4 : Int32) &&& 31).toUInt32).toInt32).toUInt32 >>> ((2 : Int32) &&& 31).toUInt32).toInt32).toUInt32 >>> ((1 : Int32) &&& 31).toUInt32).toInt32)))) (fun h => by rw [Bd.returns] at h; cases h)
            refine ⟨_, _, pre0 _ (P1089 _ ?_), hrun1091, hended1091, _, _, rfl, ?_, ⟨⟨_, rfl⟩, hW1091, hsame1091.mono (Nat.le_of_ble_eq_true rfl) (Nat.le_of_ble_eq_true rfl)⟩⟩
            · show Sg p e below (s₁.setTop (mkF m 64 #[.val (.int ((((((x ^^^ (-1 : Int32)) &&& (x - (1 : Int32))).toUInt32 >>> ((8 : Int32) &&& 31).toUInt32).toInt32).toUInt32 >>> ((4 : Int32) &&& 31).toUInt32).toInt32)), sI 13] [(.int (4 : Int32)), (.int ((((((x ^^^ (-1 : Int32)) &&& (x - (1 : Int32))).toUInt32 >>> ((8 : Int32) &&& 31).toUInt32).toInt32).toUInt32 >>> ((4 : Int32) &&& 31).toUInt32).toInt32))])) _
              refine XS.icmpNo X0.here hx rfl (hb hby dj33_48_64) rfl (tlt (show (4 : Int32) < ((((((x ^^^ (-1 : Int32)) &&& (x - (1 : Int32))).toUInt32 >>> ((8 : Int32) &&& 31).toUInt32).toInt32).toUInt32 >>> ((4 : Int32) &&& 31).toUInt32).toInt32) from q1090)).2.2.2 ?_
              refine XS.iinc X0.here hx rfl (hb hby dj33_48_67) rfl (l' := #[.val (.int ((((((x ^^^ (-1 : Int32)) &&& (x - (1 : Int32))).toUInt32 >>> ((8 : Int32) &&& 31).toUInt32).toInt32).toUInt32 >>> ((4 : Int32) &&& 31).toUInt32).toInt32)), sI 15]) rfl ?_
              refine XS.iloadN X0.here hx rfl (hb hby dj33_48_70) rfl ?_
              refine XS.iconst X0.here hx rfl (hb hby dj33_48_71) ?_
              refine XS.iushr X0.here hx rfl (hb hby dj33_48_72) rfl ?_
              refine XS.istoreN X0.here hx rfl (hb hby dj33_48_73) rfl (l' := #[.val (.int ((((((((x ^^^ (-1 : Int32)) &&& (x - (1 : Int32))).toUInt32 >>> ((8 : Int32) &&& 31).toUInt32).toInt32).toUInt32 >>> ((4 : Int32) &&& 31).toUInt32).toInt32).toUInt32 >>> ((2 : Int32) &&& 31).toUInt32).toInt32)), sI 15]) rfl ?_
              refine XS.iloadN X0.here hx rfl (hb hby dj33_48_74) rfl ?_
              refine XS.iloadN X0.here hx rfl (hb hby dj33_48_75) rfl ?_
              refine XS.iconst X0.here hx rfl (hb hby dj33_48_76) ?_
              refine XS.iushr X0.here hx rfl (hb hby dj33_48_77) rfl ?_
              refine XS.iadd X0.here hx rfl (hb hby dj33_48_78) rfl ?_
              show Sg p e below (s₁.setTop (mkF m 79 #[.val (.int ((((((((x ^^^ (-1 : Int32)) &&& (x - (1 : Int32))).toUInt32 >>> ((8 : Int32) &&& 31).toUInt32).toInt32).toUInt32 >>> ((4 : Int32) &&& 31).toUInt32).toInt32).toUInt32 >>> ((2 : Int32) &&& 31).toUInt32).toInt32)), sI 15] [(.int ((15 : Int32) + ((((((((((x ^^^ (-1 : Int32)) &&& (x - (1 : Int32))).toUInt32 >>> ((8 : Int32) &&& 31).toUInt32).toInt32).toUInt32 >>> ((4 : Int32) &&& 31).toUInt32).toInt32).toUInt32 >>> ((2 : Int32) &&& 31).toUInt32).toInt32).toUInt32 >>> ((1 : Int32) &&& 31).toUInt32).toInt32)))])) _
              exact retI X0 hx Bd.returns (hb hby dj33_48_79) hr1091
            · show Q_ntzi x h0 n0 _ s₁.heap _
              rw [e0]
              exact ⟨_, rfl, N0, rfl, ((if_pos q1060).trans ((if_neg q1062).trans ((if_pos q1086).trans ((if_pos q1088).trans ((if_pos q1090).trans (rfl)))))).symm⟩
          · skip
            obtain ⟨fs1092, hr1092, hrun1092, hended1092, hW1092, hsame1092⟩ := X0.leave (v := some (.int ((13 : Int32) + ((((((((x ^^^ (-1 : Int32)) &&& (x - (1 : Int32))).toUInt32 >>> ((8 : Int32) &&& 31).toUInt32).toInt32).toUInt32 >>> ((4 : Int32) &&& 31).toUInt32).toInt32).toUInt32 >>> ((1 : Int32) &&& 31).toUInt32).toInt32)))) (fun h => by rw [Bd.returns] at h; cases h)
            refine ⟨_, _, pre0 _ (P1089 _ ?_), hrun1092, hended1092, _, _, rfl, ?_, ⟨⟨_, rfl⟩, hW1092, hsame1092.mono (Nat.le_of_ble_eq_true rfl) (Nat.le_of_ble_eq_true rfl)⟩⟩
            · show Sg p e below (s₁.setTop (mkF m 64 #[.val (.int ((((((x ^^^ (-1 : Int32)) &&& (x - (1 : Int32))).toUInt32 >>> ((8 : Int32) &&& 31).toUInt32).toInt32).toUInt32 >>> ((4 : Int32) &&& 31).toUInt32).toInt32)), sI 13] [(.int (4 : Int32)), (.int ((((((x ^^^ (-1 : Int32)) &&& (x - (1 : Int32))).toUInt32 >>> ((8 : Int32) &&& 31).toUInt32).toInt32).toUInt32 >>> ((4 : Int32) &&& 31).toUInt32).toInt32))])) _
              refine XS.icmpYes X0.here hx rfl (pc0 := 64) (pc' := 74) rfl (hb hby dj33_48_64) rfl (flt (show ¬ ((4 : Int32) < ((((((x ^^^ (-1 : Int32)) &&& (x - (1 : Int32))).toUInt32 >>> ((8 : Int32) &&& 31).toUInt32).toInt32).toUInt32 >>> ((4 : Int32) &&& 31).toUInt32).toInt32)) from q1090)).2.2.2 (by decide) (by decide) ?_
              refine XS.iloadN X0.here hx rfl (hb hby dj33_48_74) rfl ?_
              refine XS.iloadN X0.here hx rfl (hb hby dj33_48_75) rfl ?_
              refine XS.iconst X0.here hx rfl (hb hby dj33_48_76) ?_
              refine XS.iushr X0.here hx rfl (hb hby dj33_48_77) rfl ?_
              refine XS.iadd X0.here hx rfl (hb hby dj33_48_78) rfl ?_
              show Sg p e below (s₁.setTop (mkF m 79 #[.val (.int ((((((x ^^^ (-1 : Int32)) &&& (x - (1 : Int32))).toUInt32 >>> ((8 : Int32) &&& 31).toUInt32).toInt32).toUInt32 >>> ((4 : Int32) &&& 31).toUInt32).toInt32)), sI 13] [(.int ((13 : Int32) + ((((((((x ^^^ (-1 : Int32)) &&& (x - (1 : Int32))).toUInt32 >>> ((8 : Int32) &&& 31).toUInt32).toInt32).toUInt32 >>> ((4 : Int32) &&& 31).toUInt32).toInt32).toUInt32 >>> ((1 : Int32) &&& 31).toUInt32).toInt32)))])) _
              exact retI X0 hx Bd.returns (hb hby dj33_48_79) hr1092
            · show Q_ntzi x h0 n0 _ s₁.heap _
              rw [e0]
              exact ⟨_, rfl, N0, rfl, ((if_pos q1060).trans ((if_neg q1062).trans ((if_pos q1086).trans ((if_pos q1088).trans ((if_neg q1090).trans (rfl)))))).symm⟩
        · skip
          have P1093 : Rg p e below (s₁.setTop (mkF m 64 #[.val (.int ((((x ^^^ (-1 : Int32)) &&& (x - (1 : Int32))).toUInt32 >>> ((8 : Int32) &&& 31).toUInt32).toInt32)), sI 9] [(.int (4 : Int32)), (.int ((((x ^^^ (-1 : Int32)) &&& (x - (1 : Int32))).toUInt32 >>> ((8 : Int32) &&& 31).toUInt32).toInt32))])) B0 := fun t k => P1087 t (by
            refine XS.icmpYes X0.here hx rfl (pc0 := 52) (pc' := 62) rfl (hb hby dj33_48_52) rfl (flt (show ¬ ((16 : Int32) < ((((x ^^^ (-1 : Int32)) &&& (x - (1 : Int32))).toUInt32 >>> ((8 : Int32) &&& 31).toUInt32).toInt32)) from q1088)).2.2.2 (by decide) (by decide) ?_
            refine XS.iloadN X0.here hx rfl (hb hby dj33_48_62) rfl ?_
            refine XS.iconst X0.here hx rfl (hb hby dj33_48_63) ?_
            show Sg p e below (s₁.setTop (mkF m 64 #[.val (.int ((((x ^^^ (-1 : Int32)) &&& (x - (1 : Int32))).toUInt32 >>> ((8 : Int32) &&& 31).toUInt32).toInt32)), sI 9] [(.int (4 : Int32)), (.int ((((x ^^^ (-1 : Int32)) &&& (x - (1 : Int32))).toUInt32 >>> ((8 : Int32) &&& 31).toUInt32).toInt32))])) _
            exact k)
          by_cases q1094 : (4 : Int32) < ((((x ^^^ (-1 : Int32)) &&& (x - (1 : Int32))).toUInt32 >>> ((8 : Int32) &&& 31).toUInt32).toInt32)
          · skip
            obtain ⟨fs1095, hr1095, hrun1095, hended1095, hW1095, hsame1095⟩ := X0.leave (v := some (.int ((11 : Int32) + ((((((((x ^^^ (-1 : Int32)) &&& (x - (1 : Int32))).toUInt32 >>> ((8 : Int32) &&& 31).toUInt32).toInt32).toUInt32 >>> ((2 : Int32) &&& 31).toUInt32).toInt32).toUInt32 >>> ((1 : Int32) &&& 31).toUInt32).toInt32)))) (fun h => by rw [Bd.returns] at h; cases h)
            refine ⟨_, _, pre0 _ (P1093 _ ?_), hrun1095, hended1095, _, _, rfl, ?_, ⟨⟨_, rfl⟩, hW1095, hsame1095.mono (Nat.le_of_ble_eq_true rfl) (Nat.le_of_ble_eq_true rfl)⟩⟩
            · show Sg p e below (s₁.setTop (mkF m 64 #[.val (.int ((((x ^^^ (-1 : Int32)) &&& (x - (1 : Int32))).toUInt32 >>> ((8 : Int32) &&& 31).toUInt32).toInt32)), sI 9] [(.int (4 : Int32)), (.int ((((x ^^^ (-1 : Int32)) &&& (x - (1 : Int32))).toUInt32 >>> ((8 : Int32) &&& 31).toUInt32).toInt32))])) _
              refine XS.icmpNo X0.here hx rfl (hb hby dj33_48_64) rfl (tlt (show (4 : Int32) < ((((x ^^^ (-1 : Int32)) &&& (x - (1 : Int32))).toUInt32 >>> ((8 : Int32) &&& 31).toUInt32).toInt32) from q1094)).2.2.2 ?_
              refine XS.iinc X0.here hx rfl (hb hby dj33_48_67) rfl (l' := #[.val (.int ((((x ^^^ (-1 : Int32)) &&& (x - (1 : Int32))).toUInt32 >>> ((8 : Int32) &&& 31).toUInt32).toInt32)), sI 11]) rfl ?_
              refine XS.iloadN X0.here hx rfl (hb hby dj33_48_70) rfl ?_
              refine XS.iconst X0.here hx rfl (hb hby dj33_48_71) ?_
              refine XS.iushr X0.here hx rfl (hb hby dj33_48_72) rfl ?_
              refine XS.istoreN X0.here hx rfl (hb hby dj33_48_73) rfl (l' := #[.val (.int ((((((x ^^^ (-1 : Int32)) &&& (x - (1 : Int32))).toUInt32 >>> ((8 : Int32) &&& 31).toUInt32).toInt32).toUInt32 >>> ((2 : Int32) &&& 31).toUInt32).toInt32)), sI 11]) rfl ?_
              refine XS.iloadN X0.here hx rfl (hb hby dj33_48_74) rfl ?_
              refine XS.iloadN X0.here hx rfl (hb hby dj33_48_75) rfl ?_
              refine XS.iconst X0.here hx rfl (hb hby dj33_48_76) ?_
              refine XS.iushr X0.here hx rfl (hb hby dj33_48_77) rfl ?_
              refine XS.iadd X0.here hx rfl (hb hby dj33_48_78) rfl ?_
              show Sg p e below (s₁.setTop (mkF m 79 #[.val (.int ((((((x ^^^ (-1 : Int32)) &&& (x - (1 : Int32))).toUInt32 >>> ((8 : Int32) &&& 31).toUInt32).toInt32).toUInt32 >>> ((2 : Int32) &&& 31).toUInt32).toInt32)), sI 11] [(.int ((11 : Int32) + ((((((((x ^^^ (-1 : Int32)) &&& (x - (1 : Int32))).toUInt32 >>> ((8 : Int32) &&& 31).toUInt32).toInt32).toUInt32 >>> ((2 : Int32) &&& 31).toUInt32).toInt32).toUInt32 >>> ((1 : Int32) &&& 31).toUInt32).toInt32)))])) _
              exact retI X0 hx Bd.returns (hb hby dj33_48_79) hr1095
            · show Q_ntzi x h0 n0 _ s₁.heap _
              rw [e0]
              exact ⟨_, rfl, N0, rfl, ((if_pos q1060).trans ((if_neg q1062).trans ((if_pos q1086).trans ((if_neg q1088).trans ((if_pos q1094).trans (rfl)))))).symm⟩
          · skip
            obtain ⟨fs1096, hr1096, hrun1096, hended1096, hW1096, hsame1096⟩ := X0.leave (v := some (.int ((9 : Int32) + ((((((x ^^^ (-1 : Int32)) &&& (x - (1 : Int32))).toUInt32 >>> ((8 : Int32) &&& 31).toUInt32).toInt32).toUInt32 >>> ((1 : Int32) &&& 31).toUInt32).toInt32)))) (fun h => by rw [Bd.returns] at h; cases h)
            refine ⟨_, _, pre0 _ (P1093 _ ?_), hrun1096, hended1096, _, _, rfl, ?_, ⟨⟨_, rfl⟩, hW1096, hsame1096.mono (Nat.le_of_ble_eq_true rfl) (Nat.le_of_ble_eq_true rfl)⟩⟩
            · show Sg p e below (s₁.setTop (mkF m 64 #[.val (.int ((((x ^^^ (-1 : Int32)) &&& (x - (1 : Int32))).toUInt32 >>> ((8 : Int32) &&& 31).toUInt32).toInt32)), sI 9] [(.int (4 : Int32)), (.int ((((x ^^^ (-1 : Int32)) &&& (x - (1 : Int32))).toUInt32 >>> ((8 : Int32) &&& 31).toUInt32).toInt32))])) _
              refine XS.icmpYes X0.here hx rfl (pc0 := 64) (pc' := 74) rfl (hb hby dj33_48_64) rfl (flt (show ¬ ((4 : Int32) < ((((x ^^^ (-1 : Int32)) &&& (x - (1 : Int32))).toUInt32 >>> ((8 : Int32) &&& 31).toUInt32).toInt32)) from q1094)).2.2.2 (by decide) (by decide) ?_
              refine XS.iloadN X0.here hx rfl (hb hby dj33_48_74) rfl ?_
              refine XS.iloadN X0.here hx rfl (hb hby dj33_48_75) rfl ?_
              refine XS.iconst X0.here hx rfl (hb hby dj33_48_76) ?_
              refine XS.iushr X0.here hx rfl (hb hby dj33_48_77) rfl ?_
              refine XS.iadd X0.here hx rfl (hb hby dj33_48_78) rfl ?_
              show Sg p e below (s₁.setTop (mkF m 79 #[.val (.int ((((x ^^^ (-1 : Int32)) &&& (x - (1 : Int32))).toUInt32 >>> ((8 : Int32) &&& 31).toUInt32).toInt32)), sI 9] [(.int ((9 : Int32) + ((((((x ^^^ (-1 : Int32)) &&& (x - (1 : Int32))).toUInt32 >>> ((8 : Int32) &&& 31).toUInt32).toInt32).toUInt32 >>> ((1 : Int32) &&& 31).toUInt32).toInt32)))])) _
              exact retI X0 hx Bd.returns (hb hby dj33_48_79) hr1096
            · show Q_ntzi x h0 n0 _ s₁.heap _
              rw [e0]
              exact ⟨_, rfl, N0, rfl, ((if_pos q1060).trans ((if_neg q1062).trans ((if_pos q1086).trans ((if_neg q1088).trans ((if_neg q1094).trans (rfl)))))).symm⟩
      · skip
        have P1097 : Rg p e below (s₁.setTop (mkF m 52 #[.val (.int ((x ^^^ (-1 : Int32)) &&& (x - (1 : Int32)))), sI 1] [(.int (16 : Int32)), (.int ((x ^^^ (-1 : Int32)) &&& (x - (1 : Int32))))])) B0 := fun t k => P1085 t (by
          refine XS.icmpYes X0.here hx rfl (pc0 := 38) (pc' := 49) rfl (hb hby dj33_48_38) rfl (flt (show ¬ ((256 : Int32) < ((x ^^^ (-1 : Int32)) &&& (x - (1 : Int32)))) from q1086)).2.2.2 (by decide) (by decide) ?_
          refine XS.iloadN X0.here hx rfl (hb hby dj33_48_49) rfl ?_
          refine XS.bipush X0.here hx rfl (hb hby dj33_48_50) ?_
          show Sg p e below (s₁.setTop (mkF m 52 #[.val (.int ((x ^^^ (-1 : Int32)) &&& (x - (1 : Int32)))), sI 1] [(.int (16 : Int32)), (.int ((x ^^^ (-1 : Int32)) &&& (x - (1 : Int32))))])) _
          exact k)
        by_cases q1098 : (16 : Int32) < ((x ^^^ (-1 : Int32)) &&& (x - (1 : Int32)))
        · skip
          have P1099 : Rg p e below (s₁.setTop (mkF m 64 #[.val (.int ((((x ^^^ (-1 : Int32)) &&& (x - (1 : Int32))).toUInt32 >>> ((4 : Int32) &&& 31).toUInt32).toInt32)), sI 5] [(.int (4 : Int32)), (.int ((((x ^^^ (-1 : Int32)) &&& (x - (1 : Int32))).toUInt32 >>> ((4 : Int32) &&& 31).toUInt32).toInt32))])) B0 := fun t k => P1097 t (by
            refine XS.icmpNo X0.here hx rfl (hb hby dj33_48_52) rfl (tlt (show (16 : Int32) < ((x ^^^ (-1 : Int32)) &&& (x - (1 : Int32))) from q1098)).2.2.2 ?_
            refine XS.iinc X0.here hx rfl (hb hby dj33_48_55) rfl (l' := #[.val (.int ((x ^^^ (-1 : Int32)) &&& (x - (1 : Int32)))), sI 5]) rfl ?_
            refine XS.iloadN X0.here hx rfl (hb hby dj33_48_58) rfl ?_
            refine XS.iconst X0.here hx rfl (hb hby dj33_48_59) ?_
            refine XS.iushr X0.here hx rfl (hb hby dj33_48_60) rfl ?_
            refine XS.istoreN X0.here hx rfl (hb hby dj33_48_61) rfl (l' := #[.val (.int ((((x ^^^ (-1 : Int32)) &&& (x - (1 : Int32))).toUInt32 >>> ((4 : Int32) &&& 31).toUInt32).toInt32)), sI 5]) rfl ?_
            refine XS.iloadN X0.here hx rfl (hb hby dj33_48_62) rfl ?_
            refine XS.iconst X0.here hx rfl (hb hby dj33_48_63) ?_
            show Sg p e below (s₁.setTop (mkF m 64 #[.val (.int ((((x ^^^ (-1 : Int32)) &&& (x - (1 : Int32))).toUInt32 >>> ((4 : Int32) &&& 31).toUInt32).toInt32)), sI 5] [(.int (4 : Int32)), (.int ((((x ^^^ (-1 : Int32)) &&& (x - (1 : Int32))).toUInt32 >>> ((4 : Int32) &&& 31).toUInt32).toInt32))])) _
            exact k)
          by_cases q1100 : (4 : Int32) < ((((x ^^^ (-1 : Int32)) &&& (x - (1 : Int32))).toUInt32 >>> ((4 : Int32) &&& 31).toUInt32).toInt32)
          · skip
            obtain ⟨fs1101, hr1101, hrun1101, hended1101, hW1101, hsame1101⟩ := X0.leave (v := some (.int ((7 : Int32) + ((((((((x ^^^ (-1 : Int32)) &&& (x - (1 : Int32))).toUInt32 >>> ((4 : Int32) &&& 31).toUInt32).toInt32).toUInt32 >>> ((2 : Int32) &&& 31).toUInt32).toInt32).toUInt32 >>> ((1 : Int32) &&& 31).toUInt32).toInt32)))) (fun h => by rw [Bd.returns] at h; cases h)
            refine ⟨_, _, pre0 _ (P1099 _ ?_), hrun1101, hended1101, _, _, rfl, ?_, ⟨⟨_, rfl⟩, hW1101, hsame1101.mono (Nat.le_of_ble_eq_true rfl) (Nat.le_of_ble_eq_true rfl)⟩⟩
            · show Sg p e below (s₁.setTop (mkF m 64 #[.val (.int ((((x ^^^ (-1 : Int32)) &&& (x - (1 : Int32))).toUInt32 >>> ((4 : Int32) &&& 31).toUInt32).toInt32)), sI 5] [(.int (4 : Int32)), (.int ((((x ^^^ (-1 : Int32)) &&& (x - (1 : Int32))).toUInt32 >>> ((4 : Int32) &&& 31).toUInt32).toInt32))])) _
              refine XS.icmpNo X0.here hx rfl (hb hby dj33_48_64) rfl (tlt (show (4 : Int32) < ((((x ^^^ (-1 : Int32)) &&& (x - (1 : Int32))).toUInt32 >>> ((4 : Int32) &&& 31).toUInt32).toInt32) from q1100)).2.2.2 ?_
              refine XS.iinc X0.here hx rfl (hb hby dj33_48_67) rfl (l' := #[.val (.int ((((x ^^^ (-1 : Int32)) &&& (x - (1 : Int32))).toUInt32 >>> ((4 : Int32) &&& 31).toUInt32).toInt32)), sI 7]) rfl ?_
              refine XS.iloadN X0.here hx rfl (hb hby dj33_48_70) rfl ?_
              refine XS.iconst X0.here hx rfl (hb hby dj33_48_71) ?_
              refine XS.iushr X0.here hx rfl (hb hby dj33_48_72) rfl ?_
              refine XS.istoreN X0.here hx rfl (hb hby dj33_48_73) rfl (l' := #[.val (.int ((((((x ^^^ (-1 : Int32)) &&& (x - (1 : Int32))).toUInt32 >>> ((4 : Int32) &&& 31).toUInt32).toInt32).toUInt32 >>> ((2 : Int32) &&& 31).toUInt32).toInt32)), sI 7]) rfl ?_
              refine XS.iloadN X0.here hx rfl (hb hby dj33_48_74) rfl ?_
              refine XS.iloadN X0.here hx rfl (hb hby dj33_48_75) rfl ?_
              refine XS.iconst X0.here hx rfl (hb hby dj33_48_76) ?_
              refine XS.iushr X0.here hx rfl (hb hby dj33_48_77) rfl ?_
              refine XS.iadd X0.here hx rfl (hb hby dj33_48_78) rfl ?_
              show Sg p e below (s₁.setTop (mkF m 79 #[.val (.int ((((((x ^^^ (-1 : Int32)) &&& (x - (1 : Int32))).toUInt32 >>> ((4 : Int32) &&& 31).toUInt32).toInt32).toUInt32 >>> ((2 : Int32) &&& 31).toUInt32).toInt32)), sI 7] [(.int ((7 : Int32) + ((((((((x ^^^ (-1 : Int32)) &&& (x - (1 : Int32))).toUInt32 >>> ((4 : Int32) &&& 31).toUInt32).toInt32).toUInt32 >>> ((2 : Int32) &&& 31).toUInt32).toInt32).toUInt32 >>> ((1 : Int32) &&& 31).toUInt32).toInt32)))])) _
              exact retI X0 hx Bd.returns (hb hby dj33_48_79) hr1101
            · show Q_ntzi x h0 n0 _ s₁.heap _
              rw [e0]
              exact ⟨_, rfl, N0, rfl, ((if_pos q1060).trans ((if_neg q1062).trans ((if_neg q1086).trans ((if_pos q1098).trans ((if_pos q1100).trans (rfl)))))).symm⟩
          · skip
            obtain ⟨fs1102, hr1102, hrun1102, hended1102, hW1102, hsame1102⟩ := X0.leave (v := some (.int ((5 : Int32) + ((((((x ^^^ (-1 : Int32)) &&& (x - (1 : Int32))).toUInt32 >>> ((4 : Int32) &&& 31).toUInt32).toInt32).toUInt32 >>> ((1 : Int32) &&& 31).toUInt32).toInt32)))) (fun h => by rw [Bd.returns] at h; cases h)
            refine ⟨_, _, pre0 _ (P1099 _ ?_), hrun1102, hended1102, _, _, rfl, ?_, ⟨⟨_, rfl⟩, hW1102, hsame1102.mono (Nat.le_of_ble_eq_true rfl) (Nat.le_of_ble_eq_true rfl)⟩⟩
            · show Sg p e below (s₁.setTop (mkF m 64 #[.val (.int ((((x ^^^ (-1 : Int32)) &&& (x - (1 : Int32))).toUInt32 >>> ((4 : Int32) &&& 31).toUInt32).toInt32)), sI 5] [(.int (4 : Int32)), (.int ((((x ^^^ (-1 : Int32)) &&& (x - (1 : Int32))).toUInt32 >>> ((4 : Int32) &&& 31).toUInt32).toInt32))])) _
              refine XS.icmpYes X0.here hx rfl (pc0 := 64) (pc' := 74) rfl (hb hby dj33_48_64) rfl (flt (show ¬ ((4 : Int32) < ((((x ^^^ (-1 : Int32)) &&& (x - (1 : Int32))).toUInt32 >>> ((4 : Int32) &&& 31).toUInt32).toInt32)) from q1100)).2.2.2 (by decide) (by decide) ?_
              refine XS.iloadN X0.here hx rfl (hb hby dj33_48_74) rfl ?_
              refine XS.iloadN X0.here hx rfl (hb hby dj33_48_75) rfl ?_
              refine XS.iconst X0.here hx rfl (hb hby dj33_48_76) ?_
              refine XS.iushr X0.here hx rfl (hb hby dj33_48_77) rfl ?_
              refine XS.iadd X0.here hx rfl (hb hby dj33_48_78) rfl ?_
              show Sg p e below (s₁.setTop (mkF m 79 #[.val (.int ((((x ^^^ (-1 : Int32)) &&& (x - (1 : Int32))).toUInt32 >>> ((4 : Int32) &&& 31).toUInt32).toInt32)), sI 5] [(.int ((5 : Int32) + ((((((x ^^^ (-1 : Int32)) &&& (x - (1 : Int32))).toUInt32 >>> ((4 : Int32) &&& 31).toUInt32).toInt32).toUInt32 >>> ((1 : Int32) &&& 31).toUInt32).toInt32)))])) _
              exact retI X0 hx Bd.returns (hb hby dj33_48_79) hr1102
            · show Q_ntzi x h0 n0 _ s₁.heap _
              rw [e0]
              exact ⟨_, rfl, N0, rfl, ((if_pos q1060).trans ((if_neg q1062).trans ((if_neg q1086).trans ((if_pos q1098).trans ((if_neg q1100).trans (rfl)))))).symm⟩
        · skip
          have P1103 : Rg p e below (s₁.setTop (mkF m 64 #[.val (.int ((x ^^^ (-1 : Int32)) &&& (x - (1 : Int32)))), sI 1] [(.int (4 : Int32)), (.int ((x ^^^ (-1 : Int32)) &&& (x - (1 : Int32))))])) B0 := fun t k => P1097 t (by
            refine XS.icmpYes X0.here hx rfl (pc0 := 52) (pc' := 62) rfl (hb hby dj33_48_52) rfl (flt (show ¬ ((16 : Int32) < ((x ^^^ (-1 : Int32)) &&& (x - (1 : Int32)))) from q1098)).2.2.2 (by decide) (by decide) ?_
            refine XS.iloadN X0.here hx rfl (hb hby dj33_48_62) rfl ?_
            refine XS.iconst X0.here hx rfl (hb hby dj33_48_63) ?_
            show Sg p e below (s₁.setTop (mkF m 64 #[.val (.int ((x ^^^ (-1 : Int32)) &&& (x - (1 : Int32)))), sI 1] [(.int (4 : Int32)), (.int ((x ^^^ (-1 : Int32)) &&& (x - (1 : Int32))))])) _
            exact k)
          by_cases q1104 : (4 : Int32) < ((x ^^^ (-1 : Int32)) &&& (x - (1 : Int32)))
          · skip
            obtain ⟨fs1105, hr1105, hrun1105, hended1105, hW1105, hsame1105⟩ := X0.leave (v := some (.int ((3 : Int32) + ((((((x ^^^ (-1 : Int32)) &&& (x - (1 : Int32))).toUInt32 >>> ((2 : Int32) &&& 31).toUInt32).toInt32).toUInt32 >>> ((1 : Int32) &&& 31).toUInt32).toInt32)))) (fun h => by rw [Bd.returns] at h; cases h)
            refine ⟨_, _, pre0 _ (P1103 _ ?_), hrun1105, hended1105, _, _, rfl, ?_, ⟨⟨_, rfl⟩, hW1105, hsame1105.mono (Nat.le_of_ble_eq_true rfl) (Nat.le_of_ble_eq_true rfl)⟩⟩
            · show Sg p e below (s₁.setTop (mkF m 64 #[.val (.int ((x ^^^ (-1 : Int32)) &&& (x - (1 : Int32)))), sI 1] [(.int (4 : Int32)), (.int ((x ^^^ (-1 : Int32)) &&& (x - (1 : Int32))))])) _
              refine XS.icmpNo X0.here hx rfl (hb hby dj33_48_64) rfl (tlt (show (4 : Int32) < ((x ^^^ (-1 : Int32)) &&& (x - (1 : Int32))) from q1104)).2.2.2 ?_
              refine XS.iinc X0.here hx rfl (hb hby dj33_48_67) rfl (l' := #[.val (.int ((x ^^^ (-1 : Int32)) &&& (x - (1 : Int32)))), sI 3]) rfl ?_
              refine XS.iloadN X0.here hx rfl (hb hby dj33_48_70) rfl ?_
              refine XS.iconst X0.here hx rfl (hb hby dj33_48_71) ?_
              refine XS.iushr X0.here hx rfl (hb hby dj33_48_72) rfl ?_
              refine XS.istoreN X0.here hx rfl (hb hby dj33_48_73) rfl (l' := #[.val (.int ((((x ^^^ (-1 : Int32)) &&& (x - (1 : Int32))).toUInt32 >>> ((2 : Int32) &&& 31).toUInt32).toInt32)), sI 3]) rfl ?_
              refine XS.iloadN X0.here hx rfl (hb hby dj33_48_74) rfl ?_
              refine XS.iloadN X0.here hx rfl (hb hby dj33_48_75) rfl ?_
              refine XS.iconst X0.here hx rfl (hb hby dj33_48_76) ?_
              refine XS.iushr X0.here hx rfl (hb hby dj33_48_77) rfl ?_
              refine XS.iadd X0.here hx rfl (hb hby dj33_48_78) rfl ?_
              show Sg p e below (s₁.setTop (mkF m 79 #[.val (.int ((((x ^^^ (-1 : Int32)) &&& (x - (1 : Int32))).toUInt32 >>> ((2 : Int32) &&& 31).toUInt32).toInt32)), sI 3] [(.int ((3 : Int32) + ((((((x ^^^ (-1 : Int32)) &&& (x - (1 : Int32))).toUInt32 >>> ((2 : Int32) &&& 31).toUInt32).toInt32).toUInt32 >>> ((1 : Int32) &&& 31).toUInt32).toInt32)))])) _
              exact retI X0 hx Bd.returns (hb hby dj33_48_79) hr1105
            · show Q_ntzi x h0 n0 _ s₁.heap _
              rw [e0]
              exact ⟨_, rfl, N0, rfl, ((if_pos q1060).trans ((if_neg q1062).trans ((if_neg q1086).trans ((if_neg q1098).trans ((if_pos q1104).trans (rfl)))))).symm⟩
          · skip
            obtain ⟨fs1106, hr1106, hrun1106, hended1106, hW1106, hsame1106⟩ := X0.leave (v := some (.int ((1 : Int32) + ((((x ^^^ (-1 : Int32)) &&& (x - (1 : Int32))).toUInt32 >>> ((1 : Int32) &&& 31).toUInt32).toInt32)))) (fun h => by rw [Bd.returns] at h; cases h)
            refine ⟨_, _, pre0 _ (P1103 _ ?_), hrun1106, hended1106, _, _, rfl, ?_, ⟨⟨_, rfl⟩, hW1106, hsame1106.mono (Nat.le_of_ble_eq_true rfl) (Nat.le_of_ble_eq_true rfl)⟩⟩
            · show Sg p e below (s₁.setTop (mkF m 64 #[.val (.int ((x ^^^ (-1 : Int32)) &&& (x - (1 : Int32)))), sI 1] [(.int (4 : Int32)), (.int ((x ^^^ (-1 : Int32)) &&& (x - (1 : Int32))))])) _
              refine XS.icmpYes X0.here hx rfl (pc0 := 64) (pc' := 74) rfl (hb hby dj33_48_64) rfl (flt (show ¬ ((4 : Int32) < ((x ^^^ (-1 : Int32)) &&& (x - (1 : Int32)))) from q1104)).2.2.2 (by decide) (by decide) ?_
              refine XS.iloadN X0.here hx rfl (hb hby dj33_48_74) rfl ?_
              refine XS.iloadN X0.here hx rfl (hb hby dj33_48_75) rfl ?_
              refine XS.iconst X0.here hx rfl (hb hby dj33_48_76) ?_
              refine XS.iushr X0.here hx rfl (hb hby dj33_48_77) rfl ?_
              refine XS.iadd X0.here hx rfl (hb hby dj33_48_78) rfl ?_
              show Sg p e below (s₁.setTop (mkF m 79 #[.val (.int ((x ^^^ (-1 : Int32)) &&& (x - (1 : Int32)))), sI 1] [(.int ((1 : Int32) + ((((x ^^^ (-1 : Int32)) &&& (x - (1 : Int32))).toUInt32 >>> ((1 : Int32) &&& 31).toUInt32).toInt32)))])) _
              exact retI X0 hx Bd.returns (hb hby dj33_48_79) hr1106
            · show Q_ntzi x h0 n0 _ s₁.heap _
              rw [e0]
              exact ⟨_, rfl, N0, rfl, ((if_pos q1060).trans ((if_neg q1062).trans ((if_neg q1086).trans ((if_neg q1098).trans ((if_neg q1104).trans (rfl)))))).symm⟩
  · skip
    obtain ⟨fs1107, hr1107, hrun1107, hended1107, hW1107, hsame1107⟩ := X0.leave (v := some (.int (((x ^^^ (-1 : Int32)) &&& (x - (1 : Int32))) &&& (32 : Int32)))) (fun h => by rw [Bd.returns] at h; cases h)
    refine ⟨_, _, pre0 _ (P1059 _ ?_), hrun1107, hended1107, _, _, rfl, ?_, ⟨⟨_, rfl⟩, hW1107, hsame1107.mono (Nat.le_of_ble_eq_true rfl) (Nat.le_of_ble_eq_true rfl)⟩⟩
    · show Sg p e below (s₁.setTop (mkF m 9 #[.val (.int ((x ^^^ (-1 : Int32)) &&& (x - (1 : Int32)))), sU] [(.int ((x ^^^ (-1 : Int32)) &&& (x - (1 : Int32))))])) _
      refine XS.ifNo X0.here hx rfl (hb hby dj33_48_9) rfl ((if0 _ _).trans (flt (show ¬ ((0 : Int32) < ((x ^^^ (-1 : Int32)) &&& (x - (1 : Int32)))) from q1060)).2.2.1) ?_
      refine XS.iloadN X0.here hx rfl (hb hby dj33_48_12) rfl ?_
      refine XS.bipush X0.here hx rfl (hb hby dj33_48_13) ?_
      refine XS.iand X0.here hx rfl (hb hby dj33_48_15) rfl ?_
      show Sg p e below (s₁.setTop (mkF m 16 #[.val (.int ((x ^^^ (-1 : Int32)) &&& (x - (1 : Int32)))), sU] [(.int (((x ^^^ (-1 : Int32)) &&& (x - (1 : Int32))) &&& (32 : Int32)))])) _
      exact retI X0 hx Bd.returns (hb hby dj33_48_16) hr1107
    · show Q_ntzi x h0 n0 _ s₁.heap _
      rw [e0]
      exact ⟨_, rfl, N0, rfl, ((if_neg q1060).trans (rfl)).symm⟩
theorem dj35_49_0 : decode jdk_35_method_49_code 0 = .ok (.lload_n 0, 1) := by decide +kernel
theorem dj35_49_1 : decode jdk_35_method_49_code 1 = .ok (.l2i, 1) := by decide +kernel
theorem dj35_49_2 : decode jdk_35_method_49_code 2 = .ok (.istore_n 2, 1) := by decide +kernel
theorem dj35_49_3 : decode jdk_35_method_49_code 3 = .ok (.iload_n 2, 1) := by decide +kernel
theorem dj35_49_4 : decode jdk_35_method_49_code 4 = .ok (.ifCond .ne 17, 3) := by decide +kernel
theorem dj35_49_7 : decode jdk_35_method_49_code 7 = .ok (.bipush 32, 2) := by decide +kernel
theorem dj35_49_9 : decode jdk_35_method_49_code 9 = .ok (.lload_n 0, 1) := by decide +kernel
theorem dj35_49_10 : decode jdk_35_method_49_code 10 = .ok (.bipush 32, 2) := by decide +kernel
theorem dj35_49_12 : decode jdk_35_method_49_code 12 = .ok (.lushr, 1) := by decide +kernel
theorem dj35_49_13 : decode jdk_35_method_49_code 13 = .ok (.l2i, 1) := by decide +kernel
theorem dj35_49_14 : decode jdk_35_method_49_code 14 = .ok (.invokestatic 311, 3) := by decide +kernel
theorem pd__28I_29I : parseMethodDescriptor "(I)I" = some ⟨[.int], some .int⟩ := by decide +kernel
theorem dj35_49_17 : decode jdk_35_method_49_code 17 = .ok (.iadd, 1) := by decide +kernel
theorem dj35_49_18 : decode jdk_35_method_49_code 18 = .ok (.goto 7, 3) := by decide +kernel
theorem dj35_49_25 : decode jdk_35_method_49_code 25 = .ok (.ireturn, 1) := by decide +kernel
theorem dj35_49_21 : decode jdk_35_method_49_code 21 = .ok (.iload_n 2, 1) := by decide +kernel
theorem dj35_49_22 : decode jdk_35_method_49_code 22 = .ok (.invokestatic 311, 3) := by decide +kernel
theorem ef_ntzj (m : MethodId) (x0 : Int64) : entryFrame m #[(.long x0)] 3 = mkF m 0 #[.val (.long x0), .second, sU] [] := by (first | (simp [entryFrame, mkF, argsToLocals, Value.category]; done) | rfl)
def Q_ntzj (y : Int64) (h0 : Heap) (n0 : Nat) (v : Option Value) (h : Heap) (L : List Loc) : Prop := ∃ r : Int32, v = some (.int r) ∧ Fr n0 L ∧ h = h0 ∧ r = JP.Long_numberOfTrailingZeros_J.val y
set_option maxRecDepth 65536 in
set_option maxHeartbeats 40000000 in
theorem rm_ntzj (l : Launch) (Z : State) (a0 : Array Value) (hw : ∀ d ∈ tables_1, d.before a0 Z = true) (ws : List Jvm.Cond) (y : Int64) (h0 : Heap) (n0 : Nat) (Z0 : n0 ≤ h0.size)  :
    MetFree l (⟨"java/lang/Long", "numberOfTrailingZeros", "(J)I"⟩ : MethodName) (head1 (Jvm.Cond.code (⟨"java/lang/Long", "numberOfTrailingZeros", "(J)I"⟩ : MethodName) jdk_35_method_49_code 3 (some .int) :: ws) ({ frames := 1, cells := 0, slots := 0, locals := 14 } : Room)) (fun a U => a = #[(.long y)] ∧ Z.Warmed39 U.vm ∧ U.heap = h0) (fun _ _ _ _ _ => True) (fun _ U o U' => ∃ v L, o = .returned v ∧ Q_ntzj y h0 n0 v U'.heap L ∧ FrameEnd U o U' L ({ frames := 1, cells := 0, slots := 0, locals := 14 } : Room).cells ({ frames := 1, cells := 0, slots := 0, locals := 14 } : Room).slots) := by
  refine MetFree.of_bodySF (plainFor_of_name pn_java_lang_Long) hisR ?_
  intro p e s m args below meth c s₁ Bd hml0 hP hK
  obtain ⟨rfl, hZ, hh⟩ := hP
  have hx := Bd.exec
  have hby := Bd.bytes
  have hml : c.maxLocals = 3 := hml0
  have hown : s.vm.findClass "java/lang/Long" = some m.cls := findClass_of_methodNamed Bd.named
  have hnm := (name_of_methodNamed Bd.named Bd.method).1
  have X0 : Stand p l e ({ frames := 1, cells := 0, slots := 0, locals := 14 } : Room) s m #[(.long y)] below meth c s₁ [] 0 0 := Stand.of_body Bd
  have e0 : s₁.heap = h0 := by rw [← hh, Bd.state]; rfl
  have N0 := Fr.nil n0
  have pre0 : ∀ t, Sg p e below (s₁.setTop (mkF m 0 #[.val (.long y), .second, sU] [])) t → Steps p.tables e below (s₁.setTop (entryFrame m #[(.long y)] 3)) t := fun t k => castTop (ef_ntzj m y) k
  have P0 : ∀ t, Sg p e below (s₁.setTop (mkF m 0 #[.val (.long y), .second, sU] [])) t → Sg p e below (s₁.setTop (mkF m 0 #[.val (.long y), .second, sU] [])) t := fun t k => k
  obtain ⟨B0, pre0, P0⟩ : ∃ B : State, (∀ t, Steps p.tables e below B t → Steps p.tables e below (s₁.setTop (entryFrame m #[(.long y)] 3)) t) ∧ Rg p e below (s₁.setTop (mkF m 0 #[.val (.long y), .second, sU] [])) B := ⟨_, pre0, P0⟩
  have P1108 : Rg p e below (s₁.setTop (mkF m 4 #[.val (.long y), .second, .val (.int (y.toInt32))] [(.int (y.toInt32))])) B0 := fun t k => P0 t (by
    refine XS.lloadN X0.here hx rfl (hb hby dj35_49_0) rfl ?_
    refine XS.l2i X0.here hx rfl (hb hby dj35_49_1) rfl ?_
    refine XS.istoreN X0.here hx rfl (hb hby dj35_49_2) rfl (l' := #[.val (.long y), .second, .val (.int (y.toInt32))]) rfl ?_
    refine XS.iloadN X0.here hx rfl (hb hby dj35_49_3) rfl ?_
    show Sg p e below (s₁.setTop (mkF m 4 #[.val (.long y), .second, .val (.int (y.toInt32))] [(.int (y.toInt32))])) _
    exact k)
  by_cases q1109 : (y.toInt32) = (0 : Int32)
  · skip
    obtain ⟨_, _, ⟨T1110, L1110, k1110, n1110⟩, -, X1110, ⟨Lc1110, hQ1110, l1110, y1110, z1110⟩, st1110⟩ := Jvm.LawKit.callS X0 hx (y := (⟨"java/lang/Integer", "numberOfTrailingZeros", "(I)I"⟩ : MethodName)) hown (mvT hZ (own_hw hw 85 rfl)) (mvT hZ (own_hw hw 86 rfl)) (mvT hZ (own_hw hw 87 rfl)) (mvT hZ (own_hw hw 88 rfl)) (by decide) (backOf (W := 1) (rm_ntzi l Z a0 hw [] (((y.toUInt64 >>> ((32 : Int32) &&& 0x3f).toInt64.toUInt64).toInt64).toInt32) h0 n0 Z0 ) hZ (own_hw hw 88 rfl) (own_hw hw 87 rfl) (by decide) (by decide)) (g := (mkF m 14 #[.val (.long y), .second, .val (.int (y.toInt32))] [(.int (((y.toUInt64 >>> ((32 : Int32) &&& 0x3f).toInt64.toUInt64).toInt64).toInt32)), (.int (32 : Int32))])) rfl (by rw [hml]; rfl) (argsL := [(.int (((y.toUInt64 >>> ((32 : Int32) &&& 0x3f).toInt64.toUInt64).toInt64).toInt32))]) (rest := [(.int (32 : Int32))]) (lenOf pd__28I_29I rfl) rfl (by show 2 * 0 + _ ≤ _; exact Nat.le_of_eq rfl) (hb hby dj35_49_14) (fun _ _ => ⟨rfl, e0, (Nat.le_of_ble_eq_true rfl : 0 + 0 ≤ _), (Nat.le_of_ble_eq_true rfl : 0 + 0 ≤ _)⟩)
    dsimp only [Pt.U, Pt.locs, Pt.cells, Pt.slots] at X1110 l1110 y1110 z1110 st1110 hQ1110
    subst l1110 y1110 z1110
    obtain ⟨r1110, rfl, Nq1110, e1110, hr1110⟩ := hQ1110
    have N1111 := Fr.app N0 Nq1110
    have P1112 : Rg p e below (T1110.setTop (mkF m 17 #[.val (.long y), .second, .val (.int (y.toInt32))] [(.int r1110), (.int (32 : Int32))])) B0 := fun t k => P1108 t (by
      refine XS.ifNo X0.here hx rfl (hb hby dj35_49_4) rfl ((if0 _ _).trans (teq (show (y.toInt32) = (0 : Int32) from q1109)).2) ?_
      refine XS.bipush X0.here hx rfl (hb hby dj35_49_7) ?_
      refine XS.lloadN X0.here hx rfl (hb hby dj35_49_9) rfl ?_
      refine XS.bipush X0.here hx rfl (hb hby dj35_49_10) ?_
      refine XS.lushr X0.here hx rfl (hb hby dj35_49_12) rfl ?_
      refine XS.l2i X0.here hx rfl (hb hby dj35_49_13) rfl ?_
      show Sg p e below (s₁.setTop (mkF m 14 #[.val (.long y), .second, .val (.int (y.toInt32))] [(.int (((y.toUInt64 >>> ((32 : Int32) &&& 0x3f).toInt64.toUInt64).toInt64).toInt32)), (.int (32 : Int32))])) _
      exact st1110 _ k)
    subst hr1110
    obtain ⟨fs1113, hr1113, hrun1113, hended1113, hW1113, hsame1113⟩ := X1110.leave (v := some (.int ((32 : Int32) + (JP.Integer_numberOfTrailingZeros_I.val (((y.toUInt64 >>> ((32 : Int32) &&& 0x3f).toInt64.toUInt64).toInt64).toInt32))))) (fun h => by rw [Bd.returns] at h; cases h)
    refine ⟨_, _, pre0 _ (P1112 _ ?_), hrun1113, hended1113, _, _, rfl, ?_, ⟨⟨_, rfl⟩, hW1113, hsame1113.mono (Nat.le_of_ble_eq_true rfl) (Nat.le_of_ble_eq_true rfl)⟩⟩
    · show Sg p e below (T1110.setTop (mkF m 17 #[.val (.long y), .second, .val (.int (y.toInt32))] [(.int (JP.Integer_numberOfTrailingZeros_I.val (((y.toUInt64 >>> ((32 : Int32) &&& 0x3f).toInt64.toUInt64).toInt64).toInt32))), (.int (32 : Int32))])) _
      refine XS.iadd X1110.here hx rfl (hb hby dj35_49_17) rfl ?_
      refine XS.goto X1110.here hx rfl (pc0 := 18) (pc' := 25) rfl (hb hby dj35_49_18) (by decide) (by decide) ?_
      show Sg p e below (T1110.setTop (mkF m 25 #[.val (.long y), .second, .val (.int (y.toInt32))] [(.int ((32 : Int32) + (JP.Integer_numberOfTrailingZeros_I.val (((y.toUInt64 >>> ((32 : Int32) &&& 0x3f).toInt64.toUInt64).toInt64).toInt32))))])) _
      exact retI X1110 hx Bd.returns (hb hby dj35_49_25) hr1113
    · show Q_ntzj y h0 n0 _ T1110.heap _
      rw [e1110]
      exact ⟨_, rfl, N1111, rfl, ((if_pos q1109).trans (rfl)).symm⟩
  · skip
    obtain ⟨_, _, ⟨T1114, L1114, k1114, n1114⟩, -, X1114, ⟨Lc1114, hQ1114, l1114, y1114, z1114⟩, st1114⟩ := Jvm.LawKit.callS X0 hx (y := (⟨"java/lang/Integer", "numberOfTrailingZeros", "(I)I"⟩ : MethodName)) hown (mvT hZ (own_hw hw 85 rfl)) (mvT hZ (own_hw hw 86 rfl)) (mvT hZ (own_hw hw 87 rfl)) (mvT hZ (own_hw hw 88 rfl)) (by decide) (backOf (W := 0) (rm_ntzi l Z a0 hw [] (y.toInt32) h0 n0 Z0 ) hZ (own_hw hw 88 rfl) (own_hw hw 87 rfl) (by decide) (by decide)) (g := (mkF m 22 #[.val (.long y), .second, .val (.int (y.toInt32))] [(.int (y.toInt32))])) rfl (by rw [hml]; rfl) (argsL := [(.int (y.toInt32))]) (rest := []) (lenOf pd__28I_29I rfl) rfl (by show 2 * 0 + _ ≤ _; exact Nat.le_of_eq rfl) (hb hby dj35_49_22) (fun _ _ => ⟨rfl, e0, (Nat.le_of_ble_eq_true rfl : 0 + 0 ≤ _), (Nat.le_of_ble_eq_true rfl : 0 + 0 ≤ _)⟩)
    dsimp only [Pt.U, Pt.locs, Pt.cells, Pt.slots] at X1114 l1114 y1114 z1114 st1114 hQ1114
    subst l1114 y1114 z1114
    obtain ⟨r1114, rfl, Nq1114, e1114, hr1114⟩ := hQ1114
    have N1115 := Fr.app N0 Nq1114
    have P1116 : Rg p e below (T1114.setTop (mkF m 25 #[.val (.long y), .second, .val (.int (y.toInt32))] [(.int r1114)])) B0 := fun t k => P1108 t (by
      refine XS.ifYes X0.here hx rfl (pc0 := 4) (pc' := 21) rfl (hb hby dj35_49_4) rfl ((if0 _ _).trans (feq (show ¬ ((y.toInt32) = (0 : Int32)) from q1109)).2) (by decide) (by decide) ?_
      refine XS.iloadN X0.here hx rfl (hb hby dj35_49_21) rfl ?_
      show Sg p e below (s₁.setTop (mkF m 22 #[.val (.long y), .second, .val (.int (y.toInt32))] [(.int (y.toInt32))])) _
      exact st1114 _ k)
    subst hr1114
    obtain ⟨fs1117, hr1117, hrun1117, hended1117, hW1117, hsame1117⟩ := X1114.leave (v := some (.int (JP.Integer_numberOfTrailingZeros_I.val (y.toInt32)))) (fun h => by rw [Bd.returns] at h; cases h)
    refine ⟨_, _, pre0 _ (P1116 _ ?_), hrun1117, hended1117, _, _, rfl, ?_, ⟨⟨_, rfl⟩, hW1117, hsame1117.mono (Nat.le_of_ble_eq_true rfl) (Nat.le_of_ble_eq_true rfl)⟩⟩
    · show Sg p e below (T1114.setTop (mkF m 25 #[.val (.long y), .second, .val (.int (y.toInt32))] [(.int (JP.Integer_numberOfTrailingZeros_I.val (y.toInt32)))])) _
      exact retI X1114 hx Bd.returns (hb hby dj35_49_25) hr1117
    · show Q_ntzj y h0 n0 _ T1114.heap _
      rw [e1114]
      exact ⟨_, rfl, N1115, rfl, ((if_neg q1109).trans (rfl)).symm⟩
theorem dp22_4_50 : decode prog_22_method_4_code 50 = .ok (.lload 7, 2) := by decide +kernel
theorem dp22_4_52 : decode prog_22_method_4_code 52 = .ok (.lconst 0, 1) := by decide +kernel
theorem dp22_4_53 : decode prog_22_method_4_code 53 = .ok (.lcmp, 1) := by decide +kernel
theorem dp22_4_54 : decode prog_22_method_4_code 54 = .ok (.ifCond .eq 36, 3) := by decide +kernel
theorem dp22_4_57 : decode prog_22_method_4_code 57 = .ok (.aload 4, 2) := by decide +kernel
theorem dp22_4_59 : decode prog_22_method_4_code 59 = .ok (.iload 5, 2) := by decide +kernel
theorem dp22_4_61 : decode prog_22_method_4_code 61 = .ok (.iinc 5 1, 3) := by decide +kernel
theorem dp22_4_64 : decode prog_22_method_4_code 64 = .ok (.aload_n 0, 1) := by decide +kernel
theorem dp22_4_65 : decode prog_22_method_4_code 65 = .ok (.iload 6, 2) := by decide +kernel
theorem dp22_4_67 : decode prog_22_method_4_code 67 = .ok (.iaload, 1) := by decide +kernel
theorem dp22_4_68 : decode prog_22_method_4_code 68 = .ok (.bipush 6, 2) := by decide +kernel
theorem dp22_4_70 : decode prog_22_method_4_code 70 = .ok (.ishl, 1) := by decide +kernel
theorem dp22_4_71 : decode prog_22_method_4_code 71 = .ok (.lload 7, 2) := by decide +kernel
theorem dp22_4_73 : decode prog_22_method_4_code 73 = .ok (.invokestatic 39, 3) := by decide +kernel
theorem pd__28J_29I : parseMethodDescriptor "(J)I" = some ⟨[.long], some .int⟩ := by decide +kernel
theorem dp22_4_76 : decode prog_22_method_4_code 76 = .ok (.ior, 1) := by decide +kernel
theorem dp22_4_77 : decode prog_22_method_4_code 77 = .ok (.iastore, 1) := by decide +kernel
theorem dp22_4_78 : decode prog_22_method_4_code 78 = .ok (.lload 7, 2) := by decide +kernel
theorem dp22_4_80 : decode prog_22_method_4_code 80 = .ok (.lload 7, 2) := by decide +kernel
theorem dp22_4_82 : decode prog_22_method_4_code 82 = .ok (.lconst 1, 1) := by decide +kernel
theorem dp22_4_83 : decode prog_22_method_4_code 83 = .ok (.lsub, 1) := by decide +kernel
theorem dp22_4_84 : decode prog_22_method_4_code 84 = .ok (.land, 1) := by decide +kernel
theorem dp22_4_85 : decode prog_22_method_4_code 85 = .ok (.lstore 7, 2) := by decide +kernel
theorem dp22_4_87 : decode prog_22_method_4_code 87 = .ok (.goto (-37), 3) := by decide +kernel
set_option maxRecDepth 65536 in
set_option maxHeartbeats 40000000 in
theorem pc_turn {p : Program} {l : Launch} {e : Env} {R : Room} {s : State} {m : MethodId} {args : Array Value} {below : List Frame} {meth : Method} {c : Code} {T0 : State} {locs : List Loc} {cells slots : Nat} {Z : State} {a0 : Array Value} {h0 : Heap} {n0 : Nat} (P W ar : Addr) (kP kA : ClassId) (M cn sz N nx iv px : Int32) (vsP : List Value) (out : List Int32) (tot : Nat) (y y2 : Int64) (a : Int32) (X0 : Stand p l e R s m args below meth c T0 locs cells slots) (hx : p.tables.exec = Jvm.exec) (hZ : Z.Warmed39 s.vm) (hw : ∀ d ∈ tables_1, d.before a0 Z = true) (hby : c.code = prog_22_method_4_code) (hml : c.maxLocals = 9) (hown : s.vm.findClass "com/example/whittle/whittle/engine/WordSets" = some m.cls) (e0 : T0.heap = h0) (N0 : Fr n0 locs) (Z0 : n0 ≤ h0.size) (hcc : cells + 0 ≤ R.cells) (hcs : slots + 0 ≤ R.slots) (hfr : 2 ≤ R.frames) (hlo : 31 ≤ R.locals) (g_ar : n0 ≤ ar) (AP : Arv Z h0 P kP .int M vsP (.int (0 : Int32))) (hiv : ¬ iv < 0 ∧ iv < M) (hpx : vsP.getD iv.toNatClampNeg (.int (0 : Int32)) = .int px) (AR : Arv Z h0 ar kA .int N (out.map Value.int) (.int (0 : Int32))) (hN : N = Int32.ofNat tot) (ht : tot ≤ 3) (hnx : nx = Int32.ofNat out.length) (nPa : P ≠ ar) (hlt : out.length < tot) (nz : ¬ y = (0 : Int64)) (tz : JP.Long_numberOfTrailingZeros_J.val y = own_lo a) (rc : (px <<< ((6 : Int32) &&& 31)) ||| own_lo a = a) (hy : y2 = y &&& (y - (1 : Int64))) :
    ∃ (T' : State) (h' : Heap) (locs' : List Loc), Stand p l e R s m args below meth c T' locs' (cells + 0) (slots + 0) ∧ T'.heap = h' ∧ Fr n0 locs' ∧ Keep h0 h' [ar] ∧ Arv Z h' ar kA .int N ((out ++ [a]).map Value.int) (.int (0 : Int32)) ∧ ∀ t, Sg p e below (T'.setTop (mkF m 50 #[sR P, sR W, sI cn, sI sz, sR ar, .val (.int (nx + (1 : Int32))), sI iv, .val (.long y2), .second] [])) t → Sg p e below (T0.setTop (mkF m 50 #[sR P, sR W, sI cn, sI sz, sR ar, sI nx, sI iv, .val (.long y), .second] [])) t := by
  have P0 : ∀ t, Sg p e below (T0.setTop (mkF m 50 #[sR P, sR W, sI cn, sI sz, sR ar, sI nx, sI iv, .val (.long y), .second] [])) t → Sg p e below (T0.setTop (mkF m 50 #[sR P, sR W, sI cn, sI sz, sR ar, sI nx, sI iv, .val (.long y), .second] [])) t := fun t k => k
  obtain ⟨cl1118, Ar1118, -, S1118, N1118, H1118, -⟩ := id AP
  have hin1118 : ¬ (iv < 0 ∨ cl1118.slots.size ≤ (iv).toNatClampNeg) := inb_of S1118 hiv
  obtain ⟨_, _, ⟨T1119, L1119, k1119, n1119⟩, -, X1119, ⟨Lc1119, hQ1119, l1119, y1119, z1119⟩, st1119⟩ := Jvm.LawKit.callS X0 hx (y := (⟨"java/lang/Long", "numberOfTrailingZeros", "(J)I"⟩ : MethodName)) hown (mvT hZ (own_hw hw 82 rfl)) (mvT hZ (own_hw hw 83 rfl)) (mvT hZ (own_hw hw 77 rfl)) (mvT hZ (own_hw hw 84 rfl)) (by decide) (backOf (W := 3) (rm_ntzj l Z a0 hw [] y h0 n0 Z0 ) hZ (own_hw hw 84 rfl) (own_hw hw 77 rfl) (Nat.le_trans (Nat.le_of_ble_eq_true rfl) hfr) (Nat.le_trans (Nat.le_of_ble_eq_true rfl) hlo)) (g := (mkF m 73 #[sR P, sR W, sI cn, sI sz, sR ar, .val (.int (nx + (1 : Int32))), sI iv, .val (.long y), .second] [(.long y), (.int (px <<< ((6 : Int32) &&& 31))), (.int nx), (.ref ar)])) rfl (by rw [hml]; rfl) (argsL := [(.long y)]) (rest := [(.int (px <<< ((6 : Int32) &&& 31))), (.int nx), (.ref ar)]) (lenOf pd__28J_29I rfl) rfl (by show 2 * 0 + _ ≤ _; exact Nat.le_of_eq rfl) (hb hby dp22_4_73) (fun _ _ => ⟨rfl, e0, (by omega : cells + 0 + 0 ≤ R.cells), (by omega : slots + 0 + 0 ≤ R.slots)⟩)
  dsimp only [Pt.U, Pt.locs, Pt.cells, Pt.slots] at X1119 l1119 y1119 z1119 st1119 hQ1119
  subst l1119 y1119 z1119
  obtain ⟨r1119, rfl, Nq1119, e1119, hr1119⟩ := hQ1119
  have N1120 := Fr.app N0 Nq1119
  have P1121 : ∀ t, Sg p e below (T1119.setTop (mkF m 76 #[sR P, sR W, sI cn, sI sz, sR ar, .val (.int (nx + (1 : Int32))), sI iv, .val (.long y), .second] [(.int r1119), (.int (px <<< ((6 : Int32) &&& 31))), (.int nx), (.ref ar)])) t → Sg p e below (T0.setTop (mkF m 50 #[sR P, sR W, sI cn, sI sz, sR ar, sI nx, sI iv, .val (.long y), .second] [])) t := fun t k => P0 t (by
    refine XS.lload X0.here hx rfl (hb hby dp22_4_50) rfl ?_
    refine XS.lconst X0.here hx rfl (hb hby dp22_4_52) ?_
    refine XS.lcmp X0.here hx rfl (hb hby dp22_4_53) rfl ?_
    refine XS.ifNo X0.here hx rfl (hb hby dp22_4_54) rfl (XT.ll_eq_f (show ¬ (y = (0 : Int64)) from nz)) ?_
    refine XS.aload X0.here hx rfl (hb hby dp22_4_57) rfl rfl ?_
    refine XS.iload X0.here hx rfl (hb hby dp22_4_59) rfl ?_
    refine XS.iinc X0.here hx rfl (hb hby dp22_4_61) rfl (l' := #[sR P, sR W, sI cn, sI sz, sR ar, .val (.int (nx + (1 : Int32))), sI iv, .val (.long y), .second]) rfl ?_
    refine XS.aloadN X0.here hx rfl (hb hby dp22_4_64) rfl rfl ?_
    refine XS.iload X0.here hx rfl (hb hby dp22_4_65) rfl ?_
    show Sg p e below (T0.setTop (mkF m 67 #[sR P, sR W, sI cn, sI sz, sR ar, .val (.int (nx + (1 : Int32))), sI iv, .val (.long y), .second] [(.int iv), (.ref P), (.int nx), (.ref ar)])) _
    refine X0.iaload hx (j := iv) (v := (.int px)) (by rw [e0]; exact Ar1118.1) (State.isArrayOf_alike hZ.alike Ar1118.2.1) Ar1118.2.2 hin1118 (H1118.at hin1118 hpx) (g := (mkF m 67 #[sR P, sR W, sI cn, sI sz, sR ar, .val (.int (nx + (1 : Int32))), sI iv, .val (.long y), .second] [(.int iv), (.ref P), (.int nx), (.ref ar)])) rfl rfl (hb hby dp22_4_67) _ ?_
    show Sg p e below (T0.setTop (mkF m 68 #[sR P, sR W, sI cn, sI sz, sR ar, .val (.int (nx + (1 : Int32))), sI iv, .val (.long y), .second] [(.int px), (.int nx), (.ref ar)])) _
    refine XS.bipush X0.here hx rfl (hb hby dp22_4_68) ?_
    refine XS.ishl X0.here hx rfl (hb hby dp22_4_70) rfl ?_
    refine XS.lload X0.here hx rfl (hb hby dp22_4_71) rfl ?_
    show Sg p e below (T0.setTop (mkF m 73 #[sR P, sR W, sI cn, sI sz, sR ar, .val (.int (nx + (1 : Int32))), sI iv, .val (.long y), .second] [(.long y), (.int (px <<< ((6 : Int32) &&& 31))), (.int nx), (.ref ar)])) _
    exact st1119 _ k)
  have hq1119 : r1119 = own_lo a := hr1119.trans tz
  subst hq1119
  obtain ⟨cl1122, Ar1122, q1122, S1122, N1122, H1122, G1122⟩ := Arv.pad AR (own_padl out)
  obtain ⟨T1122, h1122, X1122, e1122, W1122, st1122⟩ := stI X1119 hx hZ e1119 Ar1122 (j := nx) (inb_of S1122 (own_inb2 hN ht hnx hlt)) (g := (mkF m 77 #[sR P, sR W, sI cn, sI sz, sR ar, .val (.int (nx + (1 : Int32))), sI iv, .val (.long y), .second] [(.int ((px <<< ((6 : Int32) &&& 31)) ||| (own_lo a))), (.int nx), (.ref ar)])) rfl rfl (hb hby dp22_4_77)
  have v1123 : Arv Z h1122 ar kA .int N ((out ++ [((px <<< ((6 : Int32) &&& 31)) ||| (own_lo a))]).map Value.int) (.int (0 : Int32)) := own_setl out ((px <<< ((6 : Int32) &&& 31)) ||| (own_lo a)) ▸ Arv.set Ar1122 q1122 S1122 N1122 H1122 G1122 rfl W1122 out.length (own_nxn hnx ht hlt) (own_ltl out)
  have P1124 : ∀ t, Sg p e below (T1122.setTop (mkF m 78 #[sR P, sR W, sI cn, sI sz, sR ar, .val (.int (nx + (1 : Int32))), sI iv, .val (.long y), .second] [])) t → Sg p e below (T0.setTop (mkF m 50 #[sR P, sR W, sI cn, sI sz, sR ar, sI nx, sI iv, .val (.long y), .second] [])) t := fun t k => P1121 t (by
    refine XS.ior X1119.here hx rfl (hb hby dp22_4_76) rfl ?_
    show Sg p e below (T1119.setTop (mkF m 77 #[sR P, sR W, sI cn, sI sz, sR ar, .val (.int (nx + (1 : Int32))), sI iv, .val (.long y), .second] [(.int ((px <<< ((6 : Int32) &&& 31)) ||| (own_lo a))), (.int nx), (.ref ar)])) _
    exact st1122 _ k)
  have N1125 := Fr.snoc X1122 N1120 g_ar
  have Z1126 : n0 ≤ h1122.size := Nat.le_trans Z0 (Keep.of_wr W1122).1
  have K1127 : Keep h0 h1122 [ar] := (Keep.refl h0 [ar]).wr W1122 (Or.inl (List.mem_of_getElem? (i := 0) rfl))
  have P1128 : ∀ t, Sg p e below (T1122.setTop (mkF m 85 #[sR P, sR W, sI cn, sI sz, sR ar, .val (.int (nx + (1 : Int32))), sI iv, .val (.long y), .second] [(.long (y &&& (y - (1 : Int64))))])) t → Sg p e below (T0.setTop (mkF m 50 #[sR P, sR W, sI cn, sI sz, sR ar, sI nx, sI iv, .val (.long y), .second] [])) t := fun t k => P1124 t (by
    refine XS.lload X1122.here hx rfl (hb hby dp22_4_78) rfl ?_
    refine XS.lload X1122.here hx rfl (hb hby dp22_4_80) rfl ?_
    refine XS.lconst X1122.here hx rfl (hb hby dp22_4_82) ?_
    refine XS.lsub X1122.here hx rfl (hb hby dp22_4_83) rfl ?_
    refine XS.land X1122.here hx rfl (hb hby dp22_4_84) rfl ?_
    show Sg p e below (T1122.setTop (mkF m 85 #[sR P, sR W, sI cn, sI sz, sR ar, .val (.int (nx + (1 : Int32))), sI iv, .val (.long y), .second] [(.long (y &&& (y - (1 : Int64))))])) _
    exact k)
  have P1129 : ∀ t, Sg p e below (T1122.setTop (mkF m 85 #[sR P, sR W, sI cn, sI sz, sR ar, .val (.int (nx + (1 : Int32))), sI iv, .val (.long y), .second] [(.long y2)])) t → Sg p e below (T0.setTop (mkF m 50 #[sR P, sR W, sI cn, sI sz, sR ar, sI nx, sI iv, .val (.long y), .second] [])) t := fun t k => P1128 t (by rw [hy] at k; exact k)
  have P1130 : ∀ t, Sg p e below (T1122.setTop (mkF m 50 #[sR P, sR W, sI cn, sI sz, sR ar, .val (.int (nx + (1 : Int32))), sI iv, .val (.long y2), .second] [])) t → Sg p e below (T0.setTop (mkF m 50 #[sR P, sR W, sI cn, sI sz, sR ar, sI nx, sI iv, .val (.long y), .second] [])) t := fun t k => P1129 t (by
    refine XS.lstore X1122.here hx rfl (hb hby dp22_4_85) rfl (l' := #[sR P, sR W, sI cn, sI sz, sR ar, .val (.int (nx + (1 : Int32))), sI iv, .val (.long y2), .second]) rfl ?_
    refine XS.goto X1122.here hx rfl (pc0 := 87) (pc' := 50) rfl (hb hby dp22_4_87) (by decide) (by decide) ?_
    show Sg p e below (T1122.setTop (mkF m 50 #[sR P, sR W, sI cn, sI sz, sR ar, .val (.int (nx + (1 : Int32))), sI iv, .val (.long y2), .second] [])) _
    exact k)
  exact ⟨T1122, h1122, _, X1122.more (by omega) (by omega), e1122, N1125, K1127, (rc ▸ v1123), P1130⟩
set_option maxRecDepth 65536 in
set_option maxHeartbeats 40000000 in
theorem pc_grp {p : Program} {l : Launch} {e : Env} {R : Room} {s : State} {m : MethodId} {args : Array Value} {below : List Frame} {meth : Method} {c : Code} {T0 : State} {locs : List Loc} {cells slots : Nat} {Z : State} {a0 : Array Value} {h0 : Heap} {n0 : Nat} (P W ar : Addr) (kP kA : ClassId) (M cn sz N nx iv px : Int32) (vsP : List Value) (out : List Int32) (tot : Nat) (y : Int64) (g : List Int32) (X0 : Stand p l e R s m args below meth c T0 locs cells slots) (hx : p.tables.exec = Jvm.exec) (hZ : Z.Warmed39 s.vm) (hw : ∀ d ∈ tables_1, d.before a0 Z = true) (hby : c.code = prog_22_method_4_code) (hml : c.maxLocals = 9) (hown : s.vm.findClass "com/example/whittle/whittle/engine/WordSets" = some m.cls) (e0 : T0.heap = h0) (N0 : Fr n0 locs) (Z0 : n0 ≤ h0.size) (hcc : cells + 0 ≤ R.cells) (hcs : slots + 0 ≤ R.slots) (hfr : 2 ≤ R.frames) (hlo : 31 ≤ R.locals) (g_ar : n0 ≤ ar) (AP : Arv Z h0 P kP .int M vsP (.int (0 : Int32))) (hiv : ¬ iv < 0 ∧ iv < M) (hpx : vsP.getD iv.toNatClampNeg (.int (0 : Int32)) = .int px) (AR : Arv Z h0 ar kA .int N (out.map Value.int) (.int (0 : Int32))) (hN : N = Int32.ofNat tot) (ht : tot ≤ 3) (hnx : nx = Int32.ofNat out.length) (nPa : P ≠ ar) (hlt : out.length + g.length ≤ tot) (hwy : y = own_w g) (hok : own_Ok px g) :
    ∃ (T' : State) (h' : Heap) (locs' : List Loc) (nx2 : Int32), Stand p l e R s m args below meth c T' locs' (cells + 0) (slots + 0) ∧ T'.heap = h' ∧ Fr n0 locs' ∧ Keep h0 h' [ar] ∧ nx2 = Int32.ofNat (out ++ g).length ∧ Arv Z h' ar kA .int N ((out ++ g).map Value.int) (.int (0 : Int32)) ∧ ∀ t, Sg p e below (T'.setTop (mkF m 50 #[sR P, sR W, sI cn, sI sz, sR ar, sI nx2, sI iv, .val (.long (0 : Int64)), .second] [])) t → Sg p e below (T0.setTop (mkF m 50 #[sR P, sR W, sI cn, sI sz, sR ar, sI nx, sI iv, .val (.long y), .second] [])) t := by
  have P0 : ∀ t, Sg p e below (T0.setTop (mkF m 50 #[sR P, sR W, sI cn, sI sz, sR ar, sI nx, sI iv, .val (.long y), .second] [])) t → Sg p e below (T0.setTop (mkF m 50 #[sR P, sR W, sI cn, sI sz, sR ar, sI nx, sI iv, .val (.long y), .second] [])) t := fun t k => k
  have hg3 : g.length ≤ 3 := by omega
  rcases g with _ | ⟨x0, _ | ⟨x1, _ | ⟨x2, _ | ⟨x3, g⟩⟩⟩⟩
  · skip
    have zz : y = (0 : Int64) := hwy
    subst zz
    have AR9 : Arv Z h0 ar kA .int N ((out ++ []).map Value.int) (.int (0 : Int32)) := by simpa using AR
    have hn9 : nx = Int32.ofNat (out ++ []).length := by simpa using hnx
    exact ⟨T0, h0, _, nx, X0.more (by omega) (by omega), e0, N0, (Keep.refl h0 [ar]), hn9, AR9, P0⟩
  · skip
    obtain ⟨-, nz0, tz0, rc0, y_0, hy0, hw0, ho0⟩ := own_f1 hwy hok
    obtain ⟨T1131, h1131, L1131, X1131, e1131, Nq1131, K1131, u1131_0, st1131⟩ := pc_turn P W ar kP kA M cn sz N nx iv px vsP out tot y y_0 x0 X0 hx hZ hw hby hml hown e0 N0 Z0 (by omega) (by omega) (Nat.le_trans (Nat.le_of_ble_eq_true rfl) hfr) (Nat.le_trans (Nat.le_of_ble_eq_true rfl) hlo) g_ar AP hiv hpx AR hN ht hnx nPa (by simp only [List.length_append, List.length_cons, List.length_nil] at *; omega) nz0 tz0 rc0 hy0
    have P1132 : ∀ t, Sg p e below (T1131.setTop (mkF m 50 #[sR P, sR W, sI cn, sI sz, sR ar, .val (.int (nx + (1 : Int32))), sI iv, .val (.long y_0), .second] [])) t → Sg p e below (T0.setTop (mkF m 50 #[sR P, sR W, sI cn, sI sz, sR ar, sI nx, sI iv, .val (.long y), .second] [])) t := fun t k => P0 t (by
      exact st1131 _ k)
    have Z1133 : n0 ≤ h1131.size := Nat.le_trans Z0 K1131.1
    have K1134 : Keep h0 h1131 [ar] := (Keep.refl h0 [ar]).trans K1131 ((allS (Or.inl (List.mem_of_getElem? (i := 0) rfl)) all0))
    have hnx1131 : (nx + (1 : Int32)) = Int32.ofNat (out ++ [x0]).length := own_nxs hnx
    have zz : y_0 = (0 : Int64) := hw0
    subst zz
    have AR9 : Arv Z h1131 ar kA .int N ((out ++ [x0]).map Value.int) (.int (0 : Int32)) := by simpa using u1131_0
    have hn9 : (nx + (1 : Int32)) = Int32.ofNat (out ++ [x0]).length := by simpa using hnx1131
    exact ⟨T1131, h1131, _, (nx + (1 : Int32)), X1131.more (by omega) (by omega), e1131, Nq1131, K1134, hn9, AR9, P1132⟩
  · skip
    obtain ⟨-, nz0, tz0, rc0, y_0, hy0, hw0, ho0⟩ := own_f2 hwy hok
    obtain ⟨T1135, h1135, L1135, X1135, e1135, Nq1135, K1135, u1135_0, st1135⟩ := pc_turn P W ar kP kA M cn sz N nx iv px vsP out tot y y_0 x0 X0 hx hZ hw hby hml hown e0 N0 Z0 (by omega) (by omega) (Nat.le_trans (Nat.le_of_ble_eq_true rfl) hfr) (Nat.le_trans (Nat.le_of_ble_eq_true rfl) hlo) g_ar AP hiv hpx AR hN ht hnx nPa (by simp only [List.length_append, List.length_cons, List.length_nil] at *; omega) nz0 tz0 rc0 hy0
    have P1136 : ∀ t, Sg p e below (T1135.setTop (mkF m 50 #[sR P, sR W, sI cn, sI sz, sR ar, .val (.int (nx + (1 : Int32))), sI iv, .val (.long y_0), .second] [])) t → Sg p e below (T0.setTop (mkF m 50 #[sR P, sR W, sI cn, sI sz, sR ar, sI nx, sI iv, .val (.long y), .second] [])) t := fun t k => P0 t (by
      exact st1135 _ k)
    have Z1137 : n0 ≤ h1135.size := Nat.le_trans Z0 K1135.1
    have K1138 : Keep h0 h1135 [ar] := (Keep.refl h0 [ar]).trans K1135 ((allS (Or.inl (List.mem_of_getElem? (i := 0) rfl)) all0))
    have hnx1135 : (nx + (1 : Int32)) = Int32.ofNat (out ++ [x0]).length := own_nxs hnx
    obtain ⟨-, nz1, tz1, rc1, y_1, hy1, hw1, ho1⟩ := own_f1 hw0 ho0
    have f1139 := (AP.keep K1135 (ninS nPa nin0))
    obtain ⟨T1140, h1140, L1140, X1140, e1140, Nq1140, K1140, u1140_0, st1140⟩ := pc_turn P W ar kP kA M cn sz N (nx + (1 : Int32)) iv px vsP (out ++ [x0]) tot y_0 y_1 x1 X1135 hx hZ hw hby hml hown e1135 Nq1135 Z1137 (by omega) (by omega) (Nat.le_trans (Nat.le_of_ble_eq_true rfl) hfr) (Nat.le_trans (Nat.le_of_ble_eq_true rfl) hlo) g_ar f1139 hiv hpx u1135_0 hN ht hnx1135 nPa (by simp only [List.length_append, List.length_cons, List.length_nil] at *; omega) nz1 tz1 rc1 hy1
    have P1141 : ∀ t, Sg p e below (T1140.setTop (mkF m 50 #[sR P, sR W, sI cn, sI sz, sR ar, .val (.int ((nx + (1 : Int32)) + (1 : Int32))), sI iv, .val (.long y_1), .second] [])) t → Sg p e below (T0.setTop (mkF m 50 #[sR P, sR W, sI cn, sI sz, sR ar, sI nx, sI iv, .val (.long y), .second] [])) t := fun t k => P1136 t (by
      exact st1140 _ k)
    have Z1142 : n0 ≤ h1140.size := Nat.le_trans Z1137 K1140.1
    have K1143 : Keep h0 h1140 [ar] := K1138.trans K1140 ((allS (Or.inl (List.mem_of_getElem? (i := 0) rfl)) all0))
    have hnx1140 : ((nx + (1 : Int32)) + (1 : Int32)) = Int32.ofNat ((out ++ [x0]) ++ [x1]).length := own_nxs hnx1135
    have zz : y_1 = (0 : Int64) := hw1
    subst zz
    have AR9 : Arv Z h1140 ar kA .int N ((out ++ [x0, x1]).map Value.int) (.int (0 : Int32)) := by simpa using u1140_0
    have hn9 : ((nx + (1 : Int32)) + (1 : Int32)) = Int32.ofNat (out ++ [x0, x1]).length := by simpa using hnx1140
    exact ⟨T1140, h1140, _, ((nx + (1 : Int32)) + (1 : Int32)), X1140.more (by omega) (by omega), e1140, Nq1140, K1143, hn9, AR9, P1141⟩
  · skip
    obtain ⟨-, nz0, tz0, rc0, y_0, hy0, hw0, ho0⟩ := own_f3 hwy hok
    obtain ⟨T1144, h1144, L1144, X1144, e1144, Nq1144, K1144, u1144_0, st1144⟩ := pc_turn P W ar kP kA M cn sz N nx iv px vsP out tot y y_0 x0 X0 hx hZ hw hby hml hown e0 N0 Z0 (by omega) (by omega) (Nat.le_trans (Nat.le_of_ble_eq_true rfl) hfr) (Nat.le_trans (Nat.le_of_ble_eq_true rfl) hlo) g_ar AP hiv hpx AR hN ht hnx nPa (by simp only [List.length_append, List.length_cons, List.length_nil] at *; omega) nz0 tz0 rc0 hy0
    have P1145 : ∀ t, Sg p e below (T1144.setTop (mkF m 50 #[sR P, sR W, sI cn, sI sz, sR ar, .val (.int (nx + (1 : Int32))), sI iv, .val (.long y_0), .second] [])) t → Sg p e below (T0.setTop (mkF m 50 #[sR P, sR W, sI cn, sI sz, sR ar, sI nx, sI iv, .val (.long y), .second] [])) t := fun t k => P0 t (by
      exact st1144 _ k)
    have Z1146 : n0 ≤ h1144.size := Nat.le_trans Z0 K1144.1
    have K1147 : Keep h0 h1144 [ar] := (Keep.refl h0 [ar]).trans K1144 ((allS (Or.inl (List.mem_of_getElem? (i := 0) rfl)) all0))
    have hnx1144 : (nx + (1 : Int32)) = Int32.ofNat (out ++ [x0]).length := own_nxs hnx
    obtain ⟨-, nz1, tz1, rc1, y_1, hy1, hw1, ho1⟩ := own_f2 hw0 ho0
    have f1148 := (AP.keep K1144 (ninS nPa nin0))
    obtain ⟨T1149, h1149, L1149, X1149, e1149, Nq1149, K1149, u1149_0, st1149⟩ := pc_turn P W ar kP kA M cn sz N (nx + (1 : Int32)) iv px vsP (out ++ [x0]) tot y_0 y_1 x1 X1144 hx hZ hw hby hml hown e1144 Nq1144 Z1146 (by omega) (by omega) (Nat.le_trans (Nat.le_of_ble_eq_true rfl) hfr) (Nat.le_trans (Nat.le_of_ble_eq_true rfl) hlo) g_ar f1148 hiv hpx u1144_0 hN ht hnx1144 nPa (by simp only [List.length_append, List.length_cons, List.length_nil] at *; omega) nz1 tz1 rc1 hy1
    have P1150 : ∀ t, Sg p e below (T1149.setTop (mkF m 50 #[sR P, sR W, sI cn, sI sz, sR ar, .val (.int ((nx + (1 : Int32)) + (1 : Int32))), sI iv, .val (.long y_1), .second] [])) t → Sg p e below (T0.setTop (mkF m 50 #[sR P, sR W, sI cn, sI sz, sR ar, sI nx, sI iv, .val (.long y), .second] [])) t := fun t k => P1145 t (by
      exact st1149 _ k)
    have Z1151 : n0 ≤ h1149.size := Nat.le_trans Z1146 K1149.1
    have K1152 : Keep h0 h1149 [ar] := K1147.trans K1149 ((allS (Or.inl (List.mem_of_getElem? (i := 0) rfl)) all0))
    have hnx1149 : ((nx + (1 : Int32)) + (1 : Int32)) = Int32.ofNat ((out ++ [x0]) ++ [x1]).length := own_nxs hnx1144
    obtain ⟨-, nz2, tz2, rc2, y_2, hy2, hw2, ho2⟩ := own_f1 hw1 ho1
    have f1153 := (f1148.keep K1149 (ninS nPa nin0))
    obtain ⟨T1154, h1154, L1154, X1154, e1154, Nq1154, K1154, u1154_0, st1154⟩ := pc_turn P W ar kP kA M cn sz N ((nx + (1 : Int32)) + (1 : Int32)) iv px vsP ((out ++ [x0]) ++ [x1]) tot y_1 y_2 x2 X1149 hx hZ hw hby hml hown e1149 Nq1149 Z1151 (by omega) (by omega) (Nat.le_trans (Nat.le_of_ble_eq_true rfl) hfr) (Nat.le_trans (Nat.le_of_ble_eq_true rfl) hlo) g_ar f1153 hiv hpx u1149_0 hN ht hnx1149 nPa (by simp only [List.length_append, List.length_cons, List.length_nil] at *; omega) nz2 tz2 rc2 hy2
    have P1155 : ∀ t, Sg p e below (T1154.setTop (mkF m 50 #[sR P, sR W, sI cn, sI sz, sR ar, .val (.int (((nx + (1 : Int32)) + (1 : Int32)) + (1 : Int32))), sI iv, .val (.long y_2), .second] [])) t → Sg p e below (T0.setTop (mkF m 50 #[sR P, sR W, sI cn, sI sz, sR ar, sI nx, sI iv, .val (.long y), .second] [])) t := fun t k => P1150 t (by
      exact st1154 _ k)
    have Z1156 : n0 ≤ h1154.size := Nat.le_trans Z1151 K1154.1
    have K1157 : Keep h0 h1154 [ar] := K1152.trans K1154 ((allS (Or.inl (List.mem_of_getElem? (i := 0) rfl)) all0))
    have hnx1154 : (((nx + (1 : Int32)) + (1 : Int32)) + (1 : Int32)) = Int32.ofNat (((out ++ [x0]) ++ [x1]) ++ [x2]).length := own_nxs hnx1149
    have zz : y_2 = (0 : Int64) := hw2
    subst zz
    have AR9 : Arv Z h1154 ar kA .int N ((out ++ [x0, x1, x2]).map Value.int) (.int (0 : Int32)) := by simpa using u1154_0
    have hn9 : (((nx + (1 : Int32)) + (1 : Int32)) + (1 : Int32)) = Int32.ofNat (out ++ [x0, x1, x2]).length := by simpa using hnx1154
    exact ⟨T1154, h1154, _, (((nx + (1 : Int32)) + (1 : Int32)) + (1 : Int32)), X1154.more (by omega) (by omega), e1154, Nq1154, K1157, hn9, AR9, P1155⟩
  · exact absurd hg3 (by simp)
theorem dp22_4_0 : decode prog_22_method_4_code 0 = .ok (.iconst 0, 1) := by decide +kernel
theorem dp22_4_1 : decode prog_22_method_4_code 1 = .ok (.istore_n 3, 1) := by decide +kernel
theorem dp22_4_2 : decode prog_22_method_4_code 2 = .ok (.iconst 0, 1) := by decide +kernel
theorem dp22_4_3 : decode prog_22_method_4_code 3 = .ok (.istore 4, 2) := by decide +kernel
theorem dp22_4_5 : decode prog_22_method_4_code 5 = .ok (.iload 4, 2) := by decide +kernel
theorem dp22_4_7 : decode prog_22_method_4_code 7 = .ok (.iload_n 2, 1) := by decide +kernel
theorem dp22_4_8 : decode prog_22_method_4_code 8 = .ok (.if_icmp .ge 19, 3) := by decide +kernel
theorem dp22_4_27 : decode prog_22_method_4_code 27 = .ok (.iload_n 3, 1) := by decide +kernel
theorem dp22_4_28 : decode prog_22_method_4_code 28 = .ok (.newarray .int, 2) := by decide +kernel
theorem dp22_4_30 : decode prog_22_method_4_code 30 = .ok (.astore 4, 2) := by decide +kernel
theorem dp22_4_32 : decode prog_22_method_4_code 32 = .ok (.iconst 0, 1) := by decide +kernel
theorem dp22_4_33 : decode prog_22_method_4_code 33 = .ok (.istore 5, 2) := by decide +kernel
theorem dp22_4_35 : decode prog_22_method_4_code 35 = .ok (.iconst 0, 1) := by decide +kernel
theorem dp22_4_36 : decode prog_22_method_4_code 36 = .ok (.istore 6, 2) := by decide +kernel
theorem dp22_4_38 : decode prog_22_method_4_code 38 = .ok (.iload 6, 2) := by decide +kernel
theorem dp22_4_40 : decode prog_22_method_4_code 40 = .ok (.iload_n 2, 1) := by decide +kernel
theorem dp22_4_41 : decode prog_22_method_4_code 41 = .ok (.if_icmp .ge 55, 3) := by decide +kernel
theorem dp22_4_96 : decode prog_22_method_4_code 96 = .ok (.aload 4, 2) := by decide +kernel
theorem dp22_4_98 : decode prog_22_method_4_code 98 = .ok (.areturn, 1) := by decide +kernel
theorem dp22_4_11 : decode prog_22_method_4_code 11 = .ok (.iload_n 3, 1) := by decide +kernel
theorem dp22_4_12 : decode prog_22_method_4_code 12 = .ok (.aload_n 1, 1) := by decide +kernel
theorem dp22_4_13 : decode prog_22_method_4_code 13 = .ok (.iload 4, 2) := by decide +kernel
theorem dp22_4_15 : decode prog_22_method_4_code 15 = .ok (.laload, 1) := by decide +kernel
theorem dp22_4_16 : decode prog_22_method_4_code 16 = .ok (.invokestatic 33, 3) := by decide +kernel
theorem dp22_4_19 : decode prog_22_method_4_code 19 = .ok (.iadd, 1) := by decide +kernel
theorem dp22_4_20 : decode prog_22_method_4_code 20 = .ok (.istore_n 3, 1) := by decide +kernel
theorem dp22_4_21 : decode prog_22_method_4_code 21 = .ok (.iinc 4 1, 3) := by decide +kernel
theorem dp22_4_24 : decode prog_22_method_4_code 24 = .ok (.goto (-19), 3) := by decide +kernel
theorem dp22_4_44 : decode prog_22_method_4_code 44 = .ok (.aload_n 1, 1) := by decide +kernel
theorem dp22_4_45 : decode prog_22_method_4_code 45 = .ok (.iload 6, 2) := by decide +kernel
theorem dp22_4_47 : decode prog_22_method_4_code 47 = .ok (.laload, 1) := by decide +kernel
theorem dp22_4_48 : decode prog_22_method_4_code 48 = .ok (.lstore 7, 2) := by decide +kernel
theorem dp22_4_90 : decode prog_22_method_4_code 90 = .ok (.iinc 6 1, 3) := by decide +kernel
theorem dp22_4_93 : decode prog_22_method_4_code 93 = .ok (.goto (-55), 3) := by decide +kernel
theorem ef_mem (m : MethodId) (x0 : Addr) (x1 : Addr) (x2 : Int32) : entryFrame m #[(.ref x0), (.ref x1), (.int x2)] 9 = mkF m 0 #[sR x0, sR x1, sI x2, sU, sU, sU, sU, sU, sU] [] := by (first | (simp [entryFrame, mkF, argsToLocals, Value.category]; done) | rfl)
def Q_mem (Z : State) (gs : List (List Int32)) (h0 : Heap) (n0 : Nat) (v : Option Value) (h : Heap) (L : List Loc) : Prop := ∃ (R : Addr) (k : ClassId) (N : Int32), v = some (.ref R) ∧ Fr n0 L ∧ Keep h0 h [] ∧ N = Int32.ofNat gs.flatten.length ∧ Arv Z h R k .int N (gs.flatten.map Value.int) (.int (0 : Int32)) ∧ h0.size ≤ R
set_option maxRecDepth 65536 in
set_option maxHeartbeats 40000000 in
theorem rm_mem (l : Launch) (Z : State) (a0 : Array Value) (hw : ∀ d ∈ tables_1, d.before a0 Z = true) (ws : List Jvm.Cond) (P W : Addr) (kP kW : ClassId) (M : Int32) (pl ur : List Int32) (wv vr : List Int64) (cn : Int32) (gs : List (List Int32)) (h0 : Heap) (n0 : Nat) (Z0 : n0 ≤ h0.size) (AP : Arv Z h0 P kP .int M ((pl ++ ur).map Value.int) (.int (0 : Int32))) (AW : Arv Z h0 W kW .long M ((wv ++ vr).map Value.long) (.long (0 : Int64))) (hM : M = Int32.ofNat (pl ++ ur).length) (hm : (pl ++ ur).length ≤ 3) (hc : cn = Int32.ofNat pl.length) (hl : wv.length = pl.length) (hv : vr.length = ur.length) (hR : own_Rep pl wv gs) (hcap : ∀ g ∈ gs, g.length + gs.length ≤ 4) (htot : gs.flatten.length ≤ 3) :
    MetFree l (⟨"com/example/whittle/whittle/engine/WordSets", "members", "([I[JI)[I"⟩ : MethodName) (head1 (Jvm.Cond.code (⟨"com/example/whittle/whittle/engine/WordSets", "members", "([I[JI)[I"⟩ : MethodName) prog_22_method_4_code 9 (some (.array .int)) :: ws) ({ frames := 2, cells := 1, slots := 3, locals := 31 } : Room)) (fun a U => a = #[(.ref P), (.ref W), (.int cn)] ∧ Z.Warmed39 U.vm ∧ U.heap = h0) (fun _ _ _ _ _ => True) (fun _ U o U' => ∃ v L, o = .returned v ∧ Q_mem Z gs h0 n0 v U'.heap L ∧ FrameEnd U o U' L ({ frames := 2, cells := 1, slots := 3, locals := 31 } : Room).cells ({ frames := 2, cells := 1, slots := 3, locals := 31 } : Room).slots) := by
  refine MetFree.of_bodySF (plainFor_of_name pn_com_example_whittle_whittle_engine_WordSets) hisR ?_
  intro p e s m args below meth c s₁ Bd hml0 hP hK
  obtain ⟨rfl, hZ, hh⟩ := hP
  have hx := Bd.exec
  have hby := Bd.bytes
  have hml : c.maxLocals = 9 := hml0
  have hown : s.vm.findClass "com/example/whittle/whittle/engine/WordSets" = some m.cls := findClass_of_methodNamed Bd.named
  have hnm := (name_of_methodNamed Bd.named Bd.method).1
  have X0 : Stand p l e ({ frames := 2, cells := 1, slots := 3, locals := 31 } : Room) s m #[(.ref P), (.ref W), (.int cn)] below meth c s₁ [] 0 0 := Stand.of_body Bd
  have e0 : s₁.heap = h0 := by rw [← hh, Bd.state]; rfl
  have N0 := Fr.nil n0
  have pre0 : ∀ t, Sg p e below (s₁.setTop (mkF m 0 #[sR P, sR W, sI cn, sU, sU, sU, sU, sU, sU] [])) t → Steps p.tables e below (s₁.setTop (entryFrame m #[(.ref P), (.ref W), (.int cn)] 9)) t := fun t k => castTop (ef_mem m P W cn) k
  have P0 : ∀ t, Sg p e below (s₁.setTop (mkF m 0 #[sR P, sR W, sI cn, sU, sU, sU, sU, sU, sU] [])) t → Sg p e below (s₁.setTop (mkF m 0 #[sR P, sR W, sI cn, sU, sU, sU, sU, sU, sU] [])) t := fun t k => k
  obtain ⟨B0, pre0, P0⟩ : ∃ B : State, (∀ t, Steps p.tables e below B t → Steps p.tables e below (s₁.setTop (entryFrame m #[(.ref P), (.ref W), (.int cn)] 9)) t) ∧ Rg p e below (s₁.setTop (mkF m 0 #[sR P, sR W, sI cn, sU, sU, sU, sU, sU, sU] [])) B := ⟨_, pre0, P0⟩
  have hlen : pl.length ≤ 3 := own_lle hm
  rcases pl with _ | ⟨x0, _ | ⟨x1, _ | ⟨x2, _ | ⟨x3, pl⟩⟩⟩⟩
  · skip
    have hc' : cn = (0 : Int32) := hc
    subst hc'
    obtain rfl := own_len0 hl
    obtain rfl := own_rep0 hR
    obtain ⟨T1158, h1158, k1158, X1158, e1158, E1158, A1158, st1158⟩ := newP X0 hx hZ (own_hw hw 9 rfl) e0 (g := (mkF m 28 #[sR P, sR W, sI 0, sI 0, sI 0, sU, sU, sU, sU] [(.int (0 : Int32))])) rfl (hb hby dp22_4_28) rfl (by decide) (cap := 0) (by decide) (by decide) (by decide) (by decide)
    obtain ⟨b1158, g1158⟩ : ∃ z, z = h0.size := ⟨_, rfl⟩
    rw [← g1158] at A1158 st1158
    have g_b1158 : n0 ≤ b1158 := Nat.le_trans Z0 (Nat.le_of_eq g1158.symm)
    have sz_b1158 : h0.size ≤ b1158 := Nat.le_trans (Keep.refl h0 []).1 (Nat.le_of_eq g1158.symm)
    have P1159 : Rg p e below (T1158.setTop (mkF m 30 #[sR P, sR W, sI 0, sI 0, sI 0, sU, sU, sU, sU] [(.ref b1158)])) B0 := fun t k => P0 t (by
      refine XS.iconst X0.here hx rfl (hb hby dp22_4_0) ?_
      refine XS.istoreN X0.here hx rfl (hb hby dp22_4_1) rfl (l' := #[sR P, sR W, sI 0, sI 0, sU, sU, sU, sU, sU]) rfl ?_
      refine XS.iconst X0.here hx rfl (hb hby dp22_4_2) ?_
      refine XS.istore X0.here hx rfl (hb hby dp22_4_3) rfl (l' := #[sR P, sR W, sI 0, sI 0, sI 0, sU, sU, sU, sU]) rfl ?_
      refine XS.iload X0.here hx rfl (hb hby dp22_4_5) rfl ?_
      refine XS.iloadN X0.here hx rfl (hb hby dp22_4_7) rfl ?_
      refine XS.icmpYes X0.here hx rfl (pc0 := 8) (pc' := 27) rfl (hb hby dp22_4_8) rfl (flt (show ¬ ((0 : Int32) < (0 : Int32)) from (by decide))).2.1 (by decide) (by decide) ?_
      refine XS.iloadN X0.here hx rfl (hb hby dp22_4_27) rfl ?_
      show Sg p e below (s₁.setTop (mkF m 28 #[sR P, sR W, sI 0, sI 0, sI 0, sU, sU, sU, sU] [(.int (0 : Int32))])) _
      exact st1158 _ k)
    have Z1160 : n0 ≤ h1158.size := Nat.le_trans Z0 E1158.1
    have K1161 : Keep h0 h1158 [] := (Keep.refl h0 []).ext E1158
    have v1162 : Arv Z h1158 b1158 k1158 .int (0 : Int32) ([] : List Value) (.int (0 : Int32)) := Arv.new A1158 (by decide)
    obtain ⟨fs1163, hr1163, hrun1163, hended1163, hW1163, hsame1163⟩ := X1158.leave (v := some (.ref b1158)) (fun h => by rw [Bd.returns] at h; cases h)
    refine ⟨_, _, pre0 _ (P1159 _ ?_), hrun1163, hended1163, _, _, rfl, ?_, ⟨⟨_, rfl⟩, hW1163, hsame1163.mono (Nat.le_of_ble_eq_true rfl) (Nat.le_of_ble_eq_true rfl)⟩⟩
    · show Sg p e below (T1158.setTop (mkF m 30 #[sR P, sR W, sI 0, sI 0, sI 0, sU, sU, sU, sU] [(.ref b1158)])) _
      refine XS.astore X1158.here hx rfl (hb hby dp22_4_30) rfl rfl (l' := #[sR P, sR W, sI 0, sI 0, sR b1158, sU, sU, sU, sU]) rfl ?_
      refine XS.iconst X1158.here hx rfl (hb hby dp22_4_32) ?_
      refine XS.istore X1158.here hx rfl (hb hby dp22_4_33) rfl (l' := #[sR P, sR W, sI 0, sI 0, sR b1158, sI 0, sU, sU, sU]) rfl ?_
      refine XS.iconst X1158.here hx rfl (hb hby dp22_4_35) ?_
      refine XS.istore X1158.here hx rfl (hb hby dp22_4_36) rfl (l' := #[sR P, sR W, sI 0, sI 0, sR b1158, sI 0, sI 0, sU, sU]) rfl ?_
      refine XS.iload X1158.here hx rfl (hb hby dp22_4_38) rfl ?_
      refine XS.iloadN X1158.here hx rfl (hb hby dp22_4_40) rfl ?_
      refine XS.icmpYes X1158.here hx rfl (pc0 := 41) (pc' := 96) rfl (hb hby dp22_4_41) rfl (flt (show ¬ ((0 : Int32) < (0 : Int32)) from (by decide))).2.1 (by decide) (by decide) ?_
      refine XS.aload X1158.here hx rfl (hb hby dp22_4_96) rfl rfl ?_
      show Sg p e below (T1158.setTop (mkF m 98 #[sR P, sR W, sI 0, sI 0, sR b1158, sI 0, sI 0, sU, sU] [(.ref b1158)])) _
      exact retOut X1158 hx Bd.returns rfl (Or.inr (Or.inr (Or.inr (Or.inr ⟨rfl, rfl, rfl⟩)))) (hb hby dp22_4_98) hr1163
    · show Q_mem Z ([] : List (List Int32)) h0 n0 _ T1158.heap _
      rw [e1158]
      exact ⟨b1158, _, _, rfl, N0, K1161, rfl, v1162, sz_b1158⟩
  · skip
    have hc' : cn = (1 : Int32) := hc
    subst hc'
    obtain ⟨y0, rfl⟩ := own_len1 hl
    obtain ⟨g0, rfl, hw0, ho0⟩ := own_rep1 hR
    have htt : g0.length ≤ 3 := by simpa [Nat.add_assoc] using htot
    obtain ⟨cl1164, Ar1164, -, S1164, N1164, H1164, -⟩ := id AW
    have hin1164 : ¬ ((0 : Int32) < 0 ∨ cl1164.slots.size ≤ ((0 : Int32)).toNatClampNeg) := inb_of S1164 (own_inb (own_hM2 hM hl hv) (k := 0) (by simp) (own_hm2 hm hl hv))
    obtain ⟨_, _, ⟨T1165, L1165, k1165, n1165⟩, -, X1165, ⟨Lc1165, hQ1165, l1165, y1165, z1165⟩, st1165⟩ := Jvm.LawKit.callS X0 hx (y := (⟨"java/lang/Long", "bitCount", "(J)I"⟩ : MethodName)) hown (mvT hZ (own_hw hw 75 rfl)) (mvT hZ (own_hw hw 76 rfl)) (mvT hZ (own_hw hw 77 rfl)) (mvT hZ (own_hw hw 78 rfl)) (by decide) (backOf (W := 1) (rm_bct l Z a0 hw [] y0 h0 n0 Z0 ) hZ (own_hw hw 78 rfl) (own_hw hw 77 rfl) (by decide) (by decide)) (g := (mkF m 16 #[sR P, sR W, sI 1, sI 0, sI 0, sU, sU, sU, sU] [(.long y0), (.int (0 : Int32))])) rfl (by rw [hml]; rfl) (argsL := [(.long y0)]) (rest := [(.int (0 : Int32))]) (lenOf pd__28J_29I rfl) rfl (by show 2 * 0 + _ ≤ _; exact Nat.le_of_eq rfl) (hb hby dp22_4_16) (fun _ _ => ⟨rfl, e0, (Nat.le_of_ble_eq_true rfl : 0 + 0 ≤ _), (Nat.le_of_ble_eq_true rfl : 0 + 0 ≤ _)⟩)
    dsimp only [Pt.U, Pt.locs, Pt.cells, Pt.slots] at X1165 l1165 y1165 z1165 st1165 hQ1165
    subst l1165 y1165 z1165
    obtain ⟨r1165, rfl, Nq1165, e1165, hr1165⟩ := hQ1165
    have N1166 := Fr.app N0 Nq1165
    have P1167 : Rg p e below (T1165.setTop (mkF m 19 #[sR P, sR W, sI 1, sI 0, sI 0, sU, sU, sU, sU] [(.int r1165), (.int (0 : Int32))])) B0 := fun t k => P0 t (by
      refine XS.iconst X0.here hx rfl (hb hby dp22_4_0) ?_
      refine XS.istoreN X0.here hx rfl (hb hby dp22_4_1) rfl (l' := #[sR P, sR W, sI 1, sI 0, sU, sU, sU, sU, sU]) rfl ?_
      refine XS.iconst X0.here hx rfl (hb hby dp22_4_2) ?_
      refine XS.istore X0.here hx rfl (hb hby dp22_4_3) rfl (l' := #[sR P, sR W, sI 1, sI 0, sI 0, sU, sU, sU, sU]) rfl ?_
      refine XS.iload X0.here hx rfl (hb hby dp22_4_5) rfl ?_
      refine XS.iloadN X0.here hx rfl (hb hby dp22_4_7) rfl ?_
      refine XS.icmpNo X0.here hx rfl (hb hby dp22_4_8) rfl (tlt (show (0 : Int32) < (1 : Int32) from (by decide))).2.1 ?_
      refine XS.iloadN X0.here hx rfl (hb hby dp22_4_11) rfl ?_
      refine XS.aloadN X0.here hx rfl (hb hby dp22_4_12) rfl rfl ?_
      refine XS.iload X0.here hx rfl (hb hby dp22_4_13) rfl ?_
      show Sg p e below (s₁.setTop (mkF m 15 #[sR P, sR W, sI 1, sI 0, sI 0, sU, sU, sU, sU] [(.int (0 : Int32)), (.ref W), (.int (0 : Int32))])) _
      refine X0.laload hx (j := (0 : Int32)) (v := (.long y0)) (by rw [e0]; exact Ar1164.1) (State.isArrayOf_alike hZ.alike Ar1164.2.1) Ar1164.2.2 hin1164 (H1164.at hin1164 rfl) (g := (mkF m 15 #[sR P, sR W, sI 1, sI 0, sI 0, sU, sU, sU, sU] [(.int (0 : Int32)), (.ref W), (.int (0 : Int32))])) rfl rfl (hb hby dp22_4_15) _ ?_
      show Sg p e below (s₁.setTop (mkF m 16 #[sR P, sR W, sI 1, sI 0, sI 0, sU, sU, sU, sU] [(.long y0), (.int (0 : Int32))])) _
      exact st1165 _ k)
    have hb1165 : r1165 = Int32.ofNat g0.length := hr1165.trans (own_fb hw0 ho0 (by omega))
    obtain ⟨N, hN⟩ : ∃ z : Int32, z = ((0 : Int32) + r1165) := ⟨_, rfl⟩
    have P1168 : Rg p e below (T1165.setTop (mkF m 27 #[sR P, sR W, sI 1, .val (.int ((0 : Int32) + r1165)), sI 1, sU, sU, sU, sU] [])) B0 := fun t k => P1167 t (by
      refine XS.iadd X1165.here hx rfl (hb hby dp22_4_19) rfl ?_
      refine XS.istoreN X1165.here hx rfl (hb hby dp22_4_20) rfl (l' := #[sR P, sR W, sI 1, .val (.int ((0 : Int32) + r1165)), sI 0, sU, sU, sU, sU]) rfl ?_
      refine XS.iinc X1165.here hx rfl (hb hby dp22_4_21) rfl (l' := #[sR P, sR W, sI 1, .val (.int ((0 : Int32) + r1165)), sI 1, sU, sU, sU, sU]) rfl ?_
      refine XS.goto X1165.here hx rfl (pc0 := 24) (pc' := 5) rfl (hb hby dp22_4_24) (by decide) (by decide) ?_
      refine XS.iload X1165.here hx rfl (hb hby dp22_4_5) rfl ?_
      refine XS.iloadN X1165.here hx rfl (hb hby dp22_4_7) rfl ?_
      refine XS.icmpYes X1165.here hx rfl (pc0 := 8) (pc' := 27) rfl (hb hby dp22_4_8) rfl (flt (show ¬ ((1 : Int32) < (1 : Int32)) from (by decide))).2.1 (by decide) (by decide) ?_
      show Sg p e below (T1165.setTop (mkF m 27 #[sR P, sR W, sI 1, .val (.int ((0 : Int32) + r1165)), sI 1, sU, sU, sU, sU] [])) _
      exact k)
    have P1169 : Rg p e below (T1165.setTop (mkF m 27 #[sR P, sR W, sI 1, sI N, sI 1, sU, sU, sU, sU] [])) B0 := fun t k => P1168 t (by rw [hN] at k; exact k)
    have hNt : N = Int32.ofNat (g0.length) := by rw [hN, hb1165]; exact own_sum1 _
    obtain ⟨T1170, h1170, k1170, X1170, e1170, E1170, A1170, st1170⟩ := newP X1165 hx hZ (own_hw hw 9 rfl) e1165 (g := (mkF m 28 #[sR P, sR W, sI 1, sI N, sI 1, sU, sU, sU, sU] [(.int N)])) rfl (hb hby dp22_4_28) rfl (own_nneg hNt htt) (cap := 3) (own_capN hNt htt) (by decide) (by decide) (by decide)
    obtain ⟨b1170, g1170⟩ : ∃ z, z = h0.size := ⟨_, rfl⟩
    rw [← g1170] at A1170 st1170
    have g_b1170 : n0 ≤ b1170 := Nat.le_trans Z0 (Nat.le_of_eq g1170.symm)
    have sz_b1170 : h0.size ≤ b1170 := Nat.le_trans (Keep.refl h0 []).1 (Nat.le_of_eq g1170.symm)
    have P1171 : Rg p e below (T1170.setTop (mkF m 30 #[sR P, sR W, sI 1, sI N, sI 1, sU, sU, sU, sU] [(.ref b1170)])) B0 := fun t k => P1169 t (by
      refine XS.iloadN X1165.here hx rfl (hb hby dp22_4_27) rfl ?_
      show Sg p e below (T1165.setTop (mkF m 28 #[sR P, sR W, sI 1, sI N, sI 1, sU, sU, sU, sU] [(.int N)])) _
      exact st1170 _ k)
    have Z1172 : n0 ≤ h1170.size := Nat.le_trans Z0 E1170.1
    have K1173 : Keep h0 h1170 [] := (Keep.refl h0 []).ext E1170
    have v1174 : Arv Z h1170 b1170 k1170 .int N ([] : List Value) (.int (0 : Int32)) := Arv.new A1170 (own_nneg hNt htt)
    have f1175 := (AW.ext E1170)
    obtain ⟨cl1176, Ar1176, -, S1176, N1176, H1176, -⟩ := id f1175
    have hin1176 : ¬ ((0 : Int32) < 0 ∨ cl1176.slots.size ≤ ((0 : Int32)).toNatClampNeg) := inb_of S1176 (own_inb (own_hM2 hM hl hv) (k := 0) (by simp) (own_hm2 hm hl hv))
    have f1177 := (AP.ext E1170)
    have P1178 : Rg p e below (T1170.setTop (mkF m 50 #[sR P, sR W, sI 1, sI N, sR b1170, sI 0, sI 0, .val (.long y0), .second] [])) B0 := fun t k => P1171 t (by
      refine XS.astore X1170.here hx rfl (hb hby dp22_4_30) rfl rfl (l' := #[sR P, sR W, sI 1, sI N, sR b1170, sU, sU, sU, sU]) rfl ?_
      refine XS.iconst X1170.here hx rfl (hb hby dp22_4_32) ?_
      refine XS.istore X1170.here hx rfl (hb hby dp22_4_33) rfl (l' := #[sR P, sR W, sI 1, sI N, sR b1170, sI 0, sU, sU, sU]) rfl ?_
      refine XS.iconst X1170.here hx rfl (hb hby dp22_4_35) ?_
      refine XS.istore X1170.here hx rfl (hb hby dp22_4_36) rfl (l' := #[sR P, sR W, sI 1, sI N, sR b1170, sI 0, sI 0, sU, sU]) rfl ?_
      refine XS.iload X1170.here hx rfl (hb hby dp22_4_38) rfl ?_
      refine XS.iloadN X1170.here hx rfl (hb hby dp22_4_40) rfl ?_
      refine XS.icmpNo X1170.here hx rfl (hb hby dp22_4_41) rfl (tlt (show (0 : Int32) < (1 : Int32) from (by decide))).2.1 ?_
      refine XS.aloadN X1170.here hx rfl (hb hby dp22_4_44) rfl rfl ?_
      refine XS.iload X1170.here hx rfl (hb hby dp22_4_45) rfl ?_
      show Sg p e below (T1170.setTop (mkF m 47 #[sR P, sR W, sI 1, sI N, sR b1170, sI 0, sI 0, sU, sU] [(.int (0 : Int32)), (.ref W)])) _
      refine X1170.laload hx (j := (0 : Int32)) (v := (.long y0)) (by rw [e1170]; exact Ar1176.1) (State.isArrayOf_alike hZ.alike Ar1176.2.1) Ar1176.2.2 hin1176 (H1176.at hin1176 rfl) (g := (mkF m 47 #[sR P, sR W, sI 1, sI N, sR b1170, sI 0, sI 0, sU, sU] [(.int (0 : Int32)), (.ref W)])) rfl rfl (hb hby dp22_4_47) _ ?_
      show Sg p e below (T1170.setTop (mkF m 48 #[sR P, sR W, sI 1, sI N, sR b1170, sI 0, sI 0, sU, sU] [(.long y0)])) _
      refine XS.lstore X1170.here hx rfl (hb hby dp22_4_48) rfl (l' := #[sR P, sR W, sI 1, sI N, sR b1170, sI 0, sI 0, .val (.long y0), .second]) rfl ?_
      show Sg p e below (T1170.setTop (mkF m 50 #[sR P, sR W, sI 1, sI N, sR b1170, sI 0, sI 0, .val (.long y0), .second] [])) _
      exact k)
    obtain ⟨T1179, h1179, L1179, nx21179, X1179, e1179, Nq1179, K1179, u1179_0, u1179_1, st1179⟩ := pc_grp P W b1170 kP k1170 M (1 : Int32) N N (0 : Int32) (0 : Int32) x0 (([x0] ++ ur).map Value.int) ([] : List Int32) (g0.length) y0 g0 X1170 hx hZ hw hby hml hown e1170 N1166 Z1172 (Nat.le_of_ble_eq_true rfl) (Nat.le_of_ble_eq_true rfl) (by decide) (by decide) g_b1170 f1177 (own_inb hM (k := 0) (by simp) hm) rfl v1174 hNt htt rfl (Nat.ne_of_lt (Nat.lt_of_lt_of_le AP.lt (Nat.le_of_eq g1170.symm))) (by simp only [List.length_append, List.length_nil]; omega) hw0 ho0
    have P1180 : Rg p e below (T1179.setTop (mkF m 50 #[sR P, sR W, sI 1, sI N, sR b1170, sI nx21179, sI 0, .val (.long (0 : Int64)), .second] [])) B0 := fun t k => P1178 t (by
      exact st1179 _ k)
    have Z1181 : n0 ≤ h1179.size := Nat.le_trans Z1172 K1179.1
    have K1182 : Keep h0 h1179 [] := K1173.trans K1179 ((allS (Or.inr sz_b1170) all0))
    have AR9 : Arv Z h1179 b1170 k1170 .int N (([g0] : List (List Int32)).flatten.map Value.int) (.int (0 : Int32)) := by simpa using u1179_1
    obtain ⟨fs1183, hr1183, hrun1183, hended1183, hW1183, hsame1183⟩ := X1179.leave (v := some (.ref b1170)) (fun h => by rw [Bd.returns] at h; cases h)
    refine ⟨_, _, pre0 _ (P1180 _ ?_), hrun1183, hended1183, _, _, rfl, ?_, ⟨⟨_, rfl⟩, hW1183, hsame1183.mono (Nat.le_of_ble_eq_true rfl) (Nat.le_of_ble_eq_true rfl)⟩⟩
    · show Sg p e below (T1179.setTop (mkF m 50 #[sR P, sR W, sI 1, sI N, sR b1170, sI nx21179, sI 0, .val (.long (0 : Int64)), .second] [])) _
      refine XS.lload X1179.here hx rfl (hb hby dp22_4_50) rfl ?_
      refine XS.lconst X1179.here hx rfl (hb hby dp22_4_52) ?_
      refine XS.lcmp X1179.here hx rfl (hb hby dp22_4_53) rfl ?_
      refine XS.ifYes X1179.here hx rfl (pc0 := 54) (pc' := 90) rfl (hb hby dp22_4_54) rfl (XT.ll_eq_t (show (0 : Int64) = (0 : Int64) from (by decide))) (by decide) (by decide) ?_
      refine XS.iinc X1179.here hx rfl (hb hby dp22_4_90) rfl (l' := #[sR P, sR W, sI 1, sI N, sR b1170, sI nx21179, sI 1, .val (.long (0 : Int64)), .second]) rfl ?_
      refine XS.goto X1179.here hx rfl (pc0 := 93) (pc' := 38) rfl (hb hby dp22_4_93) (by decide) (by decide) ?_
      refine XS.iload X1179.here hx rfl (hb hby dp22_4_38) rfl ?_
      refine XS.iloadN X1179.here hx rfl (hb hby dp22_4_40) rfl ?_
      refine XS.icmpYes X1179.here hx rfl (pc0 := 41) (pc' := 96) rfl (hb hby dp22_4_41) rfl (flt (show ¬ ((1 : Int32) < (1 : Int32)) from (by decide))).2.1 (by decide) (by decide) ?_
      refine XS.aload X1179.here hx rfl (hb hby dp22_4_96) rfl rfl ?_
      show Sg p e below (T1179.setTop (mkF m 98 #[sR P, sR W, sI 1, sI N, sR b1170, sI nx21179, sI 1, .val (.long (0 : Int64)), .second] [(.ref b1170)])) _
      exact retOut X1179 hx Bd.returns rfl (Or.inr (Or.inr (Or.inr (Or.inr ⟨rfl, rfl, rfl⟩)))) (hb hby dp22_4_98) hr1183
    · show Q_mem Z ([g0] : List (List Int32)) h0 n0 _ T1179.heap _
      rw [e1179]
      exact ⟨b1170, _, N, rfl, Nq1179, K1182, by rw [hNt]; simp [Nat.add_assoc], AR9, sz_b1170⟩
  · skip
    have hc' : cn = (2 : Int32) := hc
    subst hc'
    obtain ⟨y0, y1, rfl⟩ := own_len2 hl
    obtain ⟨g0, g1, rfl, hw0, ho0, hw1, ho1⟩ := own_rep2 hR
    have htt : g0.length + g1.length ≤ 3 := by simpa [Nat.add_assoc] using htot
    obtain ⟨cl1184, Ar1184, -, S1184, N1184, H1184, -⟩ := id AW
    have hin1184 : ¬ ((0 : Int32) < 0 ∨ cl1184.slots.size ≤ ((0 : Int32)).toNatClampNeg) := inb_of S1184 (own_inb (own_hM2 hM hl hv) (k := 0) (by simp) (own_hm2 hm hl hv))
    obtain ⟨_, _, ⟨T1185, L1185, k1185, n1185⟩, -, X1185, ⟨Lc1185, hQ1185, l1185, y1185, z1185⟩, st1185⟩ := Jvm.LawKit.callS X0 hx (y := (⟨"java/lang/Long", "bitCount", "(J)I"⟩ : MethodName)) hown (mvT hZ (own_hw hw 75 rfl)) (mvT hZ (own_hw hw 76 rfl)) (mvT hZ (own_hw hw 77 rfl)) (mvT hZ (own_hw hw 78 rfl)) (by decide) (backOf (W := 1) (rm_bct l Z a0 hw [] y0 h0 n0 Z0 ) hZ (own_hw hw 78 rfl) (own_hw hw 77 rfl) (by decide) (by decide)) (g := (mkF m 16 #[sR P, sR W, sI 2, sI 0, sI 0, sU, sU, sU, sU] [(.long y0), (.int (0 : Int32))])) rfl (by rw [hml]; rfl) (argsL := [(.long y0)]) (rest := [(.int (0 : Int32))]) (lenOf pd__28J_29I rfl) rfl (by show 2 * 0 + _ ≤ _; exact Nat.le_of_eq rfl) (hb hby dp22_4_16) (fun _ _ => ⟨rfl, e0, (Nat.le_of_ble_eq_true rfl : 0 + 0 ≤ _), (Nat.le_of_ble_eq_true rfl : 0 + 0 ≤ _)⟩)
    dsimp only [Pt.U, Pt.locs, Pt.cells, Pt.slots] at X1185 l1185 y1185 z1185 st1185 hQ1185
    subst l1185 y1185 z1185
    obtain ⟨r1185, rfl, Nq1185, e1185, hr1185⟩ := hQ1185
    have N1186 := Fr.app N0 Nq1185
    have P1187 : Rg p e below (T1185.setTop (mkF m 19 #[sR P, sR W, sI 2, sI 0, sI 0, sU, sU, sU, sU] [(.int r1185), (.int (0 : Int32))])) B0 := fun t k => P0 t (by
      refine XS.iconst X0.here hx rfl (hb hby dp22_4_0) ?_
      refine XS.istoreN X0.here hx rfl (hb hby dp22_4_1) rfl (l' := #[sR P, sR W, sI 2, sI 0, sU, sU, sU, sU, sU]) rfl ?_
      refine XS.iconst X0.here hx rfl (hb hby dp22_4_2) ?_
      refine XS.istore X0.here hx rfl (hb hby dp22_4_3) rfl (l' := #[sR P, sR W, sI 2, sI 0, sI 0, sU, sU, sU, sU]) rfl ?_
      refine XS.iload X0.here hx rfl (hb hby dp22_4_5) rfl ?_
      refine XS.iloadN X0.here hx rfl (hb hby dp22_4_7) rfl ?_
      refine XS.icmpNo X0.here hx rfl (hb hby dp22_4_8) rfl (tlt (show (0 : Int32) < (2 : Int32) from (by decide))).2.1 ?_
      refine XS.iloadN X0.here hx rfl (hb hby dp22_4_11) rfl ?_
      refine XS.aloadN X0.here hx rfl (hb hby dp22_4_12) rfl rfl ?_
      refine XS.iload X0.here hx rfl (hb hby dp22_4_13) rfl ?_
      show Sg p e below (s₁.setTop (mkF m 15 #[sR P, sR W, sI 2, sI 0, sI 0, sU, sU, sU, sU] [(.int (0 : Int32)), (.ref W), (.int (0 : Int32))])) _
      refine X0.laload hx (j := (0 : Int32)) (v := (.long y0)) (by rw [e0]; exact Ar1184.1) (State.isArrayOf_alike hZ.alike Ar1184.2.1) Ar1184.2.2 hin1184 (H1184.at hin1184 rfl) (g := (mkF m 15 #[sR P, sR W, sI 2, sI 0, sI 0, sU, sU, sU, sU] [(.int (0 : Int32)), (.ref W), (.int (0 : Int32))])) rfl rfl (hb hby dp22_4_15) _ ?_
      show Sg p e below (s₁.setTop (mkF m 16 #[sR P, sR W, sI 2, sI 0, sI 0, sU, sU, sU, sU] [(.long y0), (.int (0 : Int32))])) _
      exact st1185 _ k)
    have hb1185 : r1185 = Int32.ofNat g0.length := hr1185.trans (own_fb hw0 ho0 (by omega))
    obtain ⟨cl1188, Ar1188, -, S1188, N1188, H1188, -⟩ := id AW
    have hin1188 : ¬ ((1 : Int32) < 0 ∨ cl1188.slots.size ≤ ((1 : Int32)).toNatClampNeg) := inb_of S1188 (own_inb (own_hM2 hM hl hv) (k := 1) (by simp) (own_hm2 hm hl hv))
    obtain ⟨_, _, ⟨T1189, L1189, k1189, n1189⟩, -, X1189, ⟨Lc1189, hQ1189, l1189, y1189, z1189⟩, st1189⟩ := Jvm.LawKit.callS X1185 hx (y := (⟨"java/lang/Long", "bitCount", "(J)I"⟩ : MethodName)) hown (mvT hZ (own_hw hw 75 rfl)) (mvT hZ (own_hw hw 76 rfl)) (mvT hZ (own_hw hw 77 rfl)) (mvT hZ (own_hw hw 78 rfl)) (by decide) (backOf (W := 1) (rm_bct l Z a0 hw [] y1 h0 n0 Z0 ) hZ (own_hw hw 78 rfl) (own_hw hw 77 rfl) (by decide) (by decide)) (g := (mkF m 16 #[sR P, sR W, sI 2, .val (.int ((0 : Int32) + r1185)), sI 1, sU, sU, sU, sU] [(.long y1), (.int ((0 : Int32) + r1185))])) rfl (by rw [hml]; rfl) (argsL := [(.long y1)]) (rest := [(.int ((0 : Int32) + r1185))]) (lenOf pd__28J_29I rfl) rfl (by show 2 * 0 + _ ≤ _; exact Nat.le_of_eq rfl) (hb hby dp22_4_16) (fun _ _ => ⟨rfl, e1185, (Nat.le_of_ble_eq_true rfl : 0 + 0 ≤ _), (Nat.le_of_ble_eq_true rfl : 0 + 0 ≤ _)⟩)
    dsimp only [Pt.U, Pt.locs, Pt.cells, Pt.slots] at X1189 l1189 y1189 z1189 st1189 hQ1189
    subst l1189 y1189 z1189
    obtain ⟨r1189, rfl, Nq1189, e1189, hr1189⟩ := hQ1189
    have N1190 := Fr.app N1186 Nq1189
    have P1191 : Rg p e below (T1189.setTop (mkF m 19 #[sR P, sR W, sI 2, .val (.int ((0 : Int32) + r1185)), sI 1, sU, sU, sU, sU] [(.int r1189), (.int ((0 : Int32) + r1185))])) B0 := fun t k => P1187 t (by
      refine XS.iadd X1185.here hx rfl (hb hby dp22_4_19) rfl ?_
      refine XS.istoreN X1185.here hx rfl (hb hby dp22_4_20) rfl (l' := #[sR P, sR W, sI 2, .val (.int ((0 : Int32) + r1185)), sI 0, sU, sU, sU, sU]) rfl ?_
      refine XS.iinc X1185.here hx rfl (hb hby dp22_4_21) rfl (l' := #[sR P, sR W, sI 2, .val (.int ((0 : Int32) + r1185)), sI 1, sU, sU, sU, sU]) rfl ?_
      refine XS.goto X1185.here hx rfl (pc0 := 24) (pc' := 5) rfl (hb hby dp22_4_24) (by decide) (by decide) ?_
      refine XS.iload X1185.here hx rfl (hb hby dp22_4_5) rfl ?_
      refine XS.iloadN X1185.here hx rfl (hb hby dp22_4_7) rfl ?_
      refine XS.icmpNo X1185.here hx rfl (hb hby dp22_4_8) rfl (tlt (show (1 : Int32) < (2 : Int32) from (by decide))).2.1 ?_
      refine XS.iloadN X1185.here hx rfl (hb hby dp22_4_11) rfl ?_
      refine XS.aloadN X1185.here hx rfl (hb hby dp22_4_12) rfl rfl ?_
      refine XS.iload X1185.here hx rfl (hb hby dp22_4_13) rfl ?_
      show Sg p e below (T1185.setTop (mkF m 15 #[sR P, sR W, sI 2, .val (.int ((0 : Int32) + r1185)), sI 1, sU, sU, sU, sU] [(.int (1 : Int32)), (.ref W), (.int ((0 : Int32) + r1185))])) _
      refine X1185.laload hx (j := (1 : Int32)) (v := (.long y1)) (by rw [e1185]; exact Ar1188.1) (State.isArrayOf_alike hZ.alike Ar1188.2.1) Ar1188.2.2 hin1188 (H1188.at hin1188 rfl) (g := (mkF m 15 #[sR P, sR W, sI 2, .val (.int ((0 : Int32) + r1185)), sI 1, sU, sU, sU, sU] [(.int (1 : Int32)), (.ref W), (.int ((0 : Int32) + r1185))])) rfl rfl (hb hby dp22_4_15) _ ?_
      show Sg p e below (T1185.setTop (mkF m 16 #[sR P, sR W, sI 2, .val (.int ((0 : Int32) + r1185)), sI 1, sU, sU, sU, sU] [(.long y1), (.int ((0 : Int32) + r1185))])) _
      exact st1189 _ k)
    have hb1189 : r1189 = Int32.ofNat g1.length := hr1189.trans (own_fb hw1 ho1 (by omega))
    obtain ⟨N, hN⟩ : ∃ z : Int32, z = (((0 : Int32) + r1185) + r1189) := ⟨_, rfl⟩
    have P1192 : Rg p e below (T1189.setTop (mkF m 27 #[sR P, sR W, sI 2, .val (.int (((0 : Int32) + r1185) + r1189)), sI 2, sU, sU, sU, sU] [])) B0 := fun t k => P1191 t (by
      refine XS.iadd X1189.here hx rfl (hb hby dp22_4_19) rfl ?_
      refine XS.istoreN X1189.here hx rfl (hb hby dp22_4_20) rfl (l' := #[sR P, sR W, sI 2, .val (.int (((0 : Int32) + r1185) + r1189)), sI 1, sU, sU, sU, sU]) rfl ?_
      refine XS.iinc X1189.here hx rfl (hb hby dp22_4_21) rfl (l' := #[sR P, sR W, sI 2, .val (.int (((0 : Int32) + r1185) + r1189)), sI 2, sU, sU, sU, sU]) rfl ?_
      refine XS.goto X1189.here hx rfl (pc0 := 24) (pc' := 5) rfl (hb hby dp22_4_24) (by decide) (by decide) ?_
      refine XS.iload X1189.here hx rfl (hb hby dp22_4_5) rfl ?_
      refine XS.iloadN X1189.here hx rfl (hb hby dp22_4_7) rfl ?_
      refine XS.icmpYes X1189.here hx rfl (pc0 := 8) (pc' := 27) rfl (hb hby dp22_4_8) rfl (flt (show ¬ ((2 : Int32) < (2 : Int32)) from (by decide))).2.1 (by decide) (by decide) ?_
      show Sg p e below (T1189.setTop (mkF m 27 #[sR P, sR W, sI 2, .val (.int (((0 : Int32) + r1185) + r1189)), sI 2, sU, sU, sU, sU] [])) _
      exact k)
    have P1193 : Rg p e below (T1189.setTop (mkF m 27 #[sR P, sR W, sI 2, sI N, sI 2, sU, sU, sU, sU] [])) B0 := fun t k => P1192 t (by rw [hN] at k; exact k)
    have hNt : N = Int32.ofNat (g0.length + g1.length) := by rw [hN, hb1185, hb1189]; exact own_sum2 _ _
    obtain ⟨T1194, h1194, k1194, X1194, e1194, E1194, A1194, st1194⟩ := newP X1189 hx hZ (own_hw hw 9 rfl) e1189 (g := (mkF m 28 #[sR P, sR W, sI 2, sI N, sI 2, sU, sU, sU, sU] [(.int N)])) rfl (hb hby dp22_4_28) rfl (own_nneg hNt htt) (cap := 3) (own_capN hNt htt) (by decide) (by decide) (by decide)
    obtain ⟨b1194, g1194⟩ : ∃ z, z = h0.size := ⟨_, rfl⟩
    rw [← g1194] at A1194 st1194
    have g_b1194 : n0 ≤ b1194 := Nat.le_trans Z0 (Nat.le_of_eq g1194.symm)
    have sz_b1194 : h0.size ≤ b1194 := Nat.le_trans (Keep.refl h0 []).1 (Nat.le_of_eq g1194.symm)
    have P1195 : Rg p e below (T1194.setTop (mkF m 30 #[sR P, sR W, sI 2, sI N, sI 2, sU, sU, sU, sU] [(.ref b1194)])) B0 := fun t k => P1193 t (by
      refine XS.iloadN X1189.here hx rfl (hb hby dp22_4_27) rfl ?_
      show Sg p e below (T1189.setTop (mkF m 28 #[sR P, sR W, sI 2, sI N, sI 2, sU, sU, sU, sU] [(.int N)])) _
      exact st1194 _ k)
    have Z1196 : n0 ≤ h1194.size := Nat.le_trans Z0 E1194.1
    have K1197 : Keep h0 h1194 [] := (Keep.refl h0 []).ext E1194
    have v1198 : Arv Z h1194 b1194 k1194 .int N ([] : List Value) (.int (0 : Int32)) := Arv.new A1194 (own_nneg hNt htt)
    have f1199 := (AW.ext E1194)
    obtain ⟨cl1200, Ar1200, -, S1200, N1200, H1200, -⟩ := id f1199
    have hin1200 : ¬ ((0 : Int32) < 0 ∨ cl1200.slots.size ≤ ((0 : Int32)).toNatClampNeg) := inb_of S1200 (own_inb (own_hM2 hM hl hv) (k := 0) (by simp) (own_hm2 hm hl hv))
    have f1201 := (AP.ext E1194)
    have P1202 : Rg p e below (T1194.setTop (mkF m 50 #[sR P, sR W, sI 2, sI N, sR b1194, sI 0, sI 0, .val (.long y0), .second] [])) B0 := fun t k => P1195 t (by
      refine XS.astore X1194.here hx rfl (hb hby dp22_4_30) rfl rfl (l' := #[sR P, sR W, sI 2, sI N, sR b1194, sU, sU, sU, sU]) rfl ?_
      refine XS.iconst X1194.here hx rfl (hb hby dp22_4_32) ?_
      refine XS.istore X1194.here hx rfl (hb hby dp22_4_33) rfl (l' := #[sR P, sR W, sI 2, sI N, sR b1194, sI 0, sU, sU, sU]) rfl ?_
      refine XS.iconst X1194.here hx rfl (hb hby dp22_4_35) ?_
      refine XS.istore X1194.here hx rfl (hb hby dp22_4_36) rfl (l' := #[sR P, sR W, sI 2, sI N, sR b1194, sI 0, sI 0, sU, sU]) rfl ?_
      refine XS.iload X1194.here hx rfl (hb hby dp22_4_38) rfl ?_
      refine XS.iloadN X1194.here hx rfl (hb hby dp22_4_40) rfl ?_
      refine XS.icmpNo X1194.here hx rfl (hb hby dp22_4_41) rfl (tlt (show (0 : Int32) < (2 : Int32) from (by decide))).2.1 ?_
      refine XS.aloadN X1194.here hx rfl (hb hby dp22_4_44) rfl rfl ?_
      refine XS.iload X1194.here hx rfl (hb hby dp22_4_45) rfl ?_
      show Sg p e below (T1194.setTop (mkF m 47 #[sR P, sR W, sI 2, sI N, sR b1194, sI 0, sI 0, sU, sU] [(.int (0 : Int32)), (.ref W)])) _
      refine X1194.laload hx (j := (0 : Int32)) (v := (.long y0)) (by rw [e1194]; exact Ar1200.1) (State.isArrayOf_alike hZ.alike Ar1200.2.1) Ar1200.2.2 hin1200 (H1200.at hin1200 rfl) (g := (mkF m 47 #[sR P, sR W, sI 2, sI N, sR b1194, sI 0, sI 0, sU, sU] [(.int (0 : Int32)), (.ref W)])) rfl rfl (hb hby dp22_4_47) _ ?_
      show Sg p e below (T1194.setTop (mkF m 48 #[sR P, sR W, sI 2, sI N, sR b1194, sI 0, sI 0, sU, sU] [(.long y0)])) _
      refine XS.lstore X1194.here hx rfl (hb hby dp22_4_48) rfl (l' := #[sR P, sR W, sI 2, sI N, sR b1194, sI 0, sI 0, .val (.long y0), .second]) rfl ?_
      show Sg p e below (T1194.setTop (mkF m 50 #[sR P, sR W, sI 2, sI N, sR b1194, sI 0, sI 0, .val (.long y0), .second] [])) _
      exact k)
    obtain ⟨T1203, h1203, L1203, nx21203, X1203, e1203, Nq1203, K1203, u1203_0, u1203_1, st1203⟩ := pc_grp P W b1194 kP k1194 M (2 : Int32) N N (0 : Int32) (0 : Int32) x0 (([x0, x1] ++ ur).map Value.int) ([] : List Int32) (g0.length + g1.length) y0 g0 X1194 hx hZ hw hby hml hown e1194 N1190 Z1196 (Nat.le_of_ble_eq_true rfl) (Nat.le_of_ble_eq_true rfl) (by decide) (by decide) g_b1194 f1201 (own_inb hM (k := 0) (by simp) hm) rfl v1198 hNt htt rfl (Nat.ne_of_lt (Nat.lt_of_lt_of_le AP.lt (Nat.le_of_eq g1194.symm))) (by simp only [List.length_append, List.length_nil]; omega) hw0 ho0
    have P1204 : Rg p e below (T1203.setTop (mkF m 50 #[sR P, sR W, sI 2, sI N, sR b1194, sI nx21203, sI 0, .val (.long (0 : Int64)), .second] [])) B0 := fun t k => P1202 t (by
      exact st1203 _ k)
    have Z1205 : n0 ≤ h1203.size := Nat.le_trans Z1196 K1203.1
    have K1206 : Keep h0 h1203 [] := K1197.trans K1203 ((allS (Or.inr sz_b1194) all0))
    have f1207 := (f1199.keep K1203 (ninS (Nat.ne_of_lt (Nat.lt_of_lt_of_le AW.lt (Nat.le_of_eq g1194.symm))) nin0))
    obtain ⟨cl1208, Ar1208, -, S1208, N1208, H1208, -⟩ := id f1207
    have hin1208 : ¬ ((1 : Int32) < 0 ∨ cl1208.slots.size ≤ ((1 : Int32)).toNatClampNeg) := inb_of S1208 (own_inb (own_hM2 hM hl hv) (k := 1) (by simp) (own_hm2 hm hl hv))
    have f1209 := (f1201.keep K1203 (ninS (Nat.ne_of_lt (Nat.lt_of_lt_of_le AP.lt (Nat.le_of_eq g1194.symm))) nin0))
    have P1210 : Rg p e below (T1203.setTop (mkF m 50 #[sR P, sR W, sI 2, sI N, sR b1194, sI nx21203, sI 1, .val (.long y1), .second] [])) B0 := fun t k => P1204 t (by
      refine XS.lload X1203.here hx rfl (hb hby dp22_4_50) rfl ?_
      refine XS.lconst X1203.here hx rfl (hb hby dp22_4_52) ?_
      refine XS.lcmp X1203.here hx rfl (hb hby dp22_4_53) rfl ?_
      refine XS.ifYes X1203.here hx rfl (pc0 := 54) (pc' := 90) rfl (hb hby dp22_4_54) rfl (XT.ll_eq_t (show (0 : Int64) = (0 : Int64) from (by decide))) (by decide) (by decide) ?_
      refine XS.iinc X1203.here hx rfl (hb hby dp22_4_90) rfl (l' := #[sR P, sR W, sI 2, sI N, sR b1194, sI nx21203, sI 1, .val (.long (0 : Int64)), .second]) rfl ?_
      refine XS.goto X1203.here hx rfl (pc0 := 93) (pc' := 38) rfl (hb hby dp22_4_93) (by decide) (by decide) ?_
      refine XS.iload X1203.here hx rfl (hb hby dp22_4_38) rfl ?_
      refine XS.iloadN X1203.here hx rfl (hb hby dp22_4_40) rfl ?_
      refine XS.icmpNo X1203.here hx rfl (hb hby dp22_4_41) rfl (tlt (show (1 : Int32) < (2 : Int32) from (by decide))).2.1 ?_
      refine XS.aloadN X1203.here hx rfl (hb hby dp22_4_44) rfl rfl ?_
      refine XS.iload X1203.here hx rfl (hb hby dp22_4_45) rfl ?_
      show Sg p e below (T1203.setTop (mkF m 47 #[sR P, sR W, sI 2, sI N, sR b1194, sI nx21203, sI 1, .val (.long (0 : Int64)), .second] [(.int (1 : Int32)), (.ref W)])) _
      refine X1203.laload hx (j := (1 : Int32)) (v := (.long y1)) (by rw [e1203]; exact Ar1208.1) (State.isArrayOf_alike hZ.alike Ar1208.2.1) Ar1208.2.2 hin1208 (H1208.at hin1208 rfl) (g := (mkF m 47 #[sR P, sR W, sI 2, sI N, sR b1194, sI nx21203, sI 1, .val (.long (0 : Int64)), .second] [(.int (1 : Int32)), (.ref W)])) rfl rfl (hb hby dp22_4_47) _ ?_
      show Sg p e below (T1203.setTop (mkF m 48 #[sR P, sR W, sI 2, sI N, sR b1194, sI nx21203, sI 1, .val (.long (0 : Int64)), .second] [(.long y1)])) _
      refine XS.lstore X1203.here hx rfl (hb hby dp22_4_48) rfl (l' := #[sR P, sR W, sI 2, sI N, sR b1194, sI nx21203, sI 1, .val (.long y1), .second]) rfl ?_
      show Sg p e below (T1203.setTop (mkF m 50 #[sR P, sR W, sI 2, sI N, sR b1194, sI nx21203, sI 1, .val (.long y1), .second] [])) _
      exact k)
    obtain ⟨T1211, h1211, L1211, nx21211, X1211, e1211, Nq1211, K1211, u1211_0, u1211_1, st1211⟩ := pc_grp P W b1194 kP k1194 M (2 : Int32) N N nx21203 (1 : Int32) x1 (([x0, x1] ++ ur).map Value.int) (([] : List Int32) ++ g0) (g0.length + g1.length) y1 g1 X1203 hx hZ hw hby hml hown e1203 Nq1203 Z1205 (Nat.le_of_ble_eq_true rfl) (Nat.le_of_ble_eq_true rfl) (by decide) (by decide) g_b1194 f1209 (own_inb hM (k := 1) (by simp) hm) rfl u1203_1 hNt htt u1203_0 (Nat.ne_of_lt (Nat.lt_of_lt_of_le AP.lt (Nat.le_of_eq g1194.symm))) (by simp only [List.length_append, List.length_nil]; omega) hw1 ho1
    have P1212 : Rg p e below (T1211.setTop (mkF m 50 #[sR P, sR W, sI 2, sI N, sR b1194, sI nx21211, sI 1, .val (.long (0 : Int64)), .second] [])) B0 := fun t k => P1210 t (by
      exact st1211 _ k)
    have Z1213 : n0 ≤ h1211.size := Nat.le_trans Z1205 K1211.1
    have K1214 : Keep h0 h1211 [] := K1206.trans K1211 ((allS (Or.inr sz_b1194) all0))
    have AR9 : Arv Z h1211 b1194 k1194 .int N (([g0, g1] : List (List Int32)).flatten.map Value.int) (.int (0 : Int32)) := by simpa using u1211_1
    obtain ⟨fs1215, hr1215, hrun1215, hended1215, hW1215, hsame1215⟩ := X1211.leave (v := some (.ref b1194)) (fun h => by rw [Bd.returns] at h; cases h)
    refine ⟨_, _, pre0 _ (P1212 _ ?_), hrun1215, hended1215, _, _, rfl, ?_, ⟨⟨_, rfl⟩, hW1215, hsame1215.mono (Nat.le_of_ble_eq_true rfl) (Nat.le_of_ble_eq_true rfl)⟩⟩
    · show Sg p e below (T1211.setTop (mkF m 50 #[sR P, sR W, sI 2, sI N, sR b1194, sI nx21211, sI 1, .val (.long (0 : Int64)), .second] [])) _
      refine XS.lload X1211.here hx rfl (hb hby dp22_4_50) rfl ?_
      refine XS.lconst X1211.here hx rfl (hb hby dp22_4_52) ?_
      refine XS.lcmp X1211.here hx rfl (hb hby dp22_4_53) rfl ?_
      refine XS.ifYes X1211.here hx rfl (pc0 := 54) (pc' := 90) rfl (hb hby dp22_4_54) rfl (XT.ll_eq_t (show (0 : Int64) = (0 : Int64) from (by decide))) (by decide) (by decide) ?_
      refine XS.iinc X1211.here hx rfl (hb hby dp22_4_90) rfl (l' := #[sR P, sR W, sI 2, sI N, sR b1194, sI nx21211, sI 2, .val (.long (0 : Int64)), .second]) rfl ?_
      refine XS.goto X1211.here hx rfl (pc0 := 93) (pc' := 38) rfl (hb hby dp22_4_93) (by decide) (by decide) ?_
      refine XS.iload X1211.here hx rfl (hb hby dp22_4_38) rfl ?_
      refine XS.iloadN X1211.here hx rfl (hb hby dp22_4_40) rfl ?_
      refine XS.icmpYes X1211.here hx rfl (pc0 := 41) (pc' := 96) rfl (hb hby dp22_4_41) rfl (flt (show ¬ ((2 : Int32) < (2 : Int32)) from (by decide))).2.1 (by decide) (by decide) ?_
      refine XS.aload X1211.here hx rfl (hb hby dp22_4_96) rfl rfl ?_
      show Sg p e below (T1211.setTop (mkF m 98 #[sR P, sR W, sI 2, sI N, sR b1194, sI nx21211, sI 2, .val (.long (0 : Int64)), .second] [(.ref b1194)])) _
      exact retOut X1211 hx Bd.returns rfl (Or.inr (Or.inr (Or.inr (Or.inr ⟨rfl, rfl, rfl⟩)))) (hb hby dp22_4_98) hr1215
    · show Q_mem Z ([g0, g1] : List (List Int32)) h0 n0 _ T1211.heap _
      rw [e1211]
      exact ⟨b1194, _, N, rfl, Nq1211, K1214, by rw [hNt]; simp [Nat.add_assoc], AR9, sz_b1194⟩
  · skip
    have hc' : cn = (3 : Int32) := hc
    subst hc'
    obtain ⟨y0, y1, y2, rfl⟩ := own_len3 hl
    obtain ⟨g0, g1, g2, rfl, hw0, ho0, hw1, ho1, hw2, ho2⟩ := own_rep3 hR
    have htt : g0.length + g1.length + g2.length ≤ 3 := by simpa [Nat.add_assoc] using htot
    obtain ⟨cl1216, Ar1216, -, S1216, N1216, H1216, -⟩ := id AW
    have hin1216 : ¬ ((0 : Int32) < 0 ∨ cl1216.slots.size ≤ ((0 : Int32)).toNatClampNeg) := inb_of S1216 (own_inb (own_hM2 hM hl hv) (k := 0) (by simp) (own_hm2 hm hl hv))
    obtain ⟨_, _, ⟨T1217, L1217, k1217, n1217⟩, -, X1217, ⟨Lc1217, hQ1217, l1217, y1217, z1217⟩, st1217⟩ := Jvm.LawKit.callS X0 hx (y := (⟨"java/lang/Long", "bitCount", "(J)I"⟩ : MethodName)) hown (mvT hZ (own_hw hw 75 rfl)) (mvT hZ (own_hw hw 76 rfl)) (mvT hZ (own_hw hw 77 rfl)) (mvT hZ (own_hw hw 78 rfl)) (by decide) (backOf (W := 1) (rm_bct l Z a0 hw [] y0 h0 n0 Z0 ) hZ (own_hw hw 78 rfl) (own_hw hw 77 rfl) (by decide) (by decide)) (g := (mkF m 16 #[sR P, sR W, sI 3, sI 0, sI 0, sU, sU, sU, sU] [(.long y0), (.int (0 : Int32))])) rfl (by rw [hml]; rfl) (argsL := [(.long y0)]) (rest := [(.int (0 : Int32))]) (lenOf pd__28J_29I rfl) rfl (by show 2 * 0 + _ ≤ _; exact Nat.le_of_eq rfl) (hb hby dp22_4_16) (fun _ _ => ⟨rfl, e0, (Nat.le_of_ble_eq_true rfl : 0 + 0 ≤ _), (Nat.le_of_ble_eq_true rfl : 0 + 0 ≤ _)⟩)
    dsimp only [Pt.U, Pt.locs, Pt.cells, Pt.slots] at X1217 l1217 y1217 z1217 st1217 hQ1217
    subst l1217 y1217 z1217
    obtain ⟨r1217, rfl, Nq1217, e1217, hr1217⟩ := hQ1217
    have N1218 := Fr.app N0 Nq1217
    have P1219 : Rg p e below (T1217.setTop (mkF m 19 #[sR P, sR W, sI 3, sI 0, sI 0, sU, sU, sU, sU] [(.int r1217), (.int (0 : Int32))])) B0 := fun t k => P0 t (by
      refine XS.iconst X0.here hx rfl (hb hby dp22_4_0) ?_
      refine XS.istoreN X0.here hx rfl (hb hby dp22_4_1) rfl (l' := #[sR P, sR W, sI 3, sI 0, sU, sU, sU, sU, sU]) rfl ?_
      refine XS.iconst X0.here hx rfl (hb hby dp22_4_2) ?_
      refine XS.istore X0.here hx rfl (hb hby dp22_4_3) rfl (l' := #[sR P, sR W, sI 3, sI 0, sI 0, sU, sU, sU, sU]) rfl ?_
      refine XS.iload X0.here hx rfl (hb hby dp22_4_5) rfl ?_
      refine XS.iloadN X0.here hx rfl (hb hby dp22_4_7) rfl ?_
      refine XS.icmpNo X0.here hx rfl (hb hby dp22_4_8) rfl (tlt (show (0 : Int32) < (3 : Int32) from (by decide))).2.1 ?_
      refine XS.iloadN X0.here hx rfl (hb hby dp22_4_11) rfl ?_
      refine XS.aloadN X0.here hx rfl (hb hby dp22_4_12) rfl rfl ?_
      refine XS.iload X0.here hx rfl (hb hby dp22_4_13) rfl ?_
      show Sg p e below (s₁.setTop (mkF m 15 #[sR P, sR W, sI 3, sI 0, sI 0, sU, sU, sU, sU] [(.int (0 : Int32)), (.ref W), (.int (0 : Int32))])) _
      refine X0.laload hx (j := (0 : Int32)) (v := (.long y0)) (by rw [e0]; exact Ar1216.1) (State.isArrayOf_alike hZ.alike Ar1216.2.1) Ar1216.2.2 hin1216 (H1216.at hin1216 rfl) (g := (mkF m 15 #[sR P, sR W, sI 3, sI 0, sI 0, sU, sU, sU, sU] [(.int (0 : Int32)), (.ref W), (.int (0 : Int32))])) rfl rfl (hb hby dp22_4_15) _ ?_
      show Sg p e below (s₁.setTop (mkF m 16 #[sR P, sR W, sI 3, sI 0, sI 0, sU, sU, sU, sU] [(.long y0), (.int (0 : Int32))])) _
      exact st1217 _ k)
    have hb1217 : r1217 = Int32.ofNat g0.length := hr1217.trans (own_fb hw0 ho0 (by omega))
    obtain ⟨cl1220, Ar1220, -, S1220, N1220, H1220, -⟩ := id AW
    have hin1220 : ¬ ((1 : Int32) < 0 ∨ cl1220.slots.size ≤ ((1 : Int32)).toNatClampNeg) := inb_of S1220 (own_inb (own_hM2 hM hl hv) (k := 1) (by simp) (own_hm2 hm hl hv))
    obtain ⟨_, _, ⟨T1221, L1221, k1221, n1221⟩, -, X1221, ⟨Lc1221, hQ1221, l1221, y1221, z1221⟩, st1221⟩ := Jvm.LawKit.callS X1217 hx (y := (⟨"java/lang/Long", "bitCount", "(J)I"⟩ : MethodName)) hown (mvT hZ (own_hw hw 75 rfl)) (mvT hZ (own_hw hw 76 rfl)) (mvT hZ (own_hw hw 77 rfl)) (mvT hZ (own_hw hw 78 rfl)) (by decide) (backOf (W := 1) (rm_bct l Z a0 hw [] y1 h0 n0 Z0 ) hZ (own_hw hw 78 rfl) (own_hw hw 77 rfl) (by decide) (by decide)) (g := (mkF m 16 #[sR P, sR W, sI 3, .val (.int ((0 : Int32) + r1217)), sI 1, sU, sU, sU, sU] [(.long y1), (.int ((0 : Int32) + r1217))])) rfl (by rw [hml]; rfl) (argsL := [(.long y1)]) (rest := [(.int ((0 : Int32) + r1217))]) (lenOf pd__28J_29I rfl) rfl (by show 2 * 0 + _ ≤ _; exact Nat.le_of_eq rfl) (hb hby dp22_4_16) (fun _ _ => ⟨rfl, e1217, (Nat.le_of_ble_eq_true rfl : 0 + 0 ≤ _), (Nat.le_of_ble_eq_true rfl : 0 + 0 ≤ _)⟩)
    dsimp only [Pt.U, Pt.locs, Pt.cells, Pt.slots] at X1221 l1221 y1221 z1221 st1221 hQ1221
    subst l1221 y1221 z1221
    obtain ⟨r1221, rfl, Nq1221, e1221, hr1221⟩ := hQ1221
    have N1222 := Fr.app N1218 Nq1221
    have P1223 : Rg p e below (T1221.setTop (mkF m 19 #[sR P, sR W, sI 3, .val (.int ((0 : Int32) + r1217)), sI 1, sU, sU, sU, sU] [(.int r1221), (.int ((0 : Int32) + r1217))])) B0 := fun t k => P1219 t (by
      refine XS.iadd X1217.here hx rfl (hb hby dp22_4_19) rfl ?_
      refine XS.istoreN X1217.here hx rfl (hb hby dp22_4_20) rfl (l' := #[sR P, sR W, sI 3, .val (.int ((0 : Int32) + r1217)), sI 0, sU, sU, sU, sU]) rfl ?_
      refine XS.iinc X1217.here hx rfl (hb hby dp22_4_21) rfl (l' := #[sR P, sR W, sI 3, .val (.int ((0 : Int32) + r1217)), sI 1, sU, sU, sU, sU]) rfl ?_
      refine XS.goto X1217.here hx rfl (pc0 := 24) (pc' := 5) rfl (hb hby dp22_4_24) (by decide) (by decide) ?_
      refine XS.iload X1217.here hx rfl (hb hby dp22_4_5) rfl ?_
      refine XS.iloadN X1217.here hx rfl (hb hby dp22_4_7) rfl ?_
      refine XS.icmpNo X1217.here hx rfl (hb hby dp22_4_8) rfl (tlt (show (1 : Int32) < (3 : Int32) from (by decide))).2.1 ?_
      refine XS.iloadN X1217.here hx rfl (hb hby dp22_4_11) rfl ?_
      refine XS.aloadN X1217.here hx rfl (hb hby dp22_4_12) rfl rfl ?_
      refine XS.iload X1217.here hx rfl (hb hby dp22_4_13) rfl ?_
      show Sg p e below (T1217.setTop (mkF m 15 #[sR P, sR W, sI 3, .val (.int ((0 : Int32) + r1217)), sI 1, sU, sU, sU, sU] [(.int (1 : Int32)), (.ref W), (.int ((0 : Int32) + r1217))])) _
      refine X1217.laload hx (j := (1 : Int32)) (v := (.long y1)) (by rw [e1217]; exact Ar1220.1) (State.isArrayOf_alike hZ.alike Ar1220.2.1) Ar1220.2.2 hin1220 (H1220.at hin1220 rfl) (g := (mkF m 15 #[sR P, sR W, sI 3, .val (.int ((0 : Int32) + r1217)), sI 1, sU, sU, sU, sU] [(.int (1 : Int32)), (.ref W), (.int ((0 : Int32) + r1217))])) rfl rfl (hb hby dp22_4_15) _ ?_
      show Sg p e below (T1217.setTop (mkF m 16 #[sR P, sR W, sI 3, .val (.int ((0 : Int32) + r1217)), sI 1, sU, sU, sU, sU] [(.long y1), (.int ((0 : Int32) + r1217))])) _
      exact st1221 _ k)
    have hb1221 : r1221 = Int32.ofNat g1.length := hr1221.trans (own_fb hw1 ho1 (by omega))
    obtain ⟨cl1224, Ar1224, -, S1224, N1224, H1224, -⟩ := id AW
    have hin1224 : ¬ ((2 : Int32) < 0 ∨ cl1224.slots.size ≤ ((2 : Int32)).toNatClampNeg) := inb_of S1224 (own_inb (own_hM2 hM hl hv) (k := 2) (by simp) (own_hm2 hm hl hv))
    obtain ⟨_, _, ⟨T1225, L1225, k1225, n1225⟩, -, X1225, ⟨Lc1225, hQ1225, l1225, y1225, z1225⟩, st1225⟩ := Jvm.LawKit.callS X1221 hx (y := (⟨"java/lang/Long", "bitCount", "(J)I"⟩ : MethodName)) hown (mvT hZ (own_hw hw 75 rfl)) (mvT hZ (own_hw hw 76 rfl)) (mvT hZ (own_hw hw 77 rfl)) (mvT hZ (own_hw hw 78 rfl)) (by decide) (backOf (W := 1) (rm_bct l Z a0 hw [] y2 h0 n0 Z0 ) hZ (own_hw hw 78 rfl) (own_hw hw 77 rfl) (by decide) (by decide)) (g := (mkF m 16 #[sR P, sR W, sI 3, .val (.int (((0 : Int32) + r1217) + r1221)), sI 2, sU, sU, sU, sU] [(.long y2), (.int (((0 : Int32) + r1217) + r1221))])) rfl (by rw [hml]; rfl) (argsL := [(.long y2)]) (rest := [(.int (((0 : Int32) + r1217) + r1221))]) (lenOf pd__28J_29I rfl) rfl (by show 2 * 0 + _ ≤ _; exact Nat.le_of_eq rfl) (hb hby dp22_4_16) (fun _ _ => ⟨rfl, e1221, (Nat.le_of_ble_eq_true rfl : 0 + 0 ≤ _), (Nat.le_of_ble_eq_true rfl : 0 + 0 ≤ _)⟩)
    dsimp only [Pt.U, Pt.locs, Pt.cells, Pt.slots] at X1225 l1225 y1225 z1225 st1225 hQ1225
    subst l1225 y1225 z1225
    obtain ⟨r1225, rfl, Nq1225, e1225, hr1225⟩ := hQ1225
    have N1226 := Fr.app N1222 Nq1225
    have P1227 : Rg p e below (T1225.setTop (mkF m 19 #[sR P, sR W, sI 3, .val (.int (((0 : Int32) + r1217) + r1221)), sI 2, sU, sU, sU, sU] [(.int r1225), (.int (((0 : Int32) + r1217) + r1221))])) B0 := fun t k => P1223 t (by
      refine XS.iadd X1221.here hx rfl (hb hby dp22_4_19) rfl ?_
      refine XS.istoreN X1221.here hx rfl (hb hby dp22_4_20) rfl (l' := #[sR P, sR W, sI 3, .val (.int (((0 : Int32) + r1217) + r1221)), sI 1, sU, sU, sU, sU]) rfl ?_
      refine XS.iinc X1221.here hx rfl (hb hby dp22_4_21) rfl (l' := #[sR P, sR W, sI 3, .val (.int (((0 : Int32) + r1217) + r1221)), sI 2, sU, sU, sU, sU]) rfl ?_
      refine XS.goto X1221.here hx rfl (pc0 := 24) (pc' := 5) rfl (hb hby dp22_4_24) (by decide) (by decide) ?_
      refine XS.iload X1221.here hx rfl (hb hby dp22_4_5) rfl ?_
      refine XS.iloadN X1221.here hx rfl (hb hby dp22_4_7) rfl ?_
      refine XS.icmpNo X1221.here hx rfl (hb hby dp22_4_8) rfl (tlt (show (2 : Int32) < (3 : Int32) from (by decide))).2.1 ?_
      refine XS.iloadN X1221.here hx rfl (hb hby dp22_4_11) rfl ?_
      refine XS.aloadN X1221.here hx rfl (hb hby dp22_4_12) rfl rfl ?_
      refine XS.iload X1221.here hx rfl (hb hby dp22_4_13) rfl ?_
      show Sg p e below (T1221.setTop (mkF m 15 #[sR P, sR W, sI 3, .val (.int (((0 : Int32) + r1217) + r1221)), sI 2, sU, sU, sU, sU] [(.int (2 : Int32)), (.ref W), (.int (((0 : Int32) + r1217) + r1221))])) _
      refine X1221.laload hx (j := (2 : Int32)) (v := (.long y2)) (by rw [e1221]; exact Ar1224.1) (State.isArrayOf_alike hZ.alike Ar1224.2.1) Ar1224.2.2 hin1224 (H1224.at hin1224 rfl) (g := (mkF m 15 #[sR P, sR W, sI 3, .val (.int (((0 : Int32) + r1217) + r1221)), sI 2, sU, sU, sU, sU] [(.int (2 : Int32)), (.ref W), (.int (((0 : Int32) + r1217) + r1221))])) rfl rfl (hb hby dp22_4_15) _ ?_
      show Sg p e below (T1221.setTop (mkF m 16 #[sR P, sR W, sI 3, .val (.int (((0 : Int32) + r1217) + r1221)), sI 2, sU, sU, sU, sU] [(.long y2), (.int (((0 : Int32) + r1217) + r1221))])) _
      exact st1225 _ k)
    have hb1225 : r1225 = Int32.ofNat g2.length := hr1225.trans (own_fb hw2 ho2 (by omega))
    obtain ⟨N, hN⟩ : ∃ z : Int32, z = ((((0 : Int32) + r1217) + r1221) + r1225) := ⟨_, rfl⟩
    have P1228 : Rg p e below (T1225.setTop (mkF m 27 #[sR P, sR W, sI 3, .val (.int ((((0 : Int32) + r1217) + r1221) + r1225)), sI 3, sU, sU, sU, sU] [])) B0 := fun t k => P1227 t (by
      refine XS.iadd X1225.here hx rfl (hb hby dp22_4_19) rfl ?_
      refine XS.istoreN X1225.here hx rfl (hb hby dp22_4_20) rfl (l' := #[sR P, sR W, sI 3, .val (.int ((((0 : Int32) + r1217) + r1221) + r1225)), sI 2, sU, sU, sU, sU]) rfl ?_
      refine XS.iinc X1225.here hx rfl (hb hby dp22_4_21) rfl (l' := #[sR P, sR W, sI 3, .val (.int ((((0 : Int32) + r1217) + r1221) + r1225)), sI 3, sU, sU, sU, sU]) rfl ?_
      refine XS.goto X1225.here hx rfl (pc0 := 24) (pc' := 5) rfl (hb hby dp22_4_24) (by decide) (by decide) ?_
      refine XS.iload X1225.here hx rfl (hb hby dp22_4_5) rfl ?_
      refine XS.iloadN X1225.here hx rfl (hb hby dp22_4_7) rfl ?_
      refine XS.icmpYes X1225.here hx rfl (pc0 := 8) (pc' := 27) rfl (hb hby dp22_4_8) rfl (flt (show ¬ ((3 : Int32) < (3 : Int32)) from (by decide))).2.1 (by decide) (by decide) ?_
      show Sg p e below (T1225.setTop (mkF m 27 #[sR P, sR W, sI 3, .val (.int ((((0 : Int32) + r1217) + r1221) + r1225)), sI 3, sU, sU, sU, sU] [])) _
      exact k)
    have P1229 : Rg p e below (T1225.setTop (mkF m 27 #[sR P, sR W, sI 3, sI N, sI 3, sU, sU, sU, sU] [])) B0 := fun t k => P1228 t (by rw [hN] at k; exact k)
    have hNt : N = Int32.ofNat (g0.length + g1.length + g2.length) := by rw [hN, hb1217, hb1221, hb1225]; exact own_sum3 _ _ _
    obtain ⟨T1230, h1230, k1230, X1230, e1230, E1230, A1230, st1230⟩ := newP X1225 hx hZ (own_hw hw 9 rfl) e1225 (g := (mkF m 28 #[sR P, sR W, sI 3, sI N, sI 3, sU, sU, sU, sU] [(.int N)])) rfl (hb hby dp22_4_28) rfl (own_nneg hNt htt) (cap := 3) (own_capN hNt htt) (by decide) (by decide) (by decide)
    obtain ⟨b1230, g1230⟩ : ∃ z, z = h0.size := ⟨_, rfl⟩
    rw [← g1230] at A1230 st1230
    have g_b1230 : n0 ≤ b1230 := Nat.le_trans Z0 (Nat.le_of_eq g1230.symm)
    have sz_b1230 : h0.size ≤ b1230 := Nat.le_trans (Keep.refl h0 []).1 (Nat.le_of_eq g1230.symm)
    have P1231 : Rg p e below (T1230.setTop (mkF m 30 #[sR P, sR W, sI 3, sI N, sI 3, sU, sU, sU, sU] [(.ref b1230)])) B0 := fun t k => P1229 t (by
      refine XS.iloadN X1225.here hx rfl (hb hby dp22_4_27) rfl ?_
      show Sg p e below (T1225.setTop (mkF m 28 #[sR P, sR W, sI 3, sI N, sI 3, sU, sU, sU, sU] [(.int N)])) _
      exact st1230 _ k)
    have Z1232 : n0 ≤ h1230.size := Nat.le_trans Z0 E1230.1
    have K1233 : Keep h0 h1230 [] := (Keep.refl h0 []).ext E1230
    have v1234 : Arv Z h1230 b1230 k1230 .int N ([] : List Value) (.int (0 : Int32)) := Arv.new A1230 (own_nneg hNt htt)
    have f1235 := (AW.ext E1230)
    obtain ⟨cl1236, Ar1236, -, S1236, N1236, H1236, -⟩ := id f1235
    have hin1236 : ¬ ((0 : Int32) < 0 ∨ cl1236.slots.size ≤ ((0 : Int32)).toNatClampNeg) := inb_of S1236 (own_inb (own_hM2 hM hl hv) (k := 0) (by simp) (own_hm2 hm hl hv))
    have f1237 := (AP.ext E1230)
    have P1238 : Rg p e below (T1230.setTop (mkF m 50 #[sR P, sR W, sI 3, sI N, sR b1230, sI 0, sI 0, .val (.long y0), .second] [])) B0 := fun t k => P1231 t (by
      refine XS.astore X1230.here hx rfl (hb hby dp22_4_30) rfl rfl (l' := #[sR P, sR W, sI 3, sI N, sR b1230, sU, sU, sU, sU]) rfl ?_
      refine XS.iconst X1230.here hx rfl (hb hby dp22_4_32) ?_
      refine XS.istore X1230.here hx rfl (hb hby dp22_4_33) rfl (l' := #[sR P, sR W, sI 3, sI N, sR b1230, sI 0, sU, sU, sU]) rfl ?_
      refine XS.iconst X1230.here hx rfl (hb hby dp22_4_35) ?_
      refine XS.istore X1230.here hx rfl (hb hby dp22_4_36) rfl (l' := #[sR P, sR W, sI 3, sI N, sR b1230, sI 0, sI 0, sU, sU]) rfl ?_
      refine XS.iload X1230.here hx rfl (hb hby dp22_4_38) rfl ?_
      refine XS.iloadN X1230.here hx rfl (hb hby dp22_4_40) rfl ?_
      refine XS.icmpNo X1230.here hx rfl (hb hby dp22_4_41) rfl (tlt (show (0 : Int32) < (3 : Int32) from (by decide))).2.1 ?_
      refine XS.aloadN X1230.here hx rfl (hb hby dp22_4_44) rfl rfl ?_
      refine XS.iload X1230.here hx rfl (hb hby dp22_4_45) rfl ?_
      show Sg p e below (T1230.setTop (mkF m 47 #[sR P, sR W, sI 3, sI N, sR b1230, sI 0, sI 0, sU, sU] [(.int (0 : Int32)), (.ref W)])) _
      refine X1230.laload hx (j := (0 : Int32)) (v := (.long y0)) (by rw [e1230]; exact Ar1236.1) (State.isArrayOf_alike hZ.alike Ar1236.2.1) Ar1236.2.2 hin1236 (H1236.at hin1236 rfl) (g := (mkF m 47 #[sR P, sR W, sI 3, sI N, sR b1230, sI 0, sI 0, sU, sU] [(.int (0 : Int32)), (.ref W)])) rfl rfl (hb hby dp22_4_47) _ ?_
      show Sg p e below (T1230.setTop (mkF m 48 #[sR P, sR W, sI 3, sI N, sR b1230, sI 0, sI 0, sU, sU] [(.long y0)])) _
      refine XS.lstore X1230.here hx rfl (hb hby dp22_4_48) rfl (l' := #[sR P, sR W, sI 3, sI N, sR b1230, sI 0, sI 0, .val (.long y0), .second]) rfl ?_
      show Sg p e below (T1230.setTop (mkF m 50 #[sR P, sR W, sI 3, sI N, sR b1230, sI 0, sI 0, .val (.long y0), .second] [])) _
      exact k)
    obtain ⟨T1239, h1239, L1239, nx21239, X1239, e1239, Nq1239, K1239, u1239_0, u1239_1, st1239⟩ := pc_grp P W b1230 kP k1230 M (3 : Int32) N N (0 : Int32) (0 : Int32) x0 (([x0, x1, x2] ++ ur).map Value.int) ([] : List Int32) (g0.length + g1.length + g2.length) y0 g0 X1230 hx hZ hw hby hml hown e1230 N1226 Z1232 (Nat.le_of_ble_eq_true rfl) (Nat.le_of_ble_eq_true rfl) (by decide) (by decide) g_b1230 f1237 (own_inb hM (k := 0) (by simp) hm) rfl v1234 hNt htt rfl (Nat.ne_of_lt (Nat.lt_of_lt_of_le AP.lt (Nat.le_of_eq g1230.symm))) (by simp only [List.length_append, List.length_nil]; omega) hw0 ho0
    have P1240 : Rg p e below (T1239.setTop (mkF m 50 #[sR P, sR W, sI 3, sI N, sR b1230, sI nx21239, sI 0, .val (.long (0 : Int64)), .second] [])) B0 := fun t k => P1238 t (by
      exact st1239 _ k)
    have Z1241 : n0 ≤ h1239.size := Nat.le_trans Z1232 K1239.1
    have K1242 : Keep h0 h1239 [] := K1233.trans K1239 ((allS (Or.inr sz_b1230) all0))
    have f1243 := (f1235.keep K1239 (ninS (Nat.ne_of_lt (Nat.lt_of_lt_of_le AW.lt (Nat.le_of_eq g1230.symm))) nin0))
    obtain ⟨cl1244, Ar1244, -, S1244, N1244, H1244, -⟩ := id f1243
    have hin1244 : ¬ ((1 : Int32) < 0 ∨ cl1244.slots.size ≤ ((1 : Int32)).toNatClampNeg) := inb_of S1244 (own_inb (own_hM2 hM hl hv) (k := 1) (by simp) (own_hm2 hm hl hv))
    have f1245 := (f1237.keep K1239 (ninS (Nat.ne_of_lt (Nat.lt_of_lt_of_le AP.lt (Nat.le_of_eq g1230.symm))) nin0))
    have P1246 : Rg p e below (T1239.setTop (mkF m 50 #[sR P, sR W, sI 3, sI N, sR b1230, sI nx21239, sI 1, .val (.long y1), .second] [])) B0 := fun t k => P1240 t (by
      refine XS.lload X1239.here hx rfl (hb hby dp22_4_50) rfl ?_
      refine XS.lconst X1239.here hx rfl (hb hby dp22_4_52) ?_
      refine XS.lcmp X1239.here hx rfl (hb hby dp22_4_53) rfl ?_
      refine XS.ifYes X1239.here hx rfl (pc0 := 54) (pc' := 90) rfl (hb hby dp22_4_54) rfl (XT.ll_eq_t (show (0 : Int64) = (0 : Int64) from (by decide))) (by decide) (by decide) ?_
      refine XS.iinc X1239.here hx rfl (hb hby dp22_4_90) rfl (l' := #[sR P, sR W, sI 3, sI N, sR b1230, sI nx21239, sI 1, .val (.long (0 : Int64)), .second]) rfl ?_
      refine XS.goto X1239.here hx rfl (pc0 := 93) (pc' := 38) rfl (hb hby dp22_4_93) (by decide) (by decide) ?_
      refine XS.iload X1239.here hx rfl (hb hby dp22_4_38) rfl ?_
      refine XS.iloadN X1239.here hx rfl (hb hby dp22_4_40) rfl ?_
      refine XS.icmpNo X1239.here hx rfl (hb hby dp22_4_41) rfl (tlt (show (1 : Int32) < (3 : Int32) from (by decide))).2.1 ?_
      refine XS.aloadN X1239.here hx rfl (hb hby dp22_4_44) rfl rfl ?_
      refine XS.iload X1239.here hx rfl (hb hby dp22_4_45) rfl ?_
      show Sg p e below (T1239.setTop (mkF m 47 #[sR P, sR W, sI 3, sI N, sR b1230, sI nx21239, sI 1, .val (.long (0 : Int64)), .second] [(.int (1 : Int32)), (.ref W)])) _
      refine X1239.laload hx (j := (1 : Int32)) (v := (.long y1)) (by rw [e1239]; exact Ar1244.1) (State.isArrayOf_alike hZ.alike Ar1244.2.1) Ar1244.2.2 hin1244 (H1244.at hin1244 rfl) (g := (mkF m 47 #[sR P, sR W, sI 3, sI N, sR b1230, sI nx21239, sI 1, .val (.long (0 : Int64)), .second] [(.int (1 : Int32)), (.ref W)])) rfl rfl (hb hby dp22_4_47) _ ?_
      show Sg p e below (T1239.setTop (mkF m 48 #[sR P, sR W, sI 3, sI N, sR b1230, sI nx21239, sI 1, .val (.long (0 : Int64)), .second] [(.long y1)])) _
      refine XS.lstore X1239.here hx rfl (hb hby dp22_4_48) rfl (l' := #[sR P, sR W, sI 3, sI N, sR b1230, sI nx21239, sI 1, .val (.long y1), .second]) rfl ?_
      show Sg p e below (T1239.setTop (mkF m 50 #[sR P, sR W, sI 3, sI N, sR b1230, sI nx21239, sI 1, .val (.long y1), .second] [])) _
      exact k)
    obtain ⟨T1247, h1247, L1247, nx21247, X1247, e1247, Nq1247, K1247, u1247_0, u1247_1, st1247⟩ := pc_grp P W b1230 kP k1230 M (3 : Int32) N N nx21239 (1 : Int32) x1 (([x0, x1, x2] ++ ur).map Value.int) (([] : List Int32) ++ g0) (g0.length + g1.length + g2.length) y1 g1 X1239 hx hZ hw hby hml hown e1239 Nq1239 Z1241 (Nat.le_of_ble_eq_true rfl) (Nat.le_of_ble_eq_true rfl) (by decide) (by decide) g_b1230 f1245 (own_inb hM (k := 1) (by simp) hm) rfl u1239_1 hNt htt u1239_0 (Nat.ne_of_lt (Nat.lt_of_lt_of_le AP.lt (Nat.le_of_eq g1230.symm))) (by simp only [List.length_append, List.length_nil]; omega) hw1 ho1
    have P1248 : Rg p e below (T1247.setTop (mkF m 50 #[sR P, sR W, sI 3, sI N, sR b1230, sI nx21247, sI 1, .val (.long (0 : Int64)), .second] [])) B0 := fun t k => P1246 t (by
      exact st1247 _ k)
    have Z1249 : n0 ≤ h1247.size := Nat.le_trans Z1241 K1247.1
    have K1250 : Keep h0 h1247 [] := K1242.trans K1247 ((allS (Or.inr sz_b1230) all0))
    have f1251 := (f1243.keep K1247 (ninS (Nat.ne_of_lt (Nat.lt_of_lt_of_le AW.lt (Nat.le_of_eq g1230.symm))) nin0))
    obtain ⟨cl1252, Ar1252, -, S1252, N1252, H1252, -⟩ := id f1251
    have hin1252 : ¬ ((2 : Int32) < 0 ∨ cl1252.slots.size ≤ ((2 : Int32)).toNatClampNeg) := inb_of S1252 (own_inb (own_hM2 hM hl hv) (k := 2) (by simp) (own_hm2 hm hl hv))
    have f1253 := (f1245.keep K1247 (ninS (Nat.ne_of_lt (Nat.lt_of_lt_of_le AP.lt (Nat.le_of_eq g1230.symm))) nin0))
    have P1254 : Rg p e below (T1247.setTop (mkF m 50 #[sR P, sR W, sI 3, sI N, sR b1230, sI nx21247, sI 2, .val (.long y2), .second] [])) B0 := fun t k => P1248 t (by
      refine XS.lload X1247.here hx rfl (hb hby dp22_4_50) rfl ?_
      refine XS.lconst X1247.here hx rfl (hb hby dp22_4_52) ?_
      refine XS.lcmp X1247.here hx rfl (hb hby dp22_4_53) rfl ?_
      refine XS.ifYes X1247.here hx rfl (pc0 := 54) (pc' := 90) rfl (hb hby dp22_4_54) rfl (XT.ll_eq_t (show (0 : Int64) = (0 : Int64) from (by decide))) (by decide) (by decide) ?_
      refine XS.iinc X1247.here hx rfl (hb hby dp22_4_90) rfl (l' := #[sR P, sR W, sI 3, sI N, sR b1230, sI nx21247, sI 2, .val (.long (0 : Int64)), .second]) rfl ?_
      refine XS.goto X1247.here hx rfl (pc0 := 93) (pc' := 38) rfl (hb hby dp22_4_93) (by decide) (by decide) ?_
      refine XS.iload X1247.here hx rfl (hb hby dp22_4_38) rfl ?_
      refine XS.iloadN X1247.here hx rfl (hb hby dp22_4_40) rfl ?_
      refine XS.icmpNo X1247.here hx rfl (hb hby dp22_4_41) rfl (tlt (show (2 : Int32) < (3 : Int32) from (by decide))).2.1 ?_
      refine XS.aloadN X1247.here hx rfl (hb hby dp22_4_44) rfl rfl ?_
      refine XS.iload X1247.here hx rfl (hb hby dp22_4_45) rfl ?_
      show Sg p e below (T1247.setTop (mkF m 47 #[sR P, sR W, sI 3, sI N, sR b1230, sI nx21247, sI 2, .val (.long (0 : Int64)), .second] [(.int (2 : Int32)), (.ref W)])) _
      refine X1247.laload hx (j := (2 : Int32)) (v := (.long y2)) (by rw [e1247]; exact Ar1252.1) (State.isArrayOf_alike hZ.alike Ar1252.2.1) Ar1252.2.2 hin1252 (H1252.at hin1252 rfl) (g := (mkF m 47 #[sR P, sR W, sI 3, sI N, sR b1230, sI nx21247, sI 2, .val (.long (0 : Int64)), .second] [(.int (2 : Int32)), (.ref W)])) rfl rfl (hb hby dp22_4_47) _ ?_
      show Sg p e below (T1247.setTop (mkF m 48 #[sR P, sR W, sI 3, sI N, sR b1230, sI nx21247, sI 2, .val (.long (0 : Int64)), .second] [(.long y2)])) _
      refine XS.lstore X1247.here hx rfl (hb hby dp22_4_48) rfl (l' := #[sR P, sR W, sI 3, sI N, sR b1230, sI nx21247, sI 2, .val (.long y2), .second]) rfl ?_
      show Sg p e below (T1247.setTop (mkF m 50 #[sR P, sR W, sI 3, sI N, sR b1230, sI nx21247, sI 2, .val (.long y2), .second] [])) _
      exact k)
    obtain ⟨T1255, h1255, L1255, nx21255, X1255, e1255, Nq1255, K1255, u1255_0, u1255_1, st1255⟩ := pc_grp P W b1230 kP k1230 M (3 : Int32) N N nx21247 (2 : Int32) x2 (([x0, x1, x2] ++ ur).map Value.int) ((([] : List Int32) ++ g0) ++ g1) (g0.length + g1.length + g2.length) y2 g2 X1247 hx hZ hw hby hml hown e1247 Nq1247 Z1249 (Nat.le_of_ble_eq_true rfl) (Nat.le_of_ble_eq_true rfl) (by decide) (by decide) g_b1230 f1253 (own_inb hM (k := 2) (by simp) hm) rfl u1247_1 hNt htt u1247_0 (Nat.ne_of_lt (Nat.lt_of_lt_of_le AP.lt (Nat.le_of_eq g1230.symm))) (by simp only [List.length_append, List.length_nil]; omega) hw2 ho2
    have P1256 : Rg p e below (T1255.setTop (mkF m 50 #[sR P, sR W, sI 3, sI N, sR b1230, sI nx21255, sI 2, .val (.long (0 : Int64)), .second] [])) B0 := fun t k => P1254 t (by
      exact st1255 _ k)
    have Z1257 : n0 ≤ h1255.size := Nat.le_trans Z1249 K1255.1
    have K1258 : Keep h0 h1255 [] := K1250.trans K1255 ((allS (Or.inr sz_b1230) all0))
    have AR9 : Arv Z h1255 b1230 k1230 .int N (([g0, g1, g2] : List (List Int32)).flatten.map Value.int) (.int (0 : Int32)) := by simpa using u1255_1
    obtain ⟨fs1259, hr1259, hrun1259, hended1259, hW1259, hsame1259⟩ := X1255.leave (v := some (.ref b1230)) (fun h => by rw [Bd.returns] at h; cases h)
    refine ⟨_, _, pre0 _ (P1256 _ ?_), hrun1259, hended1259, _, _, rfl, ?_, ⟨⟨_, rfl⟩, hW1259, hsame1259.mono (Nat.le_of_ble_eq_true rfl) (Nat.le_of_ble_eq_true rfl)⟩⟩
    · show Sg p e below (T1255.setTop (mkF m 50 #[sR P, sR W, sI 3, sI N, sR b1230, sI nx21255, sI 2, .val (.long (0 : Int64)), .second] [])) _
      refine XS.lload X1255.here hx rfl (hb hby dp22_4_50) rfl ?_
      refine XS.lconst X1255.here hx rfl (hb hby dp22_4_52) ?_
      refine XS.lcmp X1255.here hx rfl (hb hby dp22_4_53) rfl ?_
      refine XS.ifYes X1255.here hx rfl (pc0 := 54) (pc' := 90) rfl (hb hby dp22_4_54) rfl (XT.ll_eq_t (show (0 : Int64) = (0 : Int64) from (by decide))) (by decide) (by decide) ?_
      refine XS.iinc X1255.here hx rfl (hb hby dp22_4_90) rfl (l' := #[sR P, sR W, sI 3, sI N, sR b1230, sI nx21255, sI 3, .val (.long (0 : Int64)), .second]) rfl ?_
      refine XS.goto X1255.here hx rfl (pc0 := 93) (pc' := 38) rfl (hb hby dp22_4_93) (by decide) (by decide) ?_
      refine XS.iload X1255.here hx rfl (hb hby dp22_4_38) rfl ?_
      refine XS.iloadN X1255.here hx rfl (hb hby dp22_4_40) rfl ?_
      refine XS.icmpYes X1255.here hx rfl (pc0 := 41) (pc' := 96) rfl (hb hby dp22_4_41) rfl (flt (show ¬ ((3 : Int32) < (3 : Int32)) from (by decide))).2.1 (by decide) (by decide) ?_
      refine XS.aload X1255.here hx rfl (hb hby dp22_4_96) rfl rfl ?_
      show Sg p e below (T1255.setTop (mkF m 98 #[sR P, sR W, sI 3, sI N, sR b1230, sI nx21255, sI 3, .val (.long (0 : Int64)), .second] [(.ref b1230)])) _
      exact retOut X1255 hx Bd.returns rfl (Or.inr (Or.inr (Or.inr (Or.inr ⟨rfl, rfl, rfl⟩)))) (hb hby dp22_4_98) hr1259
    · show Q_mem Z ([g0, g1, g2] : List (List Int32)) h0 n0 _ T1255.heap _
      rw [e1255]
      exact ⟨b1230, _, N, rfl, Nq1255, K1258, by rw [hNt]; simp [Nat.add_assoc], AR9, sz_b1230⟩
  · exact absurd hlen (by simp)
theorem dp23_6_0 : decode prog_23_method_6_code 0 = .ok (.aload_n 0, 1) := by decide +kernel
theorem dp23_6_1 : decode prog_23_method_6_code 1 = .ok (.getfield 7, 3) := by decide +kernel
theorem dp23_6_4 : decode prog_23_method_6_code 4 = .ok (.aload_n 0, 1) := by decide +kernel
theorem dp23_6_5 : decode prog_23_method_6_code 5 = .ok (.getfield 13, 3) := by decide +kernel
theorem dp23_6_8 : decode prog_23_method_6_code 8 = .ok (.aload_n 0, 1) := by decide +kernel
theorem dp23_6_9 : decode prog_23_method_6_code 9 = .ok (.getfield 25, 3) := by decide +kernel
theorem dp23_6_12 : decode prog_23_method_6_code 12 = .ok (.invokestatic 37, 3) := by decide +kernel
theorem pd__28_5bI_5bJI_29_5bI : parseMethodDescriptor "([I[JI)[I" = some ⟨[(.array .int), (.array .long), .int], some (.array .int)⟩ := by decide +kernel
theorem dp23_6_15 : decode prog_23_method_6_code 15 = .ok (.areturn, 1) := by decide +kernel
theorem ef_mbr (m : MethodId) (x0 : Addr) : entryFrame m #[(.ref x0)] 1 = mkF m 0 #[sR x0] [] := by (first | (simp [entryFrame, mkF, argsToLocals, Value.category]; done) | rfl)
def Q_mbr (Z : State) (gs : List (List Int32)) (h0 : Heap) (n0 : Nat) (v : Option Value) (h : Heap) (L : List Loc) : Prop := ∃ (R : Addr) (k : ClassId) (N : Int32), v = some (.ref R) ∧ Fr n0 L ∧ Keep h0 h [] ∧ N = Int32.ofNat gs.flatten.length ∧ Arv Z h R k .int N (gs.flatten.map Value.int) (.int (0 : Int32)) ∧ h0.size ≤ R
set_option maxRecDepth 65536 in
set_option maxHeartbeats 40000000 in
theorem rm_mbr (l : Launch) (Z : State) (a0 : Array Value) (hw : ∀ d ∈ tables_1, d.before a0 Z = true) (ws : List Jvm.Cond) (a1 P W : Addr) (kP kW : ClassId) (M : Int32) (pl ur : List Int32) (wv vr : List Int64) (cn : Int32) (gs : List (List Int32)) (h0 : Heap) (n0 : Nat) (Z0 : n0 ≤ h0.size) (g_a1 : n0 ≤ a1) (g_P : n0 ≤ P) (g_W : n0 ≤ W) (E1 : Exa Z h0 a1 sM) (EP : Exa Z h0 P "[I") (EW1 : Exa Z h0 W "[J") (Fp : Fld Z h0 a1 sM "places" "[I" (.ref P)) (Fw : Fld Z h0 a1 sM "words" "[J" (.ref W)) (Fc : Fld Z h0 a1 sM "count" "I" (.int cn)) (AP : Arv Z h0 P kP .int M ((pl ++ ur).map Value.int) (.int (0 : Int32))) (AW : Arv Z h0 W kW .long M ((wv ++ vr).map Value.long) (.long (0 : Int64))) (hM : M = Int32.ofNat (pl ++ ur).length) (hm : (pl ++ ur).length ≤ 3) (hc : cn = Int32.ofNat pl.length) (hl : wv.length = pl.length) (hv : vr.length = ur.length) (hR : own_Rep pl wv gs) (hcap : ∀ g ∈ gs, g.length + gs.length ≤ 4) (htot : gs.flatten.length ≤ 3) :
    MetFree l (⟨"com/example/whittle/whittle/engine/WordSets$Meet", "members", "()[I"⟩ : MethodName) (head1 (Jvm.Cond.code (⟨"com/example/whittle/whittle/engine/WordSets$Meet", "members", "()[I"⟩ : MethodName) prog_23_method_6_code 1 (some (.array .int)) :: ws) ({ frames := 3, cells := 1, slots := 3, locals := 51 } : Room)) (fun a U => a = #[(.ref a1)] ∧ Z.Warmed39 U.vm ∧ U.heap = h0) (fun _ _ _ _ _ => True) (fun _ U o U' => ∃ v L, o = .returned v ∧ Q_mbr Z gs h0 n0 v U'.heap L ∧ FrameEnd U o U' L ({ frames := 3, cells := 1, slots := 3, locals := 51 } : Room).cells ({ frames := 3, cells := 1, slots := 3, locals := 51 } : Room).slots) := by
  refine MetFree.of_bodySF (plainFor_of_name pn_com_example_whittle_whittle_engine_WordSets_Meet) hisR ?_
  intro p e s m args below meth c s₁ Bd hml0 hP hK
  obtain ⟨rfl, hZ, hh⟩ := hP
  have hx := Bd.exec
  have hby := Bd.bytes
  have hml : c.maxLocals = 1 := hml0
  have hown : s.vm.findClass "com/example/whittle/whittle/engine/WordSets$Meet" = some m.cls := findClass_of_methodNamed Bd.named
  have hnm := (name_of_methodNamed Bd.named Bd.method).1
  have X0 : Stand p l e ({ frames := 3, cells := 1, slots := 3, locals := 51 } : Room) s m #[(.ref a1)] below meth c s₁ [] 0 0 := Stand.of_body Bd
  have e0 : s₁.heap = h0 := by rw [← hh, Bd.state]; rfl
  have N0 := Fr.nil n0
  have pre0 : ∀ t, Sg p e below (s₁.setTop (mkF m 0 #[sR a1] [])) t → Steps p.tables e below (s₁.setTop (entryFrame m #[(.ref a1)] 1)) t := fun t k => castTop (ef_mbr m a1) k
  have P0 : ∀ t, Sg p e below (s₁.setTop (mkF m 0 #[sR a1] [])) t → Sg p e below (s₁.setTop (mkF m 0 #[sR a1] [])) t := fun t k => k
  obtain ⟨B0, pre0, P0⟩ : ∃ B : State, (∀ t, Steps p.tables e below B t → Steps p.tables e below (s₁.setTop (entryFrame m #[(.ref a1)] 1)) t) ∧ Rg p e below (s₁.setTop (mkF m 0 #[sR a1] [])) B := ⟨_, pre0, P0⟩
  obtain ⟨T1260, X1260, e1260, st1260⟩ := getF X0 hx hZ hown (host := "") (Or.inl (own_hw hw 38 rfl)) Via.refl e0 Fp (g := (mkF m 1 #[sR a1] [(.ref a1)])) rfl rfl (hb hby dp23_6_1)
  have P1261 : Rg p e below (T1260.setTop (mkF m 4 #[sR a1] [(.ref P)])) B0 := fun t k => P0 t (by
    refine XS.aloadN X0.here hx rfl (hb hby dp23_6_0) rfl rfl ?_
    show Sg p e below (s₁.setTop (mkF m 1 #[sR a1] [(.ref a1)])) _
    exact st1260 _ k)
  obtain ⟨T1262, X1262, e1262, st1262⟩ := getF X1260 hx hZ hown (host := "") (Or.inl (own_hw hw 40 rfl)) Via.refl e1260 Fw (g := (mkF m 5 #[sR a1] [(.ref a1), (.ref P)])) rfl rfl (hb hby dp23_6_5)
  have P1263 : Rg p e below (T1262.setTop (mkF m 8 #[sR a1] [(.ref W), (.ref P)])) B0 := fun t k => P1261 t (by
    refine XS.aloadN X1260.here hx rfl (hb hby dp23_6_4) rfl rfl ?_
    show Sg p e below (T1260.setTop (mkF m 5 #[sR a1] [(.ref a1), (.ref P)])) _
    exact st1262 _ k)
  obtain ⟨T1264, X1264, e1264, st1264⟩ := getF X1262 hx hZ hown (host := "") (Or.inl (own_hw hw 49 rfl)) Via.refl e1262 Fc (g := (mkF m 9 #[sR a1] [(.ref a1), (.ref W), (.ref P)])) rfl rfl (hb hby dp23_6_9)
  have P1265 : Rg p e below (T1264.setTop (mkF m 12 #[sR a1] [(.int cn), (.ref W), (.ref P)])) B0 := fun t k => P1263 t (by
    refine XS.aloadN X1262.here hx rfl (hb hby dp23_6_8) rfl rfl ?_
    show Sg p e below (T1262.setTop (mkF m 9 #[sR a1] [(.ref a1), (.ref W), (.ref P)])) _
    exact st1264 _ k)
  obtain ⟨_, _, ⟨T1266, L1266, k1266, n1266⟩, -, X1266, ⟨Lc1266, hQ1266, l1266, y1266, z1266⟩, st1266⟩ := callSN X1264 hx (y := (⟨"com/example/whittle/whittle/engine/WordSets", "members", "([I[JI)[I"⟩ : MethodName)) hown (mvMN hZ (own_hw hw 72 rfl)) (mvT hZ (own_hw hw 73 rfl)) (mvT hZ (own_hw hw 12 rfl)) (mvT hZ (own_hw hw 74 rfl)) (by decide) (backOf (W := 0) (rm_mem l Z a0 hw [] P W kP kW M pl ur wv vr cn gs h0 n0 Z0 AP AW hM hm hc hl hv hR hcap htot) hZ (own_hw hw 74 rfl) (own_hw hw 12 rfl) (by decide) (by decide)) (g := (mkF m 12 #[sR a1] [(.int cn), (.ref W), (.ref P)])) rfl (by rw [hml]; rfl) (argsL := [(.ref P), (.ref W), (.int cn)]) (rest := []) (lenOf pd__28_5bI_5bJI_29_5bI rfl) rfl (by show 2 * 0 + _ ≤ _; exact Nat.le_of_eq rfl) (hb hby dp23_6_12) (fun _ _ => ⟨rfl, e1264, (Nat.le_of_ble_eq_true rfl : 0 + 1 ≤ _), (Nat.le_of_ble_eq_true rfl : 0 + 3 ≤ _)⟩)
  dsimp only [Pt.U, Pt.locs, Pt.cells, Pt.slots] at X1266 l1266 y1266 z1266 st1266 hQ1266
  subst l1266 y1266 z1266
  obtain ⟨R1266, k1266, N1266, rfl, Nq1266, K1266, hN1266, A1266, s1266⟩ := hQ1266
  have N1267 := Fr.app N0 Nq1266
  have P1268 : Rg p e below (T1266.setTop (mkF m 15 #[sR a1] [(.ref R1266)])) B0 := fun t k => P1265 t (by
    exact st1266.trans k)
  have Z1269 : n0 ≤ T1266.heap.size := Nat.le_trans Z0 K1266.1
  have K1270 : Keep h0 T1266.heap [] := (Keep.refl h0 []).trans K1266 (all0)
  obtain ⟨fs1271, hr1271, hrun1271, hended1271, hW1271, hsame1271⟩ := X1266.leave (v := some (.ref R1266)) (fun h => by rw [Bd.returns] at h; cases h)
  refine ⟨_, _, pre0 _ (P1268 _ ?_), hrun1271, hended1271, _, _, rfl, ?_, ⟨⟨_, rfl⟩, hW1271, hsame1271.mono (Nat.le_of_ble_eq_true rfl) (Nat.le_of_ble_eq_true rfl)⟩⟩
  · show Sg p e below (T1266.setTop (mkF m 15 #[sR a1] [(.ref R1266)])) _
    exact retOut X1266 hx Bd.returns rfl (Or.inr (Or.inr (Or.inr (Or.inr ⟨rfl, rfl, rfl⟩)))) (hb hby dp23_6_15) hr1271
  · show Q_mbr Z gs h0 n0 _ T1266.heap _
    exact ⟨_, _, _, rfl, N1267, K1270, hN1266, A1266, s1266⟩
theorem d_method_2_code_0 : decode method_2_code 0 = .ok (.iload_n 0, 1) := by decide +kernel
theorem d_method_2_code_1 : decode method_2_code 1 = .ok (.iconst 1, 1) := by decide +kernel
theorem d_method_2_code_2 : decode method_2_code 2 = .ok (.iand, 1) := by decide +kernel
theorem d_method_2_code_3 : decode method_2_code 3 = .ok (.ifCond .eq 10, 3) := by decide +kernel
theorem d_method_2_code_13 : decode method_2_code 13 = .ok (.iload_n 0, 1) := by decide +kernel
theorem d_method_2_code_14 : decode method_2_code 14 = .ok (.iconst 1, 1) := by decide +kernel
theorem d_method_2_code_15 : decode method_2_code 15 = .ok (.iushr, 1) := by decide +kernel
theorem d_method_2_code_16 : decode method_2_code 16 = .ok (.ldc 7, 2) := by decide +kernel
theorem d_method_2_code_18 : decode method_2_code 18 = .ok (.iand, 1) := by decide +kernel
theorem d_method_2_code_19 : decode method_2_code 19 = .ok (.ireturn, 1) := by decide +kernel
theorem d_method_2_code_6 : decode method_2_code 6 = .ok (.iload_n 0, 1) := by decide +kernel
theorem d_method_2_code_7 : decode method_2_code 7 = .ok (.iconst 1, 1) := by decide +kernel
theorem d_method_2_code_8 : decode method_2_code 8 = .ok (.iushr, 1) := by decide +kernel
theorem d_method_2_code_9 : decode method_2_code 9 = .ok (.bipush 63, 2) := by decide +kernel
theorem d_method_2_code_11 : decode method_2_code 11 = .ok (.iand, 1) := by decide +kernel
theorem d_method_2_code_12 : decode method_2_code 12 = .ok (.ireturn, 1) := by decide +kernel
theorem pn_com_example_whittle_whittle_engine_MeetMembersPinLaw : plainName "com/example/whittle/whittle/engine/MeetMembersPinLaw" = true := by first | (simp [plainName, overriddenIn]; done) | decide +kernel
theorem ef_gap (m : MethodId) (x0 : Int32) : entryFrame m #[(.int x0)] 1 = mkF m 0 #[sI x0] [] := by (first | (simp [entryFrame, mkF, argsToLocals, Value.category]; done) | rfl)
def Q_gap  (h0 : Heap) (n0 : Nat) (v : Option Value) (h : Heap) (L : List Loc) : Prop := ∃ r : Int32, v = some (.int r) ∧ Fr n0 L ∧ h = h0 ∧ r.toBitVec.toNat ≤ 268435455
set_option maxRecDepth 65536 in
set_option maxHeartbeats 40000000 in
theorem rm_gap (l : Launch) (Z : State) (a0 : Array Value) (hw : ∀ d ∈ tables_1, d.before a0 Z = true) (ws : List Jvm.Cond) (p0 : Int32) (h0 : Heap) (n0 : Nat) (Z0 : n0 ≤ h0.size)  :
    MetFree l (⟨"com/example/whittle/whittle/engine/MeetMembersPinLaw", "gap", "(I)I"⟩ : MethodName) (head1 (Jvm.Cond.code (⟨"com/example/whittle/whittle/engine/MeetMembersPinLaw", "gap", "(I)I"⟩ : MethodName) method_2_code 1 (some .int) :: ws) ({ frames := 0, cells := 0, slots := 0, locals := 0 } : Room)) (fun a U => a = #[(.int p0)] ∧ Z.Warmed39 U.vm ∧ U.heap = h0) (fun _ _ _ _ _ => True) (fun _ U o U' => ∃ v L, o = .returned v ∧ Q_gap  h0 n0 v U'.heap L ∧ FrameEnd U o U' L ({ frames := 0, cells := 0, slots := 0, locals := 0 } : Room).cells ({ frames := 0, cells := 0, slots := 0, locals := 0 } : Room).slots) := by
  refine MetFree.of_bodySF (plainFor_of_name pn_com_example_whittle_whittle_engine_MeetMembersPinLaw) hisR ?_
  intro p e s m args below meth c s₁ Bd hml0 hP hK
  obtain ⟨rfl, hZ, hh⟩ := hP
  have hx := Bd.exec
  have hby := Bd.bytes
  have hml : c.maxLocals = 1 := hml0
  have hown : s.vm.findClass "com/example/whittle/whittle/engine/MeetMembersPinLaw" = some m.cls := findClass_of_methodNamed Bd.named
  have hnm := (name_of_methodNamed Bd.named Bd.method).1
  have X0 : Stand p l e ({ frames := 0, cells := 0, slots := 0, locals := 0 } : Room) s m #[(.int p0)] below meth c s₁ [] 0 0 := Stand.of_body Bd
  have e0 : s₁.heap = h0 := by rw [← hh, Bd.state]; rfl
  have N0 := Fr.nil n0
  have pre0 : ∀ t, Sg p e below (s₁.setTop (mkF m 0 #[sI p0] [])) t → Steps p.tables e below (s₁.setTop (entryFrame m #[(.int p0)] 1)) t := fun t k => castTop (ef_gap m p0) k
  have P0 : ∀ t, Sg p e below (s₁.setTop (mkF m 0 #[sI p0] [])) t → Sg p e below (s₁.setTop (mkF m 0 #[sI p0] [])) t := fun t k => k
  obtain ⟨B0, pre0, P0⟩ : ∃ B : State, (∀ t, Steps p.tables e below B t → Steps p.tables e below (s₁.setTop (entryFrame m #[(.int p0)] 1)) t) ∧ Rg p e below (s₁.setTop (mkF m 0 #[sI p0] [])) B := ⟨_, pre0, P0⟩
  have P1272 : Rg p e below (s₁.setTop (mkF m 3 #[sI p0] [(.int (p0 &&& (1 : Int32)))])) B0 := fun t k => P0 t (by
    refine XS.iloadN X0.here hx rfl (hb hby d_method_2_code_0) rfl ?_
    refine XS.iconst X0.here hx rfl (hb hby d_method_2_code_1) ?_
    refine XS.iand X0.here hx rfl (hb hby d_method_2_code_2) rfl ?_
    show Sg p e below (s₁.setTop (mkF m 3 #[sI p0] [(.int (p0 &&& (1 : Int32)))])) _
    exact k)
  by_cases q1273 : (p0 &&& (1 : Int32)) = (0 : Int32)
  · skip
    obtain ⟨fs1274, hr1274, hrun1274, hended1274, hW1274, hsame1274⟩ := X0.leave (v := some (.int (((p0.toUInt32 >>> ((1 : Int32) &&& 31).toUInt32).toInt32) &&& (268435455 : Int32)))) (fun h => by rw [Bd.returns] at h; cases h)
    refine ⟨_, _, pre0 _ (P1272 _ ?_), hrun1274, hended1274, _, _, rfl, ?_, ⟨⟨_, rfl⟩, hW1274, hsame1274.mono (Nat.le_of_ble_eq_true rfl) (Nat.le_of_ble_eq_true rfl)⟩⟩
    · show Sg p e below (s₁.setTop (mkF m 3 #[sI p0] [(.int (p0 &&& (1 : Int32)))])) _
      refine XS.ifYes X0.here hx rfl (pc0 := 3) (pc' := 13) rfl (hb hby d_method_2_code_3) rfl ((if0 _ _).trans (teq (show (p0 &&& (1 : Int32)) = (0 : Int32) from q1273)).1) (by decide) (by decide) ?_
      refine XS.iloadN X0.here hx rfl (hb hby d_method_2_code_13) rfl ?_
      refine XS.iconst X0.here hx rfl (hb hby d_method_2_code_14) ?_
      refine XS.iushr X0.here hx rfl (hb hby d_method_2_code_15) rfl ?_
      show Sg p e below (s₁.setTop (mkF m 16 #[sI p0] [(.int ((p0.toUInt32 >>> ((1 : Int32) &&& 31).toUInt32).toInt32))])) _
      refine X0.ldcInt hx hown (mvT hZ (own_hw hw 5 rfl)) (g := (mkF m 16 #[sI p0] [(.int ((p0.toUInt32 >>> ((1 : Int32) &&& 31).toUInt32).toInt32))])) rfl (hb hby d_method_2_code_16) _ ?_
      show Sg p e below (s₁.setTop (mkF m 18 #[sI p0] [(.int (268435455 : Int32)), (.int ((p0.toUInt32 >>> ((1 : Int32) &&& 31).toUInt32).toInt32))])) _
      refine XS.iand X0.here hx rfl (hb hby d_method_2_code_18) rfl ?_
      show Sg p e below (s₁.setTop (mkF m 19 #[sI p0] [(.int (((p0.toUInt32 >>> ((1 : Int32) &&& 31).toUInt32).toInt32) &&& (268435455 : Int32)))])) _
      exact retI X0 hx Bd.returns (hb hby d_method_2_code_19) hr1274
    · show Q_gap  h0 n0 _ s₁.heap _
      rw [e0]
      exact ⟨_, rfl, N0, rfl, Nat.le_trans (own_andn _ _) (by decide)⟩
  · skip
    obtain ⟨fs1275, hr1275, hrun1275, hended1275, hW1275, hsame1275⟩ := X0.leave (v := some (.int (((p0.toUInt32 >>> ((1 : Int32) &&& 31).toUInt32).toInt32) &&& (63 : Int32)))) (fun h => by rw [Bd.returns] at h; cases h)
    refine ⟨_, _, pre0 _ (P1272 _ ?_), hrun1275, hended1275, _, _, rfl, ?_, ⟨⟨_, rfl⟩, hW1275, hsame1275.mono (Nat.le_of_ble_eq_true rfl) (Nat.le_of_ble_eq_true rfl)⟩⟩
    · show Sg p e below (s₁.setTop (mkF m 3 #[sI p0] [(.int (p0 &&& (1 : Int32)))])) _
      refine XS.ifNo X0.here hx rfl (hb hby d_method_2_code_3) rfl ((if0 _ _).trans (feq (show ¬ ((p0 &&& (1 : Int32)) = (0 : Int32)) from q1273)).1) ?_
      refine XS.iloadN X0.here hx rfl (hb hby d_method_2_code_6) rfl ?_
      refine XS.iconst X0.here hx rfl (hb hby d_method_2_code_7) ?_
      refine XS.iushr X0.here hx rfl (hb hby d_method_2_code_8) rfl ?_
      refine XS.bipush X0.here hx rfl (hb hby d_method_2_code_9) ?_
      refine XS.iand X0.here hx rfl (hb hby d_method_2_code_11) rfl ?_
      show Sg p e below (s₁.setTop (mkF m 12 #[sI p0] [(.int (((p0.toUInt32 >>> ((1 : Int32) &&& 31).toUInt32).toInt32) &&& (63 : Int32)))])) _
      exact retI X0 hx Bd.returns (hb hby d_method_2_code_12) hr1275
    · show Q_gap  h0 n0 _ s₁.heap _
      rw [e0]
      exact ⟨_, rfl, N0, rfl, Nat.le_trans (own_andn _ _) (by decide)⟩
theorem d_method_3_code_0 : decode method_3_code 0 = .ok (.iload_n 0, 1) := by decide +kernel
theorem d_method_3_code_1 : decode method_3_code 1 = .ok (.iconst 3, 1) := by decide +kernel
theorem d_method_3_code_2 : decode method_3_code 2 = .ok (.iand, 1) := by decide +kernel
theorem d_method_3_code_3 : decode method_3_code 3 = .ok (.istore 4, 2) := by decide +kernel
theorem d_method_3_code_5 : decode method_3_code 5 = .ok (.iload 4, 2) := by decide +kernel
theorem d_method_3_code_7 : decode method_3_code 7 = .ok (.ifCond .ne 5, 3) := by decide +kernel
theorem d_method_3_code_10 : decode method_3_code 10 = .ok (.iload_n 1, 1) := by decide +kernel
theorem d_method_3_code_11 : decode method_3_code 11 = .ok (.ireturn, 1) := by decide +kernel
theorem d_method_3_code_12 : decode method_3_code 12 = .ok (.iload 4, 2) := by decide +kernel
theorem d_method_3_code_14 : decode method_3_code 14 = .ok (.iconst 1, 1) := by decide +kernel
theorem d_method_3_code_15 : decode method_3_code 15 = .ok (.if_icmp .ne 5, 3) := by decide +kernel
theorem d_method_3_code_18 : decode method_3_code 18 = .ok (.iload_n 2, 1) := by decide +kernel
theorem d_method_3_code_19 : decode method_3_code 19 = .ok (.ireturn, 1) := by decide +kernel
theorem d_method_3_code_20 : decode method_3_code 20 = .ok (.iload 4, 2) := by decide +kernel
theorem d_method_3_code_22 : decode method_3_code 22 = .ok (.iconst 2, 1) := by decide +kernel
theorem d_method_3_code_23 : decode method_3_code 23 = .ok (.if_icmp .ne 5, 3) := by decide +kernel
theorem d_method_3_code_26 : decode method_3_code 26 = .ok (.iload_n 3, 1) := by decide +kernel
theorem d_method_3_code_27 : decode method_3_code 27 = .ok (.ireturn, 1) := by decide +kernel
theorem d_method_3_code_28 : decode method_3_code 28 = .ok (.iload_n 0, 1) := by decide +kernel
theorem d_method_3_code_29 : decode method_3_code 29 = .ok (.iconst 2, 1) := by decide +kernel
theorem d_method_3_code_30 : decode method_3_code 30 = .ok (.iushr, 1) := by decide +kernel
theorem d_method_3_code_31 : decode method_3_code 31 = .ok (.ireturn, 1) := by decide +kernel
theorem ef_pick (m : MethodId) (x0 : Int32) (x1 : Int32) (x2 : Int32) (x3 : Int32) : entryFrame m #[(.int x0), (.int x1), (.int x2), (.int x3)] 5 = mkF m 0 #[sI x0, sI x1, sI x2, sI x3, sU] [] := by (first | (simp [entryFrame, mkF, argsToLocals, Value.category]; done) | rfl)
def Q_pick  (h0 : Heap) (n0 : Nat) (v : Option Value) (h : Heap) (L : List Loc) : Prop := ∃ r : Int32, v = some (.int r) ∧ Fr n0 L ∧ h = h0
set_option maxRecDepth 65536 in
set_option maxHeartbeats 40000000 in
theorem rm_pick (l : Launch) (Z : State) (a0 : Array Value) (hw : ∀ d ∈ tables_1, d.before a0 Z = true) (ws : List Jvm.Cond) (p0 p1 p2 p3 : Int32) (h0 : Heap) (n0 : Nat) (Z0 : n0 ≤ h0.size)  :
    MetFree l (⟨"com/example/whittle/whittle/engine/MeetMembersPinLaw", "pick", "(IIII)I"⟩ : MethodName) (head1 (Jvm.Cond.code (⟨"com/example/whittle/whittle/engine/MeetMembersPinLaw", "pick", "(IIII)I"⟩ : MethodName) method_3_code 5 (some .int) :: ws) ({ frames := 0, cells := 0, slots := 0, locals := 0 } : Room)) (fun a U => a = #[(.int p0), (.int p1), (.int p2), (.int p3)] ∧ Z.Warmed39 U.vm ∧ U.heap = h0) (fun _ _ _ _ _ => True) (fun _ U o U' => ∃ v L, o = .returned v ∧ Q_pick  h0 n0 v U'.heap L ∧ FrameEnd U o U' L ({ frames := 0, cells := 0, slots := 0, locals := 0 } : Room).cells ({ frames := 0, cells := 0, slots := 0, locals := 0 } : Room).slots) := by
  refine MetFree.of_bodySF (plainFor_of_name pn_com_example_whittle_whittle_engine_MeetMembersPinLaw) hisR ?_
  intro p e s m args below meth c s₁ Bd hml0 hP hK
  obtain ⟨rfl, hZ, hh⟩ := hP
  have hx := Bd.exec
  have hby := Bd.bytes
  have hml : c.maxLocals = 5 := hml0
  have hown : s.vm.findClass "com/example/whittle/whittle/engine/MeetMembersPinLaw" = some m.cls := findClass_of_methodNamed Bd.named
  have hnm := (name_of_methodNamed Bd.named Bd.method).1
  have X0 : Stand p l e ({ frames := 0, cells := 0, slots := 0, locals := 0 } : Room) s m #[(.int p0), (.int p1), (.int p2), (.int p3)] below meth c s₁ [] 0 0 := Stand.of_body Bd
  have e0 : s₁.heap = h0 := by rw [← hh, Bd.state]; rfl
  have N0 := Fr.nil n0
  have pre0 : ∀ t, Sg p e below (s₁.setTop (mkF m 0 #[sI p0, sI p1, sI p2, sI p3, sU] [])) t → Steps p.tables e below (s₁.setTop (entryFrame m #[(.int p0), (.int p1), (.int p2), (.int p3)] 5)) t := fun t k => castTop (ef_pick m p0 p1 p2 p3) k
  have P0 : ∀ t, Sg p e below (s₁.setTop (mkF m 0 #[sI p0, sI p1, sI p2, sI p3, sU] [])) t → Sg p e below (s₁.setTop (mkF m 0 #[sI p0, sI p1, sI p2, sI p3, sU] [])) t := fun t k => k
  obtain ⟨B0, pre0, P0⟩ : ∃ B : State, (∀ t, Steps p.tables e below B t → Steps p.tables e below (s₁.setTop (entryFrame m #[(.int p0), (.int p1), (.int p2), (.int p3)] 5)) t) ∧ Rg p e below (s₁.setTop (mkF m 0 #[sI p0, sI p1, sI p2, sI p3, sU] [])) B := ⟨_, pre0, P0⟩
  have P1276 : Rg p e below (s₁.setTop (mkF m 7 #[sI p0, sI p1, sI p2, sI p3, .val (.int (p0 &&& (3 : Int32)))] [(.int (p0 &&& (3 : Int32)))])) B0 := fun t k => P0 t (by
    refine XS.iloadN X0.here hx rfl (hb hby d_method_3_code_0) rfl ?_
    refine XS.iconst X0.here hx rfl (hb hby d_method_3_code_1) ?_
    refine XS.iand X0.here hx rfl (hb hby d_method_3_code_2) rfl ?_
    refine XS.istore X0.here hx rfl (hb hby d_method_3_code_3) rfl (l' := #[sI p0, sI p1, sI p2, sI p3, .val (.int (p0 &&& (3 : Int32)))]) rfl ?_
    refine XS.iload X0.here hx rfl (hb hby d_method_3_code_5) rfl ?_
    show Sg p e below (s₁.setTop (mkF m 7 #[sI p0, sI p1, sI p2, sI p3, .val (.int (p0 &&& (3 : Int32)))] [(.int (p0 &&& (3 : Int32)))])) _
    exact k)
  by_cases q1277 : (p0 &&& (3 : Int32)) = (0 : Int32)
  · skip
    obtain ⟨fs1278, hr1278, hrun1278, hended1278, hW1278, hsame1278⟩ := X0.leave (v := some (.int p1)) (fun h => by rw [Bd.returns] at h; cases h)
    refine ⟨_, _, pre0 _ (P1276 _ ?_), hrun1278, hended1278, _, _, rfl, ?_, ⟨⟨_, rfl⟩, hW1278, hsame1278.mono (Nat.le_of_ble_eq_true rfl) (Nat.le_of_ble_eq_true rfl)⟩⟩
    · show Sg p e below (s₁.setTop (mkF m 7 #[sI p0, sI p1, sI p2, sI p3, .val (.int (p0 &&& (3 : Int32)))] [(.int (p0 &&& (3 : Int32)))])) _
      refine XS.ifNo X0.here hx rfl (hb hby d_method_3_code_7) rfl ((if0 _ _).trans (teq (show (p0 &&& (3 : Int32)) = (0 : Int32) from q1277)).2) ?_
      refine XS.iloadN X0.here hx rfl (hb hby d_method_3_code_10) rfl ?_
      show Sg p e below (s₁.setTop (mkF m 11 #[sI p0, sI p1, sI p2, sI p3, .val (.int (p0 &&& (3 : Int32)))] [(.int p1)])) _
      exact retI X0 hx Bd.returns (hb hby d_method_3_code_11) hr1278
    · show Q_pick  h0 n0 _ s₁.heap _
      rw [e0]
      exact ⟨_, rfl, N0, rfl⟩
  · skip
    have P1279 : Rg p e below (s₁.setTop (mkF m 15 #[sI p0, sI p1, sI p2, sI p3, .val (.int (p0 &&& (3 : Int32)))] [(.int (1 : Int32)), (.int (p0 &&& (3 : Int32)))])) B0 := fun t k => P1276 t (by
      refine XS.ifYes X0.here hx rfl (pc0 := 7) (pc' := 12) rfl (hb hby d_method_3_code_7) rfl ((if0 _ _).trans (feq (show ¬ ((p0 &&& (3 : Int32)) = (0 : Int32)) from q1277)).2) (by decide) (by decide) ?_
      refine XS.iload X0.here hx rfl (hb hby d_method_3_code_12) rfl ?_
      refine XS.iconst X0.here hx rfl (hb hby d_method_3_code_14) ?_
      show Sg p e below (s₁.setTop (mkF m 15 #[sI p0, sI p1, sI p2, sI p3, .val (.int (p0 &&& (3 : Int32)))] [(.int (1 : Int32)), (.int (p0 &&& (3 : Int32)))])) _
      exact k)
    by_cases q1280 : (p0 &&& (3 : Int32)) = (1 : Int32)
    · skip
      obtain ⟨fs1281, hr1281, hrun1281, hended1281, hW1281, hsame1281⟩ := X0.leave (v := some (.int p2)) (fun h => by rw [Bd.returns] at h; cases h)
      refine ⟨_, _, pre0 _ (P1279 _ ?_), hrun1281, hended1281, _, _, rfl, ?_, ⟨⟨_, rfl⟩, hW1281, hsame1281.mono (Nat.le_of_ble_eq_true rfl) (Nat.le_of_ble_eq_true rfl)⟩⟩
      · show Sg p e below (s₁.setTop (mkF m 15 #[sI p0, sI p1, sI p2, sI p3, .val (.int (p0 &&& (3 : Int32)))] [(.int (1 : Int32)), (.int (p0 &&& (3 : Int32)))])) _
        refine XS.icmpNo X0.here hx rfl (hb hby d_method_3_code_15) rfl (teq (show (p0 &&& (3 : Int32)) = (1 : Int32) from q1280)).2 ?_
        refine XS.iloadN X0.here hx rfl (hb hby d_method_3_code_18) rfl ?_
        show Sg p e below (s₁.setTop (mkF m 19 #[sI p0, sI p1, sI p2, sI p3, .val (.int (p0 &&& (3 : Int32)))] [(.int p2)])) _
        exact retI X0 hx Bd.returns (hb hby d_method_3_code_19) hr1281
      · show Q_pick  h0 n0 _ s₁.heap _
        rw [e0]
        exact ⟨_, rfl, N0, rfl⟩
    · skip
      have P1282 : Rg p e below (s₁.setTop (mkF m 23 #[sI p0, sI p1, sI p2, sI p3, .val (.int (p0 &&& (3 : Int32)))] [(.int (2 : Int32)), (.int (p0 &&& (3 : Int32)))])) B0 := fun t k => P1279 t (by
        refine XS.icmpYes X0.here hx rfl (pc0 := 15) (pc' := 20) rfl (hb hby d_method_3_code_15) rfl (feq (show ¬ ((p0 &&& (3 : Int32)) = (1 : Int32)) from q1280)).2 (by decide) (by decide) ?_
        refine XS.iload X0.here hx rfl (hb hby d_method_3_code_20) rfl ?_
        refine XS.iconst X0.here hx rfl (hb hby d_method_3_code_22) ?_
        show Sg p e below (s₁.setTop (mkF m 23 #[sI p0, sI p1, sI p2, sI p3, .val (.int (p0 &&& (3 : Int32)))] [(.int (2 : Int32)), (.int (p0 &&& (3 : Int32)))])) _
        exact k)
      by_cases q1283 : (p0 &&& (3 : Int32)) = (2 : Int32)
      · skip
        obtain ⟨fs1284, hr1284, hrun1284, hended1284, hW1284, hsame1284⟩ := X0.leave (v := some (.int p3)) (fun h => by rw [Bd.returns] at h; cases h)
        refine ⟨_, _, pre0 _ (P1282 _ ?_), hrun1284, hended1284, _, _, rfl, ?_, ⟨⟨_, rfl⟩, hW1284, hsame1284.mono (Nat.le_of_ble_eq_true rfl) (Nat.le_of_ble_eq_true rfl)⟩⟩
        · show Sg p e below (s₁.setTop (mkF m 23 #[sI p0, sI p1, sI p2, sI p3, .val (.int (p0 &&& (3 : Int32)))] [(.int (2 : Int32)), (.int (p0 &&& (3 : Int32)))])) _
          refine XS.icmpNo X0.here hx rfl (hb hby d_method_3_code_23) rfl (teq (show (p0 &&& (3 : Int32)) = (2 : Int32) from q1283)).2 ?_
          refine XS.iloadN X0.here hx rfl (hb hby d_method_3_code_26) rfl ?_
          show Sg p e below (s₁.setTop (mkF m 27 #[sI p0, sI p1, sI p2, sI p3, .val (.int (p0 &&& (3 : Int32)))] [(.int p3)])) _
          exact retI X0 hx Bd.returns (hb hby d_method_3_code_27) hr1284
        · show Q_pick  h0 n0 _ s₁.heap _
          rw [e0]
          exact ⟨_, rfl, N0, rfl⟩
      · skip
        obtain ⟨fs1285, hr1285, hrun1285, hended1285, hW1285, hsame1285⟩ := X0.leave (v := some (.int ((p0.toUInt32 >>> ((2 : Int32) &&& 31).toUInt32).toInt32))) (fun h => by rw [Bd.returns] at h; cases h)
        refine ⟨_, _, pre0 _ (P1282 _ ?_), hrun1285, hended1285, _, _, rfl, ?_, ⟨⟨_, rfl⟩, hW1285, hsame1285.mono (Nat.le_of_ble_eq_true rfl) (Nat.le_of_ble_eq_true rfl)⟩⟩
        · show Sg p e below (s₁.setTop (mkF m 23 #[sI p0, sI p1, sI p2, sI p3, .val (.int (p0 &&& (3 : Int32)))] [(.int (2 : Int32)), (.int (p0 &&& (3 : Int32)))])) _
          refine XS.icmpYes X0.here hx rfl (pc0 := 23) (pc' := 28) rfl (hb hby d_method_3_code_23) rfl (feq (show ¬ ((p0 &&& (3 : Int32)) = (2 : Int32)) from q1283)).2 (by decide) (by decide) ?_
          refine XS.iloadN X0.here hx rfl (hb hby d_method_3_code_28) rfl ?_
          refine XS.iconst X0.here hx rfl (hb hby d_method_3_code_29) ?_
          refine XS.iushr X0.here hx rfl (hb hby d_method_3_code_30) rfl ?_
          show Sg p e below (s₁.setTop (mkF m 31 #[sI p0, sI p1, sI p2, sI p3, .val (.int (p0 &&& (3 : Int32)))] [(.int ((p0.toUInt32 >>> ((2 : Int32) &&& 31).toUInt32).toInt32))])) _
          exact retI X0 hx Bd.returns (hb hby d_method_3_code_31) hr1285
        · show Q_pick  h0 n0 _ s₁.heap _
          rw [e0]
          exact ⟨_, rfl, N0, rfl⟩
set_option maxRecDepth 65536 in
set_option maxHeartbeats 40000000 in
theorem pc_mkl {p : Program} {l : Launch} {e : Env} {R : Room} {s : State} {m : MethodId} {args : Array Value} {below : List Frame} {meth : Method} {c : Code} {T0 : State} {locs : List Loc} {cells slots : Nat} {Z : State} {a0 : Array Value} {h0 : Heap} {n0 : Nat} (p0 p1 p2 p3 p4 p5 xa xb xc nn r1 r2 : Int32) (X0 : Stand p l e R s m args below meth c T0 locs cells slots) (hx : p.tables.exec = Jvm.exec) (hZ : Z.Warmed39 s.vm) (hw : ∀ d ∈ tables_1, d.before a0 Z = true) (hby : c.code = code) (hml : c.maxLocals = 23) (hown : s.vm.findClass "com/example/whittle/whittle/engine/MeetMembersPinLaw" = some m.cls) (e0 : T0.heap = h0) (N0 : Fr n0 locs) (Z0 : n0 ≤ h0.size) (hcc : cells + 1 ≤ R.cells) (hcs : slots + 3 ≤ R.slots) (hfr : 0 ≤ R.frames) (hlo : 0 ≤ R.locals)  :
    ∃ (T' : State) (h' : Heap) (locs' : List Loc) (f0 : Addr) (kf : ClassId) (M0 : Int32) (xs : List Int32), Stand p l e R s m args below meth c T' locs' (cells + 1) (slots + 3) ∧ T'.heap = h' ∧ Fr n0 locs' ∧ Keep h0 h' [] ∧ xs = own_xs nn xa xb xc ∧ M0 = Int32.ofNat xs.length ∧ Arv Z h' f0 kf .int M0 (xs.map Value.int) (.int (0 : Int32)) ∧ Exa Z h' f0 "[I" ∧ h0.size ≤ f0 ∧ ∀ t, Sg p e below (T'.setTop (mkF m 135 #[sI p0, sI p1, sI p2, sI p3, sI p4, sI p5, sI xa, sI xb, sI xc, sI nn, sI r1, sI r2, sR f0, sU, sU, sU, sU, sU, sU, sU, sU, sU, sU] [])) t → Sg p e below (T0.setTop (mkF m 59 #[sI p0, sI p1, sI p2, sI p3, sI p4, sI p5, sI xa, sI xb, sI xc, sI nn, sI r1, sI r2, sU, sU, sU, sU, sU, sU, sU, sU, sU, sU, sU] [])) t := by
  have P0 : ∀ t, Sg p e below (T0.setTop (mkF m 59 #[sI p0, sI p1, sI p2, sI p3, sI p4, sI p5, sI xa, sI xb, sI xc, sI nn, sI r1, sI r2, sU, sU, sU, sU, sU, sU, sU, sU, sU, sU, sU] [])) t → Sg p e below (T0.setTop (mkF m 59 #[sI p0, sI p1, sI p2, sI p3, sI p4, sI p5, sI xa, sI xb, sI xc, sI nn, sI r1, sI r2, sU, sU, sU, sU, sU, sU, sU, sU, sU, sU, sU] [])) t := fun t k => k
  by_cases q1286 : nn = (0 : Int32)
  · skip
    obtain ⟨T1287, h1287, k1287, X1287, e1287, E1287, A1287, B1287, st1287⟩ := newPE X0 hx hZ (own_hw hw 9 rfl) e0 (g := (mkF m 65 #[sI p0, sI p1, sI p2, sI p3, sI p4, sI p5, sI xa, sI xb, sI xc, sI nn, sI r1, sI r2, sU, sU, sU, sU, sU, sU, sU, sU, sU, sU, sU] [(.int (0 : Int32))])) rfl (hb hby at_65) rfl (by decide) (cap := 0) (by decide) (by decide) (by omega) (by omega) (ad := "[I") (by decide)
    obtain ⟨b1287, g1287⟩ : ∃ z, z = h0.size := ⟨_, rfl⟩
    rw [← g1287] at A1287 B1287 st1287
    have g_b1287 : n0 ≤ b1287 := Nat.le_trans Z0 (Nat.le_of_eq g1287.symm)
    have sz_b1287 : h0.size ≤ b1287 := Nat.le_trans (Keep.refl h0 []).1 (Nat.le_of_eq g1287.symm)
    have P1288 : ∀ t, Sg p e below (T1287.setTop (mkF m 67 #[sI p0, sI p1, sI p2, sI p3, sI p4, sI p5, sI xa, sI xb, sI xc, sI nn, sI r1, sI r2, sU, sU, sU, sU, sU, sU, sU, sU, sU, sU, sU] [(.ref b1287)])) t → Sg p e below (T0.setTop (mkF m 59 #[sI p0, sI p1, sI p2, sI p3, sI p4, sI p5, sI xa, sI xb, sI xc, sI nn, sI r1, sI r2, sU, sU, sU, sU, sU, sU, sU, sU, sU, sU, sU] [])) t := fun t k => P0 t (by
      refine XS.iload X0.here hx rfl (hb hby at_59) rfl ?_
      refine XS.ifNo X0.here hx rfl (hb hby at_61) rfl ((if0 _ _).trans (teq (show nn = (0 : Int32) from q1286)).2) ?_
      refine XS.iconst X0.here hx rfl (hb hby at_64) ?_
      show Sg p e below (T0.setTop (mkF m 65 #[sI p0, sI p1, sI p2, sI p3, sI p4, sI p5, sI xa, sI xb, sI xc, sI nn, sI r1, sI r2, sU, sU, sU, sU, sU, sU, sU, sU, sU, sU, sU] [(.int (0 : Int32))])) _
      exact st1287 _ k)
    have Z1289 : n0 ≤ h1287.size := Nat.le_trans Z0 E1287.1
    have K1290 : Keep h0 h1287 [] := (Keep.refl h0 []).ext E1287
    have v1291 : Arv Z h1287 b1287 k1287 .int (0 : Int32) ([] : List Value) (.int (0 : Int32)) := Arv.new A1287 (by decide)
    have P1292 : ∀ t, Sg p e below (T1287.setTop (mkF m 135 #[sI p0, sI p1, sI p2, sI p3, sI p4, sI p5, sI xa, sI xb, sI xc, sI nn, sI r1, sI r2, sR b1287, sU, sU, sU, sU, sU, sU, sU, sU, sU, sU] [])) t → Sg p e below (T0.setTop (mkF m 59 #[sI p0, sI p1, sI p2, sI p3, sI p4, sI p5, sI xa, sI xb, sI xc, sI nn, sI r1, sI r2, sU, sU, sU, sU, sU, sU, sU, sU, sU, sU, sU] [])) t := fun t k => P1288 t (by
      refine XS.astore X1287.here hx rfl (hb hby at_67) rfl rfl (l' := #[sI p0, sI p1, sI p2, sI p3, sI p4, sI p5, sI xa, sI xb, sI xc, sI nn, sI r1, sI r2, sR b1287, sU, sU, sU, sU, sU, sU, sU, sU, sU, sU]) rfl ?_
      refine XS.goto X1287.here hx rfl (pc0 := 69) (pc' := 135) rfl (hb hby at_69) (by decide) (by decide) ?_
      show Sg p e below (T1287.setTop (mkF m 135 #[sI p0, sI p1, sI p2, sI p3, sI p4, sI p5, sI xa, sI xb, sI xc, sI nn, sI r1, sI r2, sR b1287, sU, sU, sU, sU, sU, sU, sU, sU, sU, sU] [])) _
      exact k)
    exact ⟨T1287, h1287, _, b1287, k1287, (0 : Int32), ([] : List Int32), X1287.more (by omega) (by omega), e1287, N0, K1290, ((if_pos q1286)).symm, rfl, v1291, B1287, sz_b1287, P1292⟩
  · skip
    have P1293 : ∀ t, Sg p e below (T0.setTop (mkF m 75 #[sI p0, sI p1, sI p2, sI p3, sI p4, sI p5, sI xa, sI xb, sI xc, sI nn, sI r1, sI r2, sU, sU, sU, sU, sU, sU, sU, sU, sU, sU, sU] [(.int (1 : Int32)), (.int nn)])) t → Sg p e below (T0.setTop (mkF m 59 #[sI p0, sI p1, sI p2, sI p3, sI p4, sI p5, sI xa, sI xb, sI xc, sI nn, sI r1, sI r2, sU, sU, sU, sU, sU, sU, sU, sU, sU, sU, sU] [])) t := fun t k => P0 t (by
      refine XS.iload X0.here hx rfl (hb hby at_59) rfl ?_
      refine XS.ifYes X0.here hx rfl (pc0 := 61) (pc' := 72) rfl (hb hby at_61) rfl ((if0 _ _).trans (feq (show ¬ (nn = (0 : Int32)) from q1286)).2) (by decide) (by decide) ?_
      refine XS.iload X0.here hx rfl (hb hby at_72) rfl ?_
      refine XS.iconst X0.here hx rfl (hb hby at_74) ?_
      show Sg p e below (T0.setTop (mkF m 75 #[sI p0, sI p1, sI p2, sI p3, sI p4, sI p5, sI xa, sI xb, sI xc, sI nn, sI r1, sI r2, sU, sU, sU, sU, sU, sU, sU, sU, sU, sU, sU] [(.int (1 : Int32)), (.int nn)])) _
      exact k)
    by_cases q1294 : nn = (1 : Int32)
    · skip
      obtain ⟨T1295, h1295, k1295, X1295, e1295, E1295, A1295, B1295, st1295⟩ := newPE X0 hx hZ (own_hw hw 9 rfl) e0 (g := (mkF m 79 #[sI p0, sI p1, sI p2, sI p3, sI p4, sI p5, sI xa, sI xb, sI xc, sI nn, sI r1, sI r2, sU, sU, sU, sU, sU, sU, sU, sU, sU, sU, sU] [(.int (1 : Int32))])) rfl (hb hby at_79) rfl (by decide) (cap := 1) (by decide) (by decide) (by omega) (by omega) (ad := "[I") (by decide)
      obtain ⟨b1295, g1295⟩ : ∃ z, z = h0.size := ⟨_, rfl⟩
      rw [← g1295] at A1295 B1295 st1295
      have g_b1295 : n0 ≤ b1295 := Nat.le_trans Z0 (Nat.le_of_eq g1295.symm)
      have sz_b1295 : h0.size ≤ b1295 := Nat.le_trans (Keep.refl h0 []).1 (Nat.le_of_eq g1295.symm)
      have P1296 : ∀ t, Sg p e below (T1295.setTop (mkF m 81 #[sI p0, sI p1, sI p2, sI p3, sI p4, sI p5, sI xa, sI xb, sI xc, sI nn, sI r1, sI r2, sU, sU, sU, sU, sU, sU, sU, sU, sU, sU, sU] [(.ref b1295)])) t → Sg p e below (T0.setTop (mkF m 59 #[sI p0, sI p1, sI p2, sI p3, sI p4, sI p5, sI xa, sI xb, sI xc, sI nn, sI r1, sI r2, sU, sU, sU, sU, sU, sU, sU, sU, sU, sU, sU] [])) t := fun t k => P1293 t (by
        refine XS.icmpNo X0.here hx rfl (hb hby at_75) rfl (teq (show nn = (1 : Int32) from q1294)).2 ?_
        refine XS.iconst X0.here hx rfl (hb hby at_78) ?_
        show Sg p e below (T0.setTop (mkF m 79 #[sI p0, sI p1, sI p2, sI p3, sI p4, sI p5, sI xa, sI xb, sI xc, sI nn, sI r1, sI r2, sU, sU, sU, sU, sU, sU, sU, sU, sU, sU, sU] [(.int (1 : Int32))])) _
        exact st1295 _ k)
      have Z1297 : n0 ≤ h1295.size := Nat.le_trans Z0 E1295.1
      have K1298 : Keep h0 h1295 [] := (Keep.refl h0 []).ext E1295
      have v1299 : Arv Z h1295 b1295 k1295 .int (1 : Int32) [(.int (0 : Int32))] (.int (0 : Int32)) := (Arv.new A1295 (by decide)).pad (pad_rep [] (.int (0 : Int32)) 1)
      obtain ⟨cl1300, Ar1300, q1300, S1300, N1300, H1300, G1300⟩ := id v1299
      obtain ⟨T1300, h1300, X1300, e1300, W1300, st1300⟩ := stI X1295 hx hZ e1295 Ar1300 (j := (0 : Int32)) (inb_of S1300 ⟨by decide, by decide⟩) (g := (mkF m 85 #[sI p0, sI p1, sI p2, sI p3, sI p4, sI p5, sI xa, sI xb, sI xc, sI nn, sI r1, sI r2, sU, sU, sU, sU, sU, sU, sU, sU, sU, sU, sU] [(.int xa), (.int (0 : Int32)), (.ref b1295), (.ref b1295)])) rfl rfl (hb hby at_85)
      have v1301 : Arv Z h1300 b1295 k1295 .int (1 : Int32) [(.int xa)] (.int (0 : Int32)) := Arv.set Ar1300 q1300 S1300 N1300 H1300 G1300 rfl W1300 0 rfl (Nat.le_of_ble_eq_true rfl)
      have P1302 : ∀ t, Sg p e below (T1300.setTop (mkF m 86 #[sI p0, sI p1, sI p2, sI p3, sI p4, sI p5, sI xa, sI xb, sI xc, sI nn, sI r1, sI r2, sU, sU, sU, sU, sU, sU, sU, sU, sU, sU, sU] [(.ref b1295)])) t → Sg p e below (T0.setTop (mkF m 59 #[sI p0, sI p1, sI p2, sI p3, sI p4, sI p5, sI xa, sI xb, sI xc, sI nn, sI r1, sI r2, sU, sU, sU, sU, sU, sU, sU, sU, sU, sU, sU] [])) t := fun t k => P1296 t (by
        refine XS.dup X1295.here hx rfl (hb hby at_81) rfl rfl ?_
        refine XS.iconst X1295.here hx rfl (hb hby at_82) ?_
        refine XS.iload X1295.here hx rfl (hb hby at_83) rfl ?_
        show Sg p e below (T1295.setTop (mkF m 85 #[sI p0, sI p1, sI p2, sI p3, sI p4, sI p5, sI xa, sI xb, sI xc, sI nn, sI r1, sI r2, sU, sU, sU, sU, sU, sU, sU, sU, sU, sU, sU] [(.int xa), (.int (0 : Int32)), (.ref b1295), (.ref b1295)])) _
        exact st1300 _ k)
      have N1303 := Fr.snoc X1300 N0 g_b1295
      have Z1304 : n0 ≤ h1300.size := Nat.le_trans Z1297 (Keep.of_wr W1300).1
      have K1305 : Keep h0 h1300 [] := K1298.wr W1300 (Or.inr sz_b1295)
      have f1306 := (B1295.wr W1300)
      have P1307 : ∀ t, Sg p e below (T1300.setTop (mkF m 135 #[sI p0, sI p1, sI p2, sI p3, sI p4, sI p5, sI xa, sI xb, sI xc, sI nn, sI r1, sI r2, sR b1295, sU, sU, sU, sU, sU, sU, sU, sU, sU, sU] [])) t → Sg p e below (T0.setTop (mkF m 59 #[sI p0, sI p1, sI p2, sI p3, sI p4, sI p5, sI xa, sI xb, sI xc, sI nn, sI r1, sI r2, sU, sU, sU, sU, sU, sU, sU, sU, sU, sU, sU] [])) t := fun t k => P1302 t (by
        refine XS.astore X1300.here hx rfl (hb hby at_86) rfl rfl (l' := #[sI p0, sI p1, sI p2, sI p3, sI p4, sI p5, sI xa, sI xb, sI xc, sI nn, sI r1, sI r2, sR b1295, sU, sU, sU, sU, sU, sU, sU, sU, sU, sU]) rfl ?_
        refine XS.goto X1300.here hx rfl (pc0 := 88) (pc' := 135) rfl (hb hby at_88) (by decide) (by decide) ?_
        show Sg p e below (T1300.setTop (mkF m 135 #[sI p0, sI p1, sI p2, sI p3, sI p4, sI p5, sI xa, sI xb, sI xc, sI nn, sI r1, sI r2, sR b1295, sU, sU, sU, sU, sU, sU, sU, sU, sU, sU] [])) _
        exact k)
      exact ⟨T1300, h1300, _, b1295, k1295, (1 : Int32), ([xa] : List Int32), X1300.more (by omega) (by omega), e1300, N1303, K1305, ((if_neg q1286).trans ((if_pos q1294))).symm, rfl, v1301, f1306, sz_b1295, P1307⟩
    · skip
      have P1308 : ∀ t, Sg p e below (T0.setTop (mkF m 94 #[sI p0, sI p1, sI p2, sI p3, sI p4, sI p5, sI xa, sI xb, sI xc, sI nn, sI r1, sI r2, sU, sU, sU, sU, sU, sU, sU, sU, sU, sU, sU] [(.int (2 : Int32)), (.int nn)])) t → Sg p e below (T0.setTop (mkF m 59 #[sI p0, sI p1, sI p2, sI p3, sI p4, sI p5, sI xa, sI xb, sI xc, sI nn, sI r1, sI r2, sU, sU, sU, sU, sU, sU, sU, sU, sU, sU, sU] [])) t := fun t k => P1293 t (by
        refine XS.icmpYes X0.here hx rfl (pc0 := 75) (pc' := 91) rfl (hb hby at_75) rfl (feq (show ¬ (nn = (1 : Int32)) from q1294)).2 (by decide) (by decide) ?_
        refine XS.iload X0.here hx rfl (hb hby at_91) rfl ?_
        refine XS.iconst X0.here hx rfl (hb hby at_93) ?_
        show Sg p e below (T0.setTop (mkF m 94 #[sI p0, sI p1, sI p2, sI p3, sI p4, sI p5, sI xa, sI xb, sI xc, sI nn, sI r1, sI r2, sU, sU, sU, sU, sU, sU, sU, sU, sU, sU, sU] [(.int (2 : Int32)), (.int nn)])) _
        exact k)
      by_cases q1309 : nn = (2 : Int32)
      · skip
        obtain ⟨T1310, h1310, k1310, X1310, e1310, E1310, A1310, B1310, st1310⟩ := newPE X0 hx hZ (own_hw hw 9 rfl) e0 (g := (mkF m 98 #[sI p0, sI p1, sI p2, sI p3, sI p4, sI p5, sI xa, sI xb, sI xc, sI nn, sI r1, sI r2, sU, sU, sU, sU, sU, sU, sU, sU, sU, sU, sU] [(.int (2 : Int32))])) rfl (hb hby at_98) rfl (by decide) (cap := 2) (by decide) (by decide) (by omega) (by omega) (ad := "[I") (by decide)
        obtain ⟨b1310, g1310⟩ : ∃ z, z = h0.size := ⟨_, rfl⟩
        rw [← g1310] at A1310 B1310 st1310
        have g_b1310 : n0 ≤ b1310 := Nat.le_trans Z0 (Nat.le_of_eq g1310.symm)
        have sz_b1310 : h0.size ≤ b1310 := Nat.le_trans (Keep.refl h0 []).1 (Nat.le_of_eq g1310.symm)
        have P1311 : ∀ t, Sg p e below (T1310.setTop (mkF m 100 #[sI p0, sI p1, sI p2, sI p3, sI p4, sI p5, sI xa, sI xb, sI xc, sI nn, sI r1, sI r2, sU, sU, sU, sU, sU, sU, sU, sU, sU, sU, sU] [(.ref b1310)])) t → Sg p e below (T0.setTop (mkF m 59 #[sI p0, sI p1, sI p2, sI p3, sI p4, sI p5, sI xa, sI xb, sI xc, sI nn, sI r1, sI r2, sU, sU, sU, sU, sU, sU, sU, sU, sU, sU, sU] [])) t := fun t k => P1308 t (by
          refine XS.icmpNo X0.here hx rfl (hb hby at_94) rfl (teq (show nn = (2 : Int32) from q1309)).2 ?_
          refine XS.iconst X0.here hx rfl (hb hby at_97) ?_
          show Sg p e below (T0.setTop (mkF m 98 #[sI p0, sI p1, sI p2, sI p3, sI p4, sI p5, sI xa, sI xb, sI xc, sI nn, sI r1, sI r2, sU, sU, sU, sU, sU, sU, sU, sU, sU, sU, sU] [(.int (2 : Int32))])) _
          exact st1310 _ k)
        have Z1312 : n0 ≤ h1310.size := Nat.le_trans Z0 E1310.1
        have K1313 : Keep h0 h1310 [] := (Keep.refl h0 []).ext E1310
        have v1314 : Arv Z h1310 b1310 k1310 .int (2 : Int32) [(.int (0 : Int32)), (.int (0 : Int32))] (.int (0 : Int32)) := (Arv.new A1310 (by decide)).pad (pad_rep [] (.int (0 : Int32)) 2)
        obtain ⟨cl1315, Ar1315, q1315, S1315, N1315, H1315, G1315⟩ := id v1314
        obtain ⟨T1315, h1315, X1315, e1315, W1315, st1315⟩ := stI X1310 hx hZ e1310 Ar1315 (j := (0 : Int32)) (inb_of S1315 ⟨by decide, by decide⟩) (g := (mkF m 104 #[sI p0, sI p1, sI p2, sI p3, sI p4, sI p5, sI xa, sI xb, sI xc, sI nn, sI r1, sI r2, sU, sU, sU, sU, sU, sU, sU, sU, sU, sU, sU] [(.int xa), (.int (0 : Int32)), (.ref b1310), (.ref b1310)])) rfl rfl (hb hby at_104)
        have v1316 : Arv Z h1315 b1310 k1310 .int (2 : Int32) [(.int xa), (.int (0 : Int32))] (.int (0 : Int32)) := Arv.set Ar1315 q1315 S1315 N1315 H1315 G1315 rfl W1315 0 rfl (Nat.le_of_ble_eq_true rfl)
        have P1317 : ∀ t, Sg p e below (T1315.setTop (mkF m 105 #[sI p0, sI p1, sI p2, sI p3, sI p4, sI p5, sI xa, sI xb, sI xc, sI nn, sI r1, sI r2, sU, sU, sU, sU, sU, sU, sU, sU, sU, sU, sU] [(.ref b1310)])) t → Sg p e below (T0.setTop (mkF m 59 #[sI p0, sI p1, sI p2, sI p3, sI p4, sI p5, sI xa, sI xb, sI xc, sI nn, sI r1, sI r2, sU, sU, sU, sU, sU, sU, sU, sU, sU, sU, sU] [])) t := fun t k => P1311 t (by
          refine XS.dup X1310.here hx rfl (hb hby at_100) rfl rfl ?_
          refine XS.iconst X1310.here hx rfl (hb hby at_101) ?_
          refine XS.iload X1310.here hx rfl (hb hby at_102) rfl ?_
          show Sg p e below (T1310.setTop (mkF m 104 #[sI p0, sI p1, sI p2, sI p3, sI p4, sI p5, sI xa, sI xb, sI xc, sI nn, sI r1, sI r2, sU, sU, sU, sU, sU, sU, sU, sU, sU, sU, sU] [(.int xa), (.int (0 : Int32)), (.ref b1310), (.ref b1310)])) _
          exact st1315 _ k)
        have N1318 := Fr.snoc X1315 N0 g_b1310
        have Z1319 : n0 ≤ h1315.size := Nat.le_trans Z1312 (Keep.of_wr W1315).1
        have K1320 : Keep h0 h1315 [] := K1313.wr W1315 (Or.inr sz_b1310)
        obtain ⟨cl1321, Ar1321, q1321, S1321, N1321, H1321, G1321⟩ := id v1316
        obtain ⟨T1321, h1321, X1321, e1321, W1321, st1321⟩ := stI X1315 hx hZ e1315 Ar1321 (j := (1 : Int32)) (inb_of S1321 ⟨by decide, by decide⟩) (g := (mkF m 109 #[sI p0, sI p1, sI p2, sI p3, sI p4, sI p5, sI xa, sI xb, sI xc, sI nn, sI r1, sI r2, sU, sU, sU, sU, sU, sU, sU, sU, sU, sU, sU] [(.int xb), (.int (1 : Int32)), (.ref b1310), (.ref b1310)])) rfl rfl (hb hby at_109)
        have v1322 : Arv Z h1321 b1310 k1310 .int (2 : Int32) [(.int xa), (.int xb)] (.int (0 : Int32)) := Arv.set Ar1321 q1321 S1321 N1321 H1321 G1321 rfl W1321 1 rfl (Nat.le_of_ble_eq_true rfl)
        have P1323 : ∀ t, Sg p e below (T1321.setTop (mkF m 110 #[sI p0, sI p1, sI p2, sI p3, sI p4, sI p5, sI xa, sI xb, sI xc, sI nn, sI r1, sI r2, sU, sU, sU, sU, sU, sU, sU, sU, sU, sU, sU] [(.ref b1310)])) t → Sg p e below (T0.setTop (mkF m 59 #[sI p0, sI p1, sI p2, sI p3, sI p4, sI p5, sI xa, sI xb, sI xc, sI nn, sI r1, sI r2, sU, sU, sU, sU, sU, sU, sU, sU, sU, sU, sU] [])) t := fun t k => P1317 t (by
          refine XS.dup X1315.here hx rfl (hb hby at_105) rfl rfl ?_
          refine XS.iconst X1315.here hx rfl (hb hby at_106) ?_
          refine XS.iload X1315.here hx rfl (hb hby at_107) rfl ?_
          show Sg p e below (T1315.setTop (mkF m 109 #[sI p0, sI p1, sI p2, sI p3, sI p4, sI p5, sI xa, sI xb, sI xc, sI nn, sI r1, sI r2, sU, sU, sU, sU, sU, sU, sU, sU, sU, sU, sU] [(.int xb), (.int (1 : Int32)), (.ref b1310), (.ref b1310)])) _
          exact st1321 _ k)
        have N1324 := Fr.snoc X1321 N1318 g_b1310
        have Z1325 : n0 ≤ h1321.size := Nat.le_trans Z1319 (Keep.of_wr W1321).1
        have K1326 : Keep h0 h1321 [] := K1320.wr W1321 (Or.inr sz_b1310)
        have f1327 := ((B1310.wr W1315).wr W1321)
        have P1328 : ∀ t, Sg p e below (T1321.setTop (mkF m 135 #[sI p0, sI p1, sI p2, sI p3, sI p4, sI p5, sI xa, sI xb, sI xc, sI nn, sI r1, sI r2, sR b1310, sU, sU, sU, sU, sU, sU, sU, sU, sU, sU] [])) t → Sg p e below (T0.setTop (mkF m 59 #[sI p0, sI p1, sI p2, sI p3, sI p4, sI p5, sI xa, sI xb, sI xc, sI nn, sI r1, sI r2, sU, sU, sU, sU, sU, sU, sU, sU, sU, sU, sU] [])) t := fun t k => P1323 t (by
          refine XS.astore X1321.here hx rfl (hb hby at_110) rfl rfl (l' := #[sI p0, sI p1, sI p2, sI p3, sI p4, sI p5, sI xa, sI xb, sI xc, sI nn, sI r1, sI r2, sR b1310, sU, sU, sU, sU, sU, sU, sU, sU, sU, sU]) rfl ?_
          refine XS.goto X1321.here hx rfl (pc0 := 112) (pc' := 135) rfl (hb hby at_112) (by decide) (by decide) ?_
          show Sg p e below (T1321.setTop (mkF m 135 #[sI p0, sI p1, sI p2, sI p3, sI p4, sI p5, sI xa, sI xb, sI xc, sI nn, sI r1, sI r2, sR b1310, sU, sU, sU, sU, sU, sU, sU, sU, sU, sU] [])) _
          exact k)
        exact ⟨T1321, h1321, _, b1310, k1310, (2 : Int32), ([xa, xb] : List Int32), X1321.more (by omega) (by omega), e1321, N1324, K1326, ((if_neg q1286).trans ((if_neg q1294).trans ((if_pos q1309)))).symm, rfl, v1322, f1327, sz_b1310, P1328⟩
      · skip
        obtain ⟨T1329, h1329, k1329, X1329, e1329, E1329, A1329, B1329, st1329⟩ := newPE X0 hx hZ (own_hw hw 9 rfl) e0 (g := (mkF m 116 #[sI p0, sI p1, sI p2, sI p3, sI p4, sI p5, sI xa, sI xb, sI xc, sI nn, sI r1, sI r2, sU, sU, sU, sU, sU, sU, sU, sU, sU, sU, sU] [(.int (3 : Int32))])) rfl (hb hby at_116) rfl (by decide) (cap := 3) (by decide) (by decide) (by omega) (by omega) (ad := "[I") (by decide)
        obtain ⟨b1329, g1329⟩ : ∃ z, z = h0.size := ⟨_, rfl⟩
        rw [← g1329] at A1329 B1329 st1329
        have g_b1329 : n0 ≤ b1329 := Nat.le_trans Z0 (Nat.le_of_eq g1329.symm)
        have sz_b1329 : h0.size ≤ b1329 := Nat.le_trans (Keep.refl h0 []).1 (Nat.le_of_eq g1329.symm)
        have P1330 : ∀ t, Sg p e below (T1329.setTop (mkF m 118 #[sI p0, sI p1, sI p2, sI p3, sI p4, sI p5, sI xa, sI xb, sI xc, sI nn, sI r1, sI r2, sU, sU, sU, sU, sU, sU, sU, sU, sU, sU, sU] [(.ref b1329)])) t → Sg p e below (T0.setTop (mkF m 59 #[sI p0, sI p1, sI p2, sI p3, sI p4, sI p5, sI xa, sI xb, sI xc, sI nn, sI r1, sI r2, sU, sU, sU, sU, sU, sU, sU, sU, sU, sU, sU] [])) t := fun t k => P1308 t (by
          refine XS.icmpYes X0.here hx rfl (pc0 := 94) (pc' := 115) rfl (hb hby at_94) rfl (feq (show ¬ (nn = (2 : Int32)) from q1309)).2 (by decide) (by decide) ?_
          refine XS.iconst X0.here hx rfl (hb hby at_115) ?_
          show Sg p e below (T0.setTop (mkF m 116 #[sI p0, sI p1, sI p2, sI p3, sI p4, sI p5, sI xa, sI xb, sI xc, sI nn, sI r1, sI r2, sU, sU, sU, sU, sU, sU, sU, sU, sU, sU, sU] [(.int (3 : Int32))])) _
          exact st1329 _ k)
        have Z1331 : n0 ≤ h1329.size := Nat.le_trans Z0 E1329.1
        have K1332 : Keep h0 h1329 [] := (Keep.refl h0 []).ext E1329
        have v1333 : Arv Z h1329 b1329 k1329 .int (3 : Int32) [(.int (0 : Int32)), (.int (0 : Int32)), (.int (0 : Int32))] (.int (0 : Int32)) := (Arv.new A1329 (by decide)).pad (pad_rep [] (.int (0 : Int32)) 3)
        obtain ⟨cl1334, Ar1334, q1334, S1334, N1334, H1334, G1334⟩ := id v1333
        obtain ⟨T1334, h1334, X1334, e1334, W1334, st1334⟩ := stI X1329 hx hZ e1329 Ar1334 (j := (0 : Int32)) (inb_of S1334 ⟨by decide, by decide⟩) (g := (mkF m 122 #[sI p0, sI p1, sI p2, sI p3, sI p4, sI p5, sI xa, sI xb, sI xc, sI nn, sI r1, sI r2, sU, sU, sU, sU, sU, sU, sU, sU, sU, sU, sU] [(.int xa), (.int (0 : Int32)), (.ref b1329), (.ref b1329)])) rfl rfl (hb hby at_122)
        have v1335 : Arv Z h1334 b1329 k1329 .int (3 : Int32) [(.int xa), (.int (0 : Int32)), (.int (0 : Int32))] (.int (0 : Int32)) := Arv.set Ar1334 q1334 S1334 N1334 H1334 G1334 rfl W1334 0 rfl (Nat.le_of_ble_eq_true rfl)
        have P1336 : ∀ t, Sg p e below (T1334.setTop (mkF m 123 #[sI p0, sI p1, sI p2, sI p3, sI p4, sI p5, sI xa, sI xb, sI xc, sI nn, sI r1, sI r2, sU, sU, sU, sU, sU, sU, sU, sU, sU, sU, sU] [(.ref b1329)])) t → Sg p e below (T0.setTop (mkF m 59 #[sI p0, sI p1, sI p2, sI p3, sI p4, sI p5, sI xa, sI xb, sI xc, sI nn, sI r1, sI r2, sU, sU, sU, sU, sU, sU, sU, sU, sU, sU, sU] [])) t := fun t k => P1330 t (by
          refine XS.dup X1329.here hx rfl (hb hby at_118) rfl rfl ?_
          refine XS.iconst X1329.here hx rfl (hb hby at_119) ?_
          refine XS.iload X1329.here hx rfl (hb hby at_120) rfl ?_
          show Sg p e below (T1329.setTop (mkF m 122 #[sI p0, sI p1, sI p2, sI p3, sI p4, sI p5, sI xa, sI xb, sI xc, sI nn, sI r1, sI r2, sU, sU, sU, sU, sU, sU, sU, sU, sU, sU, sU] [(.int xa), (.int (0 : Int32)), (.ref b1329), (.ref b1329)])) _
          exact st1334 _ k)
        have N1337 := Fr.snoc X1334 N0 g_b1329
        have Z1338 : n0 ≤ h1334.size := Nat.le_trans Z1331 (Keep.of_wr W1334).1
        have K1339 : Keep h0 h1334 [] := K1332.wr W1334 (Or.inr sz_b1329)
        obtain ⟨cl1340, Ar1340, q1340, S1340, N1340, H1340, G1340⟩ := id v1335
        obtain ⟨T1340, h1340, X1340, e1340, W1340, st1340⟩ := stI X1334 hx hZ e1334 Ar1340 (j := (1 : Int32)) (inb_of S1340 ⟨by decide, by decide⟩) (g := (mkF m 127 #[sI p0, sI p1, sI p2, sI p3, sI p4, sI p5, sI xa, sI xb, sI xc, sI nn, sI r1, sI r2, sU, sU, sU, sU, sU, sU, sU, sU, sU, sU, sU] [(.int xb), (.int (1 : Int32)), (.ref b1329), (.ref b1329)])) rfl rfl (hb hby at_127)
        have v1341 : Arv Z h1340 b1329 k1329 .int (3 : Int32) [(.int xa), (.int xb), (.int (0 : Int32))] (.int (0 : Int32)) := Arv.set Ar1340 q1340 S1340 N1340 H1340 G1340 rfl W1340 1 rfl (Nat.le_of_ble_eq_true rfl)
        have P1342 : ∀ t, Sg p e below (T1340.setTop (mkF m 128 #[sI p0, sI p1, sI p2, sI p3, sI p4, sI p5, sI xa, sI xb, sI xc, sI nn, sI r1, sI r2, sU, sU, sU, sU, sU, sU, sU, sU, sU, sU, sU] [(.ref b1329)])) t → Sg p e below (T0.setTop (mkF m 59 #[sI p0, sI p1, sI p2, sI p3, sI p4, sI p5, sI xa, sI xb, sI xc, sI nn, sI r1, sI r2, sU, sU, sU, sU, sU, sU, sU, sU, sU, sU, sU] [])) t := fun t k => P1336 t (by
          refine XS.dup X1334.here hx rfl (hb hby at_123) rfl rfl ?_
          refine XS.iconst X1334.here hx rfl (hb hby at_124) ?_
          refine XS.iload X1334.here hx rfl (hb hby at_125) rfl ?_
          show Sg p e below (T1334.setTop (mkF m 127 #[sI p0, sI p1, sI p2, sI p3, sI p4, sI p5, sI xa, sI xb, sI xc, sI nn, sI r1, sI r2, sU, sU, sU, sU, sU, sU, sU, sU, sU, sU, sU] [(.int xb), (.int (1 : Int32)), (.ref b1329), (.ref b1329)])) _
          exact st1340 _ k)
        have N1343 := Fr.snoc X1340 N1337 g_b1329
        have Z1344 : n0 ≤ h1340.size := Nat.le_trans Z1338 (Keep.of_wr W1340).1
        have K1345 : Keep h0 h1340 [] := K1339.wr W1340 (Or.inr sz_b1329)
        obtain ⟨cl1346, Ar1346, q1346, S1346, N1346, H1346, G1346⟩ := id v1341
        obtain ⟨T1346, h1346, X1346, e1346, W1346, st1346⟩ := stI X1340 hx hZ e1340 Ar1346 (j := (2 : Int32)) (inb_of S1346 ⟨by decide, by decide⟩) (g := (mkF m 132 #[sI p0, sI p1, sI p2, sI p3, sI p4, sI p5, sI xa, sI xb, sI xc, sI nn, sI r1, sI r2, sU, sU, sU, sU, sU, sU, sU, sU, sU, sU, sU] [(.int xc), (.int (2 : Int32)), (.ref b1329), (.ref b1329)])) rfl rfl (hb hby at_132)
        have v1347 : Arv Z h1346 b1329 k1329 .int (3 : Int32) [(.int xa), (.int xb), (.int xc)] (.int (0 : Int32)) := Arv.set Ar1346 q1346 S1346 N1346 H1346 G1346 rfl W1346 2 rfl (Nat.le_of_ble_eq_true rfl)
        have P1348 : ∀ t, Sg p e below (T1346.setTop (mkF m 133 #[sI p0, sI p1, sI p2, sI p3, sI p4, sI p5, sI xa, sI xb, sI xc, sI nn, sI r1, sI r2, sU, sU, sU, sU, sU, sU, sU, sU, sU, sU, sU] [(.ref b1329)])) t → Sg p e below (T0.setTop (mkF m 59 #[sI p0, sI p1, sI p2, sI p3, sI p4, sI p5, sI xa, sI xb, sI xc, sI nn, sI r1, sI r2, sU, sU, sU, sU, sU, sU, sU, sU, sU, sU, sU] [])) t := fun t k => P1342 t (by
          refine XS.dup X1340.here hx rfl (hb hby at_128) rfl rfl ?_
          refine XS.iconst X1340.here hx rfl (hb hby at_129) ?_
          refine XS.iload X1340.here hx rfl (hb hby at_130) rfl ?_
          show Sg p e below (T1340.setTop (mkF m 132 #[sI p0, sI p1, sI p2, sI p3, sI p4, sI p5, sI xa, sI xb, sI xc, sI nn, sI r1, sI r2, sU, sU, sU, sU, sU, sU, sU, sU, sU, sU, sU] [(.int xc), (.int (2 : Int32)), (.ref b1329), (.ref b1329)])) _
          exact st1346 _ k)
        have N1349 := Fr.snoc X1346 N1343 g_b1329
        have Z1350 : n0 ≤ h1346.size := Nat.le_trans Z1344 (Keep.of_wr W1346).1
        have K1351 : Keep h0 h1346 [] := K1345.wr W1346 (Or.inr sz_b1329)
        have f1352 := (((B1329.wr W1334).wr W1340).wr W1346)
        have P1353 : ∀ t, Sg p e below (T1346.setTop (mkF m 135 #[sI p0, sI p1, sI p2, sI p3, sI p4, sI p5, sI xa, sI xb, sI xc, sI nn, sI r1, sI r2, sR b1329, sU, sU, sU, sU, sU, sU, sU, sU, sU, sU] [])) t → Sg p e below (T0.setTop (mkF m 59 #[sI p0, sI p1, sI p2, sI p3, sI p4, sI p5, sI xa, sI xb, sI xc, sI nn, sI r1, sI r2, sU, sU, sU, sU, sU, sU, sU, sU, sU, sU, sU] [])) t := fun t k => P1348 t (by
          refine XS.astore X1346.here hx rfl (hb hby at_133) rfl rfl (l' := #[sI p0, sI p1, sI p2, sI p3, sI p4, sI p5, sI xa, sI xb, sI xc, sI nn, sI r1, sI r2, sR b1329, sU, sU, sU, sU, sU, sU, sU, sU, sU, sU]) rfl ?_
          show Sg p e below (T1346.setTop (mkF m 135 #[sI p0, sI p1, sI p2, sI p3, sI p4, sI p5, sI xa, sI xb, sI xc, sI nn, sI r1, sI r2, sR b1329, sU, sU, sU, sU, sU, sU, sU, sU, sU, sU] [])) _
          exact k)
        exact ⟨T1346, h1346, _, b1329, k1329, (3 : Int32), ([xa, xb, xc] : List Int32), X1346.more (by omega) (by omega), e1346, N1349, K1351, ((if_neg q1286).trans ((if_neg q1294).trans ((if_neg q1309)))).symm, rfl, v1347, f1352, sz_b1329, P1353⟩
theorem pd__28IIII_29I : parseMethodDescriptor "(IIII)I" = some ⟨[.int, .int, .int, .int], some .int⟩ := by decide +kernel
theorem pd__28_5b_5bI_29V : parseMethodDescriptor "([[I)V" = some ⟨[(.array (.array .int))], none⟩ := by decide +kernel
theorem pd__28_29V : parseMethodDescriptor "()V" = some ⟨[], none⟩ := by decide +kernel
theorem pd__28Lcom_2fexample_2fwhittle_2fwhittle_2fengine_2fWordSets_3bI_29V : parseMethodDescriptor "(Lcom/example/whittle/whittle/engine/WordSets;I)V" = some ⟨[(.object sW), .int], none⟩ := by decide +kernel
theorem pd__28I_29V : parseMethodDescriptor "(I)V" = some ⟨[.int], none⟩ := by decide +kernel
theorem pd__28_29_5bI : parseMethodDescriptor "()[I" = some ⟨[], some (.array .int)⟩ := by decide +kernel
theorem ef_law (m : MethodId) (x0 : Int32) (x1 : Int32) (x2 : Int32) (x3 : Int32) (x4 : Int32) (x5 : Int32) : entryFrame m #[(.int x0), (.int x1), (.int x2), (.int x3), (.int x4), (.int x5)] maxLocals = mkF m 0 #[sI x0, sI x1, sI x2, sI x3, sI x4, sI x5, sU, sU, sU, sU, sU, sU, sU, sU, sU, sU, sU, sU, sU, sU, sU, sU, sU] [] := by (first | (simp [entryFrame, mkF, argsToLocals, Value.category, maxLocals]; done) | rfl)
def Q_law  (h0 : Heap) (n0 : Nat) (v : Option Value) (h : Heap) (L : List Loc) : Prop := v = some (.int 1) ∧ Fr n0 L
set_option maxRecDepth 65536 in
set_option maxHeartbeats 40000000 in
theorem rm_law (l : Launch) (Z : State) (a0 : Array Value) (hw : ∀ d ∈ tables_1, d.before a0 Z = true) (ws : List Jvm.Cond) (p0 p1 p2 p3 p4 p5 : Int32) (h0 : Heap) (n0 : Nat) (Z0 : n0 ≤ h0.size) (Ol : Old Z n0 h0) :
    MetFree l x (head1 (Jvm.Cond.code x code maxLocals ret :: ws) room_1) (fun a U => a = #[(.int p0), (.int p1), (.int p2), (.int p3), (.int p4), (.int p5)] ∧ Z.Warmed39 U.vm ∧ U.heap = h0) (fun _ _ _ _ _ => True) (fun _ U o U' => ∃ v L, o = .returned v ∧ Q_law  h0 n0 v U'.heap L ∧ FrameEnd U o U' L 48 192) := by
  refine MetFree.of_bodySF (plainFor_of_name pn_com_example_whittle_whittle_engine_MeetMembersPinLaw) hisR ?_
  intro p e s m args below meth c s₁ Bd hml0 hP hK
  obtain ⟨rfl, hZ, hh⟩ := hP
  have hx := Bd.exec
  have hby := Bd.bytes
  have hml : c.maxLocals = 23 := hml0
  have hown : s.vm.findClass "com/example/whittle/whittle/engine/MeetMembersPinLaw" = some m.cls := findClass_of_methodNamed Bd.named
  have hnm := (name_of_methodNamed Bd.named Bd.method).1
  have X0 : Stand p l e room_1 s m #[(.int p0), (.int p1), (.int p2), (.int p3), (.int p4), (.int p5)] below meth c s₁ [] 0 0 := Stand.of_body Bd
  have e0 : s₁.heap = h0 := by rw [← hh, Bd.state]; rfl
  have N0 := Fr.nil n0
  have pre0 : ∀ t, Sg p e below (s₁.setTop (mkF m 0 #[sI p0, sI p1, sI p2, sI p3, sI p4, sI p5, sU, sU, sU, sU, sU, sU, sU, sU, sU, sU, sU, sU, sU, sU, sU, sU, sU] [])) t → Steps p.tables e below (s₁.setTop (entryFrame m #[(.int p0), (.int p1), (.int p2), (.int p3), (.int p4), (.int p5)] maxLocals)) t := fun t k => castTop (ef_law m p0 p1 p2 p3 p4 p5) k
  have P0 : ∀ t, Sg p e below (s₁.setTop (mkF m 0 #[sI p0, sI p1, sI p2, sI p3, sI p4, sI p5, sU, sU, sU, sU, sU, sU, sU, sU, sU, sU, sU, sU, sU, sU, sU, sU, sU] [])) t → Sg p e below (s₁.setTop (mkF m 0 #[sI p0, sI p1, sI p2, sI p3, sI p4, sI p5, sU, sU, sU, sU, sU, sU, sU, sU, sU, sU, sU, sU, sU, sU, sU, sU, sU] [])) t := fun t k => k
  obtain ⟨B0, pre0, P0⟩ : ∃ B : State, (∀ t, Steps p.tables e below B t → Steps p.tables e below (s₁.setTop (entryFrame m #[(.int p0), (.int p1), (.int p2), (.int p3), (.int p4), (.int p5)] maxLocals)) t) ∧ Rg p e below (s₁.setTop (mkF m 0 #[sI p0, sI p1, sI p2, sI p3, sI p4, sI p5, sU, sU, sU, sU, sU, sU, sU, sU, sU, sU, sU, sU, sU, sU, sU, sU, sU] [])) B := ⟨_, pre0, P0⟩
  obtain ⟨a, eq_a⟩ : ∃ z : Int32, z = (p0 &&& (1073741823 : Int32)) := ⟨_, rfl⟩
  have P1354 : Rg p e below (s₁.setTop (mkF m 6 #[sI p0, sI p1, sI p2, sI p3, sI p4, sI p5, .val (.int (p0 &&& (1073741823 : Int32))), sU, sU, sU, sU, sU, sU, sU, sU, sU, sU, sU, sU, sU, sU, sU, sU] [])) B0 := fun t k => P0 t (by
    refine XS.iloadN X0.here hx rfl (hb hby at_0) rfl ?_
    show Sg p e below (s₁.setTop (mkF m 1 #[sI p0, sI p1, sI p2, sI p3, sI p4, sI p5, sU, sU, sU, sU, sU, sU, sU, sU, sU, sU, sU, sU, sU, sU, sU, sU, sU] [(.int p0)])) _
    refine X0.ldcInt hx hown (mvT hZ (own_hw hw 0 rfl)) (g := (mkF m 1 #[sI p0, sI p1, sI p2, sI p3, sI p4, sI p5, sU, sU, sU, sU, sU, sU, sU, sU, sU, sU, sU, sU, sU, sU, sU, sU, sU] [(.int p0)])) rfl (hb hby at_1) _ ?_
    show Sg p e below (s₁.setTop (mkF m 3 #[sI p0, sI p1, sI p2, sI p3, sI p4, sI p5, sU, sU, sU, sU, sU, sU, sU, sU, sU, sU, sU, sU, sU, sU, sU, sU, sU] [(.int (1073741823 : Int32)), (.int p0)])) _
    refine XS.iand X0.here hx rfl (hb hby at_3) rfl ?_
    refine XS.istore X0.here hx rfl (hb hby at_4) rfl (l' := #[sI p0, sI p1, sI p2, sI p3, sI p4, sI p5, .val (.int (p0 &&& (1073741823 : Int32))), sU, sU, sU, sU, sU, sU, sU, sU, sU, sU, sU, sU, sU, sU, sU, sU]) rfl ?_
    show Sg p e below (s₁.setTop (mkF m 6 #[sI p0, sI p1, sI p2, sI p3, sI p4, sI p5, .val (.int (p0 &&& (1073741823 : Int32))), sU, sU, sU, sU, sU, sU, sU, sU, sU, sU, sU, sU, sU, sU, sU, sU] [])) _
    exact k)
  have P1355 : Rg p e below (s₁.setTop (mkF m 6 #[sI p0, sI p1, sI p2, sI p3, sI p4, sI p5, sI a, sU, sU, sU, sU, sU, sU, sU, sU, sU, sU, sU, sU, sU, sU, sU, sU] [])) B0 := fun t k => P1354 t (by rw [eq_a] at k; exact k)
  obtain ⟨_, _, ⟨T1356, L1356, k1356, n1356⟩, -, X1356, ⟨Lc1356, hQ1356, l1356, y1356, z1356⟩, st1356⟩ := Jvm.LawKit.callS X0 hx (y := (⟨"com/example/whittle/whittle/engine/MeetMembersPinLaw", "gap", "(I)I"⟩ : MethodName)) hown (mvT hZ (own_hw hw 1 rfl)) (mvT hZ (own_hw hw 2 rfl)) (mvT hZ (own_hw hw 3 rfl)) (mvT hZ (own_hw hw 4 rfl)) (by decide) (backOf (W := 1) (rm_gap l Z a0 hw [] p1 h0 n0 Z0 ) hZ (own_hw hw 4 rfl) (own_hw hw 3 rfl) (by decide) (by decide)) (g := (mkF m 11 #[sI p0, sI p1, sI p2, sI p3, sI p4, sI p5, sI a, sU, sU, sU, sU, sU, sU, sU, sU, sU, sU, sU, sU, sU, sU, sU, sU] [(.int p1), (.int (a + (1 : Int32)))])) rfl (by rw [hml]; rfl) (argsL := [(.int p1)]) (rest := [(.int (a + (1 : Int32)))]) (lenOf pd__28I_29I rfl) rfl (by show 2 * 0 + _ ≤ _; exact Nat.le_of_eq rfl) (hb hby at_11) (fun _ _ => ⟨rfl, e0, (Nat.le_of_ble_eq_true rfl : 0 + 0 ≤ _), (Nat.le_of_ble_eq_true rfl : 0 + 0 ≤ _)⟩)
  dsimp only [Pt.U, Pt.locs, Pt.cells, Pt.slots] at X1356 l1356 y1356 z1356 st1356 hQ1356
  subst l1356 y1356 z1356
  obtain ⟨r1356, rfl, Nq1356, e1356, hg1356⟩ := hQ1356
  have N1357 := Fr.app N0 Nq1356
  have P1358 : Rg p e below (T1356.setTop (mkF m 14 #[sI p0, sI p1, sI p2, sI p3, sI p4, sI p5, sI a, sU, sU, sU, sU, sU, sU, sU, sU, sU, sU, sU, sU, sU, sU, sU, sU] [(.int r1356), (.int (a + (1 : Int32)))])) B0 := fun t k => P1355 t (by
    refine XS.iload X0.here hx rfl (hb hby at_6) rfl ?_
    refine XS.iconst X0.here hx rfl (hb hby at_8) ?_
    refine XS.iadd X0.here hx rfl (hb hby at_9) rfl ?_
    refine XS.iloadN X0.here hx rfl (hb hby at_10) rfl ?_
    show Sg p e below (s₁.setTop (mkF m 11 #[sI p0, sI p1, sI p2, sI p3, sI p4, sI p5, sI a, sU, sU, sU, sU, sU, sU, sU, sU, sU, sU, sU, sU, sU, sU, sU, sU] [(.int p1), (.int (a + (1 : Int32)))])) _
    exact st1356 _ k)
  obtain ⟨b, eq_b⟩ : ∃ z : Int32, z = ((a + (1 : Int32)) + r1356) := ⟨_, rfl⟩
  have P1359 : Rg p e below (T1356.setTop (mkF m 17 #[sI p0, sI p1, sI p2, sI p3, sI p4, sI p5, sI a, .val (.int ((a + (1 : Int32)) + r1356)), sU, sU, sU, sU, sU, sU, sU, sU, sU, sU, sU, sU, sU, sU, sU] [])) B0 := fun t k => P1358 t (by
    refine XS.iadd X1356.here hx rfl (hb hby at_14) rfl ?_
    refine XS.istore X1356.here hx rfl (hb hby at_15) rfl (l' := #[sI p0, sI p1, sI p2, sI p3, sI p4, sI p5, sI a, .val (.int ((a + (1 : Int32)) + r1356)), sU, sU, sU, sU, sU, sU, sU, sU, sU, sU, sU, sU, sU, sU, sU]) rfl ?_
    show Sg p e below (T1356.setTop (mkF m 17 #[sI p0, sI p1, sI p2, sI p3, sI p4, sI p5, sI a, .val (.int ((a + (1 : Int32)) + r1356)), sU, sU, sU, sU, sU, sU, sU, sU, sU, sU, sU, sU, sU, sU, sU] [])) _
    exact k)
  have P1360 : Rg p e below (T1356.setTop (mkF m 17 #[sI p0, sI p1, sI p2, sI p3, sI p4, sI p5, sI a, sI b, sU, sU, sU, sU, sU, sU, sU, sU, sU, sU, sU, sU, sU, sU, sU] [])) B0 := fun t k => P1359 t (by rw [eq_b] at k; exact k)
  obtain ⟨_, _, ⟨T1361, L1361, k1361, n1361⟩, -, X1361, ⟨Lc1361, hQ1361, l1361, y1361, z1361⟩, st1361⟩ := Jvm.LawKit.callS X1356 hx (y := (⟨"com/example/whittle/whittle/engine/MeetMembersPinLaw", "gap", "(I)I"⟩ : MethodName)) hown (mvT hZ (own_hw hw 1 rfl)) (mvT hZ (own_hw hw 2 rfl)) (mvT hZ (own_hw hw 3 rfl)) (mvT hZ (own_hw hw 4 rfl)) (by decide) (backOf (W := 1) (rm_gap l Z a0 hw [] p2 h0 n0 Z0 ) hZ (own_hw hw 4 rfl) (own_hw hw 3 rfl) (by decide) (by decide)) (g := (mkF m 22 #[sI p0, sI p1, sI p2, sI p3, sI p4, sI p5, sI a, sI b, sU, sU, sU, sU, sU, sU, sU, sU, sU, sU, sU, sU, sU, sU, sU] [(.int p2), (.int (b + (1 : Int32)))])) rfl (by rw [hml]; rfl) (argsL := [(.int p2)]) (rest := [(.int (b + (1 : Int32)))]) (lenOf pd__28I_29I rfl) rfl (by show 2 * 0 + _ ≤ _; exact Nat.le_of_eq rfl) (hb hby at_22) (fun _ _ => ⟨rfl, e1356, (Nat.le_of_ble_eq_true rfl : 0 + 0 ≤ _), (Nat.le_of_ble_eq_true rfl : 0 + 0 ≤ _)⟩)
  dsimp only [Pt.U, Pt.locs, Pt.cells, Pt.slots] at X1361 l1361 y1361 z1361 st1361 hQ1361
  subst l1361 y1361 z1361
  obtain ⟨r1361, rfl, Nq1361, e1361, hg1361⟩ := hQ1361
  have N1362 := Fr.app N1357 Nq1361
  have P1363 : Rg p e below (T1361.setTop (mkF m 25 #[sI p0, sI p1, sI p2, sI p3, sI p4, sI p5, sI a, sI b, sU, sU, sU, sU, sU, sU, sU, sU, sU, sU, sU, sU, sU, sU, sU] [(.int r1361), (.int (b + (1 : Int32)))])) B0 := fun t k => P1360 t (by
    refine XS.iload X1356.here hx rfl (hb hby at_17) rfl ?_
    refine XS.iconst X1356.here hx rfl (hb hby at_19) ?_
    refine XS.iadd X1356.here hx rfl (hb hby at_20) rfl ?_
    refine XS.iloadN X1356.here hx rfl (hb hby at_21) rfl ?_
    show Sg p e below (T1356.setTop (mkF m 22 #[sI p0, sI p1, sI p2, sI p3, sI p4, sI p5, sI a, sI b, sU, sU, sU, sU, sU, sU, sU, sU, sU, sU, sU, sU, sU, sU, sU] [(.int p2), (.int (b + (1 : Int32)))])) _
    exact st1361 _ k)
  obtain ⟨c, eq_c⟩ : ∃ z : Int32, z = ((b + (1 : Int32)) + r1361) := ⟨_, rfl⟩
  have P1364 : Rg p e below (T1361.setTop (mkF m 28 #[sI p0, sI p1, sI p2, sI p3, sI p4, sI p5, sI a, sI b, .val (.int ((b + (1 : Int32)) + r1361)), sU, sU, sU, sU, sU, sU, sU, sU, sU, sU, sU, sU, sU, sU] [])) B0 := fun t k => P1363 t (by
    refine XS.iadd X1361.here hx rfl (hb hby at_25) rfl ?_
    refine XS.istore X1361.here hx rfl (hb hby at_26) rfl (l' := #[sI p0, sI p1, sI p2, sI p3, sI p4, sI p5, sI a, sI b, .val (.int ((b + (1 : Int32)) + r1361)), sU, sU, sU, sU, sU, sU, sU, sU, sU, sU, sU, sU, sU, sU]) rfl ?_
    show Sg p e below (T1361.setTop (mkF m 28 #[sI p0, sI p1, sI p2, sI p3, sI p4, sI p5, sI a, sI b, .val (.int ((b + (1 : Int32)) + r1361)), sU, sU, sU, sU, sU, sU, sU, sU, sU, sU, sU, sU, sU, sU] [])) _
    exact k)
  have P1365 : Rg p e below (T1361.setTop (mkF m 28 #[sI p0, sI p1, sI p2, sI p3, sI p4, sI p5, sI a, sI b, sI c, sU, sU, sU, sU, sU, sU, sU, sU, sU, sU, sU, sU, sU, sU] [])) B0 := fun t k => P1364 t (by rw [eq_c] at k; exact k)
  obtain ⟨nn, eq_nn⟩ : ∃ z : Int32, z = (p5 &&& (3 : Int32)) := ⟨_, rfl⟩
  have P1366 : Rg p e below (T1361.setTop (mkF m 34 #[sI p0, sI p1, sI p2, sI p3, sI p4, sI p5, sI a, sI b, sI c, .val (.int (p5 &&& (3 : Int32))), sU, sU, sU, sU, sU, sU, sU, sU, sU, sU, sU, sU, sU] [])) B0 := fun t k => P1365 t (by
    refine XS.iload X1361.here hx rfl (hb hby at_28) rfl ?_
    refine XS.iconst X1361.here hx rfl (hb hby at_30) ?_
    refine XS.iand X1361.here hx rfl (hb hby at_31) rfl ?_
    refine XS.istore X1361.here hx rfl (hb hby at_32) rfl (l' := #[sI p0, sI p1, sI p2, sI p3, sI p4, sI p5, sI a, sI b, sI c, .val (.int (p5 &&& (3 : Int32))), sU, sU, sU, sU, sU, sU, sU, sU, sU, sU, sU, sU, sU]) rfl ?_
    show Sg p e below (T1361.setTop (mkF m 34 #[sI p0, sI p1, sI p2, sI p3, sI p4, sI p5, sI a, sI b, sI c, .val (.int (p5 &&& (3 : Int32))), sU, sU, sU, sU, sU, sU, sU, sU, sU, sU, sU, sU, sU] [])) _
    exact k)
  have P1367 : Rg p e below (T1361.setTop (mkF m 34 #[sI p0, sI p1, sI p2, sI p3, sI p4, sI p5, sI a, sI b, sI c, sI nn, sU, sU, sU, sU, sU, sU, sU, sU, sU, sU, sU, sU, sU] [])) B0 := fun t k => P1366 t (by rw [eq_nn] at k; exact k)
  obtain ⟨h0a, hab, hbc⟩ := own_rng3 eq_a hg1356 hg1361 eq_b eq_c
  obtain ⟨iR, iF, iC, iG, iP, iL, i0, i3⟩ := own_init h0a hab hbc
  obtain ⟨_, _, ⟨T1368, L1368, k1368, n1368⟩, -, X1368, ⟨Lc1368, hQ1368, l1368, y1368, z1368⟩, st1368⟩ := Jvm.LawKit.callS X1361 hx (y := (⟨"com/example/whittle/whittle/engine/MeetMembersPinLaw", "pick", "(IIII)I"⟩ : MethodName)) hown (mvT hZ (own_hw hw 6 rfl)) (mvT hZ (own_hw hw 7 rfl)) (mvT hZ (own_hw hw 3 rfl)) (mvT hZ (own_hw hw 8 rfl)) (by decide) (backOf (W := 0) (rm_pick l Z a0 hw [] p3 a b c h0 n0 Z0 ) hZ (own_hw hw 8 rfl) (own_hw hw 3 rfl) (by decide) (by decide)) (g := (mkF m 41 #[sI p0, sI p1, sI p2, sI p3, sI p4, sI p5, sI a, sI b, sI c, sI nn, sU, sU, sU, sU, sU, sU, sU, sU, sU, sU, sU, sU, sU] [(.int c), (.int b), (.int a), (.int p3)])) rfl (by rw [hml]; rfl) (argsL := [(.int p3), (.int a), (.int b), (.int c)]) (rest := []) (lenOf pd__28IIII_29I rfl) rfl (by show 2 * 0 + _ ≤ _; exact Nat.le_of_eq rfl) (hb hby at_41) (fun _ _ => ⟨rfl, e1361, (Nat.le_of_ble_eq_true rfl : 0 + 0 ≤ _), (Nat.le_of_ble_eq_true rfl : 0 + 0 ≤ _)⟩)
  dsimp only [Pt.U, Pt.locs, Pt.cells, Pt.slots] at X1368 l1368 y1368 z1368 st1368 hQ1368
  subst l1368 y1368 z1368
  obtain ⟨r1368, rfl, Nq1368, e1368⟩ := hQ1368
  have N1369 := Fr.app N1362 Nq1368
  have P1370 : Rg p e below (T1368.setTop (mkF m 44 #[sI p0, sI p1, sI p2, sI p3, sI p4, sI p5, sI a, sI b, sI c, sI nn, sU, sU, sU, sU, sU, sU, sU, sU, sU, sU, sU, sU, sU] [(.int r1368)])) B0 := fun t k => P1367 t (by
    refine XS.iloadN X1361.here hx rfl (hb hby at_34) rfl ?_
    refine XS.iload X1361.here hx rfl (hb hby at_35) rfl ?_
    refine XS.iload X1361.here hx rfl (hb hby at_37) rfl ?_
    refine XS.iload X1361.here hx rfl (hb hby at_39) rfl ?_
    show Sg p e below (T1361.setTop (mkF m 41 #[sI p0, sI p1, sI p2, sI p3, sI p4, sI p5, sI a, sI b, sI c, sI nn, sU, sU, sU, sU, sU, sU, sU, sU, sU, sU, sU, sU, sU] [(.int c), (.int b), (.int a), (.int p3)])) _
    exact st1368 _ k)
  obtain ⟨_, _, ⟨T1371, L1371, k1371, n1371⟩, -, X1371, ⟨Lc1371, hQ1371, l1371, y1371, z1371⟩, st1371⟩ := Jvm.LawKit.callS X1368 hx (y := (⟨"com/example/whittle/whittle/engine/MeetMembersPinLaw", "pick", "(IIII)I"⟩ : MethodName)) hown (mvT hZ (own_hw hw 6 rfl)) (mvT hZ (own_hw hw 7 rfl)) (mvT hZ (own_hw hw 3 rfl)) (mvT hZ (own_hw hw 8 rfl)) (by decide) (backOf (W := 0) (rm_pick l Z a0 hw [] p4 a b c h0 n0 Z0 ) hZ (own_hw hw 8 rfl) (own_hw hw 3 rfl) (by decide) (by decide)) (g := (mkF m 54 #[sI p0, sI p1, sI p2, sI p3, sI p4, sI p5, sI a, sI b, sI c, sI nn, sI r1368, sU, sU, sU, sU, sU, sU, sU, sU, sU, sU, sU, sU] [(.int c), (.int b), (.int a), (.int p4)])) rfl (by rw [hml]; rfl) (argsL := [(.int p4), (.int a), (.int b), (.int c)]) (rest := []) (lenOf pd__28IIII_29I rfl) rfl (by show 2 * 0 + _ ≤ _; exact Nat.le_of_eq rfl) (hb hby at_54) (fun _ _ => ⟨rfl, e1368, (Nat.le_of_ble_eq_true rfl : 0 + 0 ≤ _), (Nat.le_of_ble_eq_true rfl : 0 + 0 ≤ _)⟩)
  dsimp only [Pt.U, Pt.locs, Pt.cells, Pt.slots] at X1371 l1371 y1371 z1371 st1371 hQ1371
  subst l1371 y1371 z1371
  obtain ⟨r1371, rfl, Nq1371, e1371⟩ := hQ1371
  have N1372 := Fr.app N1369 Nq1371
  have P1373 : Rg p e below (T1371.setTop (mkF m 57 #[sI p0, sI p1, sI p2, sI p3, sI p4, sI p5, sI a, sI b, sI c, sI nn, sI r1368, sU, sU, sU, sU, sU, sU, sU, sU, sU, sU, sU, sU] [(.int r1371)])) B0 := fun t k => P1370 t (by
    refine XS.istore X1368.here hx rfl (hb hby at_44) rfl (l' := #[sI p0, sI p1, sI p2, sI p3, sI p4, sI p5, sI a, sI b, sI c, sI nn, sI r1368, sU, sU, sU, sU, sU, sU, sU, sU, sU, sU, sU, sU]) rfl ?_
    refine XS.iload X1368.here hx rfl (hb hby at_46) rfl ?_
    refine XS.iload X1368.here hx rfl (hb hby at_48) rfl ?_
    refine XS.iload X1368.here hx rfl (hb hby at_50) rfl ?_
    refine XS.iload X1368.here hx rfl (hb hby at_52) rfl ?_
    show Sg p e below (T1368.setTop (mkF m 54 #[sI p0, sI p1, sI p2, sI p3, sI p4, sI p5, sI a, sI b, sI c, sI nn, sI r1368, sU, sU, sU, sU, sU, sU, sU, sU, sU, sU, sU, sU] [(.int c), (.int b), (.int a), (.int p4)])) _
    exact st1371 _ k)
  have P1374 : Rg p e below (T1371.setTop (mkF m 59 #[sI p0, sI p1, sI p2, sI p3, sI p4, sI p5, sI a, sI b, sI c, sI nn, sI r1368, sI r1371, sU, sU, sU, sU, sU, sU, sU, sU, sU, sU, sU] [])) B0 := fun t k => P1373 t (by
    refine XS.istore X1371.here hx rfl (hb hby at_57) rfl (l' := #[sI p0, sI p1, sI p2, sI p3, sI p4, sI p5, sI a, sI b, sI c, sI nn, sI r1368, sI r1371, sU, sU, sU, sU, sU, sU, sU, sU, sU, sU, sU]) rfl ?_
    show Sg p e below (T1371.setTop (mkF m 59 #[sI p0, sI p1, sI p2, sI p3, sI p4, sI p5, sI a, sI b, sI c, sI nn, sI r1368, sI r1371, sU, sU, sU, sU, sU, sU, sU, sU, sU, sU, sU] [])) _
    exact k)
  obtain ⟨T1375, h1375, L1375, f01375, kf1375, M01375, xs1375, X1375, e1375, Nq1375, K1375, u1375_0, u1375_1, u1375_2, u1375_3, u1375_4, st1375⟩ := pc_mkl p0 p1 p2 p3 p4 p5 a b c nn r1368 r1371 X1371 hx hZ hw hby hml hown e1371 N1372 Z0 (Nat.le_of_ble_eq_true rfl) (Nat.le_of_ble_eq_true rfl) (by decide) (by decide) 
  have P1376 : Rg p e below (T1375.setTop (mkF m 135 #[sI p0, sI p1, sI p2, sI p3, sI p4, sI p5, sI a, sI b, sI c, sI nn, sI r1368, sI r1371, sR f01375, sU, sU, sU, sU, sU, sU, sU, sU, sU, sU] [])) B0 := fun t k => P1374 t (by
    exact st1375 _ k)
  have Z1377 : n0 ≤ h1375.size := Nat.le_trans Z0 K1375.1
  have K1378 : Keep h0 h1375 [] := (Keep.refl h0 []).trans K1375 (all0)
  have O1379 : Old Z n0 h1375 := Ol.keep K1375 all0
  have g_f01375 : n0 ≤ f01375 := Nat.le_trans Z0 u1375_4
  have sz_f01375 : h0.size ≤ f01375 := Nat.le_trans (Keep.refl h0 []).1 u1375_4
  obtain ⟨⟨gs0, jR, jF, jC, jG, jP, jL, j3⟩, jle, jx⟩ := own_goodx u1375_0 h0a hab hbc
  obtain ⟨T1380, h1380, k1380, X1380, e1380, E1380, A1380, B1380, st1380⟩ := newPE X1375 hx hZ (own_hw hw 9 rfl) e1375 (g := (mkF m 136 #[sI p0, sI p1, sI p2, sI p3, sI p4, sI p5, sI a, sI b, sI c, sI nn, sI r1368, sI r1371, sR f01375, sU, sU, sU, sU, sU, sU, sU, sU, sU, sU] [(.int (3 : Int32))])) rfl (hb hby at_136) rfl (by decide) (cap := 3) (by decide) (by decide) (by decide) (by decide) (ad := "[I") (by decide)
  obtain ⟨b1380, g1380⟩ : ∃ z, z = h1375.size := ⟨_, rfl⟩
  rw [← g1380] at A1380 B1380 st1380
  have g_b1380 : n0 ≤ b1380 := Nat.le_trans Z1377 (Nat.le_of_eq g1380.symm)
  have sz_b1380 : h0.size ≤ b1380 := Nat.le_trans K1378.1 (Nat.le_of_eq g1380.symm)
  have P1381 : Rg p e below (T1380.setTop (mkF m 138 #[sI p0, sI p1, sI p2, sI p3, sI p4, sI p5, sI a, sI b, sI c, sI nn, sI r1368, sI r1371, sR f01375, sU, sU, sU, sU, sU, sU, sU, sU, sU, sU] [(.ref b1380)])) B0 := fun t k => P1376 t (by
    refine XS.iconst X1375.here hx rfl (hb hby at_135) ?_
    show Sg p e below (T1375.setTop (mkF m 136 #[sI p0, sI p1, sI p2, sI p3, sI p4, sI p5, sI a, sI b, sI c, sI nn, sI r1368, sI r1371, sR f01375, sU, sU, sU, sU, sU, sU, sU, sU, sU, sU] [(.int (3 : Int32))])) _
    exact st1380 _ k)
  have Z1382 : n0 ≤ h1380.size := Nat.le_trans Z1377 E1380.1
  have K1383 : Keep h0 h1380 [] := K1378.ext E1380
  have O1384 : Old Z n0 h1380 := O1379.ext E1380
  have v1385 : Arv Z h1380 b1380 k1380 .int (3 : Int32) [(.int (0 : Int32)), (.int (0 : Int32)), (.int (0 : Int32))] (.int (0 : Int32)) := (Arv.new A1380 (by decide)).pad (pad_rep [] (.int (0 : Int32)) 3)
  obtain ⟨cl1386, Ar1386, q1386, S1386, N1386, H1386, G1386⟩ := id v1385
  obtain ⟨T1386, h1386, X1386, e1386, W1386, st1386⟩ := stI X1380 hx hZ e1380 Ar1386 (j := (0 : Int32)) (inb_of S1386 ⟨by decide, by decide⟩) (g := (mkF m 142 #[sI p0, sI p1, sI p2, sI p3, sI p4, sI p5, sI a, sI b, sI c, sI nn, sI r1368, sI r1371, sR f01375, sU, sU, sU, sU, sU, sU, sU, sU, sU, sU] [(.int a), (.int (0 : Int32)), (.ref b1380), (.ref b1380)])) rfl rfl (hb hby at_142)
  have v1387 : Arv Z h1386 b1380 k1380 .int (3 : Int32) [(.int a), (.int (0 : Int32)), (.int (0 : Int32))] (.int (0 : Int32)) := Arv.set Ar1386 q1386 S1386 N1386 H1386 G1386 rfl W1386 0 rfl (Nat.le_of_ble_eq_true rfl)
  have P1388 : Rg p e below (T1386.setTop (mkF m 143 #[sI p0, sI p1, sI p2, sI p3, sI p4, sI p5, sI a, sI b, sI c, sI nn, sI r1368, sI r1371, sR f01375, sU, sU, sU, sU, sU, sU, sU, sU, sU, sU] [(.ref b1380)])) B0 := fun t k => P1381 t (by
    refine XS.dup X1380.here hx rfl (hb hby at_138) rfl rfl ?_
    refine XS.iconst X1380.here hx rfl (hb hby at_139) ?_
    refine XS.iload X1380.here hx rfl (hb hby at_140) rfl ?_
    show Sg p e below (T1380.setTop (mkF m 142 #[sI p0, sI p1, sI p2, sI p3, sI p4, sI p5, sI a, sI b, sI c, sI nn, sI r1368, sI r1371, sR f01375, sU, sU, sU, sU, sU, sU, sU, sU, sU, sU] [(.int a), (.int (0 : Int32)), (.ref b1380), (.ref b1380)])) _
    exact st1386 _ k)
  have N1389 := Fr.snoc X1386 Nq1375 g_b1380
  have Z1390 : n0 ≤ h1386.size := Nat.le_trans Z1382 (Keep.of_wr W1386).1
  have K1391 : Keep h0 h1386 [] := K1383.wr W1386 (Or.inr sz_b1380)
  have O1392 : Old Z n0 h1386 := O1384.wr W1386 g_b1380
  obtain ⟨cl1393, Ar1393, q1393, S1393, N1393, H1393, G1393⟩ := id v1387
  obtain ⟨T1393, h1393, X1393, e1393, W1393, st1393⟩ := stI X1386 hx hZ e1386 Ar1393 (j := (1 : Int32)) (inb_of S1393 ⟨by decide, by decide⟩) (g := (mkF m 147 #[sI p0, sI p1, sI p2, sI p3, sI p4, sI p5, sI a, sI b, sI c, sI nn, sI r1368, sI r1371, sR f01375, sU, sU, sU, sU, sU, sU, sU, sU, sU, sU] [(.int b), (.int (1 : Int32)), (.ref b1380), (.ref b1380)])) rfl rfl (hb hby at_147)
  have v1394 : Arv Z h1393 b1380 k1380 .int (3 : Int32) [(.int a), (.int b), (.int (0 : Int32))] (.int (0 : Int32)) := Arv.set Ar1393 q1393 S1393 N1393 H1393 G1393 rfl W1393 1 rfl (Nat.le_of_ble_eq_true rfl)
  have P1395 : Rg p e below (T1393.setTop (mkF m 148 #[sI p0, sI p1, sI p2, sI p3, sI p4, sI p5, sI a, sI b, sI c, sI nn, sI r1368, sI r1371, sR f01375, sU, sU, sU, sU, sU, sU, sU, sU, sU, sU] [(.ref b1380)])) B0 := fun t k => P1388 t (by
    refine XS.dup X1386.here hx rfl (hb hby at_143) rfl rfl ?_
    refine XS.iconst X1386.here hx rfl (hb hby at_144) ?_
    refine XS.iload X1386.here hx rfl (hb hby at_145) rfl ?_
    show Sg p e below (T1386.setTop (mkF m 147 #[sI p0, sI p1, sI p2, sI p3, sI p4, sI p5, sI a, sI b, sI c, sI nn, sI r1368, sI r1371, sR f01375, sU, sU, sU, sU, sU, sU, sU, sU, sU, sU] [(.int b), (.int (1 : Int32)), (.ref b1380), (.ref b1380)])) _
    exact st1393 _ k)
  have N1396 := Fr.snoc X1393 N1389 g_b1380
  have Z1397 : n0 ≤ h1393.size := Nat.le_trans Z1390 (Keep.of_wr W1393).1
  have K1398 : Keep h0 h1393 [] := K1391.wr W1393 (Or.inr sz_b1380)
  have O1399 : Old Z n0 h1393 := O1392.wr W1393 g_b1380
  obtain ⟨cl1400, Ar1400, q1400, S1400, N1400, H1400, G1400⟩ := id v1394
  obtain ⟨T1400, h1400, X1400, e1400, W1400, st1400⟩ := stI X1393 hx hZ e1393 Ar1400 (j := (2 : Int32)) (inb_of S1400 ⟨by decide, by decide⟩) (g := (mkF m 152 #[sI p0, sI p1, sI p2, sI p3, sI p4, sI p5, sI a, sI b, sI c, sI nn, sI r1368, sI r1371, sR f01375, sU, sU, sU, sU, sU, sU, sU, sU, sU, sU] [(.int c), (.int (2 : Int32)), (.ref b1380), (.ref b1380)])) rfl rfl (hb hby at_152)
  have v1401 : Arv Z h1400 b1380 k1380 .int (3 : Int32) [(.int a), (.int b), (.int c)] (.int (0 : Int32)) := Arv.set Ar1400 q1400 S1400 N1400 H1400 G1400 rfl W1400 2 rfl (Nat.le_of_ble_eq_true rfl)
  have P1402 : Rg p e below (T1400.setTop (mkF m 153 #[sI p0, sI p1, sI p2, sI p3, sI p4, sI p5, sI a, sI b, sI c, sI nn, sI r1368, sI r1371, sR f01375, sU, sU, sU, sU, sU, sU, sU, sU, sU, sU] [(.ref b1380)])) B0 := fun t k => P1395 t (by
    refine XS.dup X1393.here hx rfl (hb hby at_148) rfl rfl ?_
    refine XS.iconst X1393.here hx rfl (hb hby at_149) ?_
    refine XS.iload X1393.here hx rfl (hb hby at_150) rfl ?_
    show Sg p e below (T1393.setTop (mkF m 152 #[sI p0, sI p1, sI p2, sI p3, sI p4, sI p5, sI a, sI b, sI c, sI nn, sI r1368, sI r1371, sR f01375, sU, sU, sU, sU, sU, sU, sU, sU, sU, sU] [(.int c), (.int (2 : Int32)), (.ref b1380), (.ref b1380)])) _
    exact st1400 _ k)
  have N1403 := Fr.snoc X1400 N1396 g_b1380
  have Z1404 : n0 ≤ h1400.size := Nat.le_trans Z1397 (Keep.of_wr W1400).1
  have K1405 : Keep h0 h1400 [] := K1398.wr W1400 (Or.inr sz_b1380)
  have O1406 : Old Z n0 h1400 := O1399.wr W1400 g_b1380
  obtain ⟨T1407, h1407, X1407, e1407, E1407, A1407, D1407, -, st1407⟩ := newO X1400 hx hZ hown (own_hw hw 10 rfl) (own_hw hw 11 rfl) (own_hw hw 12 rfl) e1400 (g := (mkF m 155 #[sI p0, sI p1, sI p2, sI p3, sI p4, sI p5, sI a, sI b, sI c, sI nn, sI r1368, sI r1371, sR f01375, sR b1380, sU, sU, sU, sU, sU, sU, sU, sU, sU] [])) rfl (hb hby at_155) (by decide) (by decide)
  obtain ⟨b1407, g1407⟩ : ∃ z, z = h1400.size := ⟨_, rfl⟩
  rw [← g1407] at A1407 D1407 st1407
  have g_b1407 : n0 ≤ b1407 := Nat.le_trans Z1404 (Nat.le_of_eq g1407.symm)
  have sz_b1407 : h0.size ≤ b1407 := Nat.le_trans K1405.1 (Nat.le_of_eq g1407.symm)
  have P1408 : Rg p e below (T1407.setTop (mkF m 158 #[sI p0, sI p1, sI p2, sI p3, sI p4, sI p5, sI a, sI b, sI c, sI nn, sI r1368, sI r1371, sR f01375, sR b1380, sU, sU, sU, sU, sU, sU, sU, sU, sU] [(.ref b1407)])) B0 := fun t k => P1402 t (by
    refine XS.astore X1400.here hx rfl (hb hby at_153) rfl rfl (l' := #[sI p0, sI p1, sI p2, sI p3, sI p4, sI p5, sI a, sI b, sI c, sI nn, sI r1368, sI r1371, sR f01375, sR b1380, sU, sU, sU, sU, sU, sU, sU, sU, sU]) rfl ?_
    show Sg p e below (T1400.setTop (mkF m 155 #[sI p0, sI p1, sI p2, sI p3, sI p4, sI p5, sI a, sI b, sI c, sI nn, sI r1368, sI r1371, sR f01375, sR b1380, sU, sU, sU, sU, sU, sU, sU, sU, sU] [])) _
    exact st1407 _ k)
  have Z1409 : n0 ≤ h1407.size := Nat.le_trans Z1404 E1407.1
  have K1410 : Keep h0 h1407 [] := K1405.ext E1407
  have O1411 : Old Z n0 h1407 := O1406.ext E1407
  have f1412 : Fld Z h1407 b1407 sW "places" "[[I" .null := D1407 (Or.inr (own_hw hw 24 rfl)) (ty := (.array (.array .int))) (by decide)
  have f1413 : Fld Z h1407 b1407 sW "words" "[[J" .null := D1407 (Or.inr (own_hw hw 28 rfl)) (ty := (.array (.array .long))) (by decide)
  obtain ⟨T1414, h1414, k1414, X1414, e1414, E1414, A1414, B1414, O1414, st1414⟩ := newRA X1407 hx hZ hown (C := "[I") (ty := .int) (by decide) (own_hw hw 13 rfl) (own_hw hw 14 rfl) e1407 (g := (mkF m 160 #[sI p0, sI p1, sI p2, sI p3, sI p4, sI p5, sI a, sI b, sI c, sI nn, sI r1368, sI r1371, sR f01375, sR b1380, sU, sU, sU, sU, sU, sU, sU, sU, sU] [(.int (2 : Int32)), (.ref b1407), (.ref b1407)])) rfl (hb hby at_160) rfl (by decide) (cap := 2) (by decide) (by decide) (by decide) (by decide) (ad := "[[I") (by decide)
  obtain ⟨b1414, g1414⟩ : ∃ z, z = h1407.size := ⟨_, rfl⟩
  rw [← g1414] at A1414 B1414 st1414
  have g_b1414 : n0 ≤ b1414 := Nat.le_trans Z1409 (Nat.le_of_eq g1414.symm)
  have sz_b1414 : h0.size ≤ b1414 := Nat.le_trans K1410.1 (Nat.le_of_eq g1414.symm)
  have P1415 : Rg p e below (T1414.setTop (mkF m 163 #[sI p0, sI p1, sI p2, sI p3, sI p4, sI p5, sI a, sI b, sI c, sI nn, sI r1368, sI r1371, sR f01375, sR b1380, sU, sU, sU, sU, sU, sU, sU, sU, sU] [(.ref b1414), (.ref b1407), (.ref b1407)])) B0 := fun t k => P1408 t (by
    refine XS.dup X1407.here hx rfl (hb hby at_158) rfl rfl ?_
    refine XS.iconst X1407.here hx rfl (hb hby at_159) ?_
    show Sg p e below (T1407.setTop (mkF m 160 #[sI p0, sI p1, sI p2, sI p3, sI p4, sI p5, sI a, sI b, sI c, sI nn, sI r1368, sI r1371, sR f01375, sR b1380, sU, sU, sU, sU, sU, sU, sU, sU, sU] [(.int (2 : Int32)), (.ref b1407), (.ref b1407)])) _
    exact st1414 _ k)
  have Z1416 : n0 ≤ h1414.size := Nat.le_trans Z1409 E1414.1
  have K1417 : Keep h0 h1414 [] := K1410.ext E1414
  have O1418 : Old Z n0 h1414 := O1411.ext E1414
  have v1419 : Arv Z h1414 b1414 k1414 (.array .int) (2 : Int32) [.null, .null] .null := (Arv.new A1414 (by decide)).pad (pad_rep [] .null 2)
  have f1421 := ((((((u1375_3.ext E1380).wr W1386).wr W1393).wr W1400).ext E1407).ext E1414)
  obtain ⟨cl1420, Ar1420, q1420, S1420, N1420, H1420, G1420⟩ := id v1419
  obtain ⟨T1420, h1420, X1420, e1420, W1420, st1420⟩ := stR X1414 hx hZ e1414 Ar1420 (j := (0 : Int32)) (inb_of S1420 ⟨by decide, by decide⟩) rfl (Sto.ofVA Ar1420 q1420 O1414 (Ins.self f1421)) (g := (mkF m 167 #[sI p0, sI p1, sI p2, sI p3, sI p4, sI p5, sI a, sI b, sI c, sI nn, sI r1368, sI r1371, sR f01375, sR b1380, sU, sU, sU, sU, sU, sU, sU, sU, sU] [(.ref f01375), (.int (0 : Int32)), (.ref b1414), (.ref b1414), (.ref b1407), (.ref b1407)])) rfl rfl (hb hby at_167)
  have v1422 : Arv Z h1420 b1414 k1414 (.array .int) (2 : Int32) [(.ref f01375), .null] .null := Arv.set Ar1420 q1420 S1420 N1420 H1420 G1420 rfl W1420 0 rfl (Nat.le_of_ble_eq_true rfl)
  have P1423 : Rg p e below (T1420.setTop (mkF m 168 #[sI p0, sI p1, sI p2, sI p3, sI p4, sI p5, sI a, sI b, sI c, sI nn, sI r1368, sI r1371, sR f01375, sR b1380, sU, sU, sU, sU, sU, sU, sU, sU, sU] [(.ref b1414), (.ref b1407), (.ref b1407)])) B0 := fun t k => P1415 t (by
    refine XS.dup X1414.here hx rfl (hb hby at_163) rfl rfl ?_
    refine XS.iconst X1414.here hx rfl (hb hby at_164) ?_
    refine XS.aload X1414.here hx rfl (hb hby at_165) rfl rfl ?_
    show Sg p e below (T1414.setTop (mkF m 167 #[sI p0, sI p1, sI p2, sI p3, sI p4, sI p5, sI a, sI b, sI c, sI nn, sI r1368, sI r1371, sR f01375, sR b1380, sU, sU, sU, sU, sU, sU, sU, sU, sU] [(.ref f01375), (.int (0 : Int32)), (.ref b1414), (.ref b1414), (.ref b1407), (.ref b1407)])) _
    exact st1420 _ k)
  have N1424 := Fr.snoc X1420 N1403 g_b1414
  have Z1425 : n0 ≤ h1420.size := Nat.le_trans Z1416 (Keep.of_wr W1420).1
  have K1426 : Keep h0 h1420 [] := K1417.wr W1420 (Or.inr sz_b1414)
  have O1427 : Old Z n0 h1420 := O1418.wr W1420 g_b1414
  have f1429 := ((((((B1380.wr W1386).wr W1393).wr W1400).ext E1407).ext E1414).wr W1420)
  obtain ⟨cl1428, Ar1428, q1428, S1428, N1428, H1428, G1428⟩ := id v1422
  obtain ⟨T1428, h1428, X1428, e1428, W1428, st1428⟩ := stR X1420 hx hZ e1420 Ar1428 (j := (1 : Int32)) (inb_of S1428 ⟨by decide, by decide⟩) rfl (Sto.ofVA Ar1428 q1428 O1414 (Ins.self f1429)) (g := (mkF m 172 #[sI p0, sI p1, sI p2, sI p3, sI p4, sI p5, sI a, sI b, sI c, sI nn, sI r1368, sI r1371, sR f01375, sR b1380, sU, sU, sU, sU, sU, sU, sU, sU, sU] [(.ref b1380), (.int (1 : Int32)), (.ref b1414), (.ref b1414), (.ref b1407), (.ref b1407)])) rfl rfl (hb hby at_172)
  have v1430 : Arv Z h1428 b1414 k1414 (.array .int) (2 : Int32) [(.ref f01375), (.ref b1380)] .null := Arv.set Ar1428 q1428 S1428 N1428 H1428 G1428 rfl W1428 1 rfl (Nat.le_of_ble_eq_true rfl)
  have P1431 : Rg p e below (T1428.setTop (mkF m 173 #[sI p0, sI p1, sI p2, sI p3, sI p4, sI p5, sI a, sI b, sI c, sI nn, sI r1368, sI r1371, sR f01375, sR b1380, sU, sU, sU, sU, sU, sU, sU, sU, sU] [(.ref b1414), (.ref b1407), (.ref b1407)])) B0 := fun t k => P1423 t (by
    refine XS.dup X1420.here hx rfl (hb hby at_168) rfl rfl ?_
    refine XS.iconst X1420.here hx rfl (hb hby at_169) ?_
    refine XS.aload X1420.here hx rfl (hb hby at_170) rfl rfl ?_
    show Sg p e below (T1420.setTop (mkF m 172 #[sI p0, sI p1, sI p2, sI p3, sI p4, sI p5, sI a, sI b, sI c, sI nn, sI r1368, sI r1371, sR f01375, sR b1380, sU, sU, sU, sU, sU, sU, sU, sU, sU] [(.ref b1380), (.int (1 : Int32)), (.ref b1414), (.ref b1414), (.ref b1407), (.ref b1407)])) _
    exact st1428 _ k)
  have N1432 := Fr.snoc X1428 N1424 g_b1414
  have Z1433 : n0 ≤ h1428.size := Nat.le_trans Z1425 (Keep.of_wr W1428).1
  have K1434 : Keep h0 h1428 [] := K1426.wr W1428 (Or.inr sz_b1414)
  have O1435 : Old Z n0 h1428 := O1427.wr W1428 g_b1414
  have f1436 := (((A1407.ext E1414).wr W1420).wr W1428)
  have f1437 := (((f1412.ext E1414).other W1420 (Or.inl (Nat.ne_of_lt (Nat.lt_of_lt_of_le f1413.lt (Nat.le_of_eq g1414.symm))))).other W1428 (Or.inl (Nat.ne_of_lt (Nat.lt_of_lt_of_le f1413.lt (Nat.le_of_eq g1414.symm)))))
  have f1438 := (((f1413.ext E1414).other W1420 (Or.inl (Nat.ne_of_lt (Nat.lt_of_lt_of_le f1413.lt (Nat.le_of_eq g1414.symm))))).other W1428 (Or.inl (Nat.ne_of_lt (Nat.lt_of_lt_of_le f1413.lt (Nat.le_of_eq g1414.symm)))))
  have f1439 := ((((((((u1375_2.ext E1380).other W1386 (Nat.ne_of_lt (Nat.lt_of_lt_of_le u1375_3.lt (Nat.le_of_eq g1380.symm)))).other W1393 (Nat.ne_of_lt (Nat.lt_of_lt_of_le u1375_3.lt (Nat.le_of_eq g1380.symm)))).other W1400 (Nat.ne_of_lt (Nat.lt_of_lt_of_le u1375_3.lt (Nat.le_of_eq g1380.symm)))).ext E1407).ext E1414).other W1420 (Nat.ne_of_lt (Nat.lt_of_lt_of_le (((((u1375_3.ext E1380).wr W1386).wr W1393).wr W1400).ext E1407).lt (Nat.le_of_eq g1414.symm)))).other W1428 (Nat.ne_of_lt (Nat.lt_of_lt_of_le (((((u1375_3.ext E1380).wr W1386).wr W1393).wr W1400).ext E1407).lt (Nat.le_of_eq g1414.symm))))
  have f1440 := ((((v1401.ext E1407).ext E1414).other W1420 (Nat.ne_of_lt (Nat.lt_of_lt_of_le (v1401.ext E1407).lt (Nat.le_of_eq g1414.symm)))).other W1428 (Nat.ne_of_lt (Nat.lt_of_lt_of_le (v1401.ext E1407).lt (Nat.le_of_eq g1414.symm))))
  obtain ⟨_, _, ⟨T1441, L1441, k1441, n1441⟩, -, X1441, ⟨Lc1441, hQ1441, l1441, y1441, z1441⟩, st1441⟩ := X1428.specialBack hx (y := (⟨"com/example/whittle/whittle/engine/WordSets", "<init>", "([[I)V"⟩ : MethodName)) rfl hown (mvT hZ (own_hw hw 16 rfl)) (mvT hZ (own_hw hw 17 rfl)) (mvT hZ (own_hw hw 18 rfl)) (by decide) (backOf (W := 1) (rm_wsInit l Z a0 hw [] b1407 b1414 k1414 f01375 b1380 kf1375 k1380 M01375 (3 : Int32) xs1375 [a, b, c] h1428 n0 Z1433 g_b1407 f1436 f1437 f1438 v1430 f1439 u1375_1 jx f1440 rfl (Nat.le_refl _)) hZ (own_hw hw 18 rfl) (own_hw hw 12 rfl) (by decide) (by decide)) (g := (mkF m 173 #[sI p0, sI p1, sI p2, sI p3, sI p4, sI p5, sI a, sI b, sI c, sI nn, sI r1368, sI r1371, sR f01375, sR b1380, sU, sU, sU, sU, sU, sU, sU, sU, sU] [(.ref b1414), (.ref b1407), (.ref b1407)])) rfl (by rw [hml]; rfl) (Steps.refl _) (a := b1407) (argsL := [(.ref b1414)]) (rest := [(.ref b1407)]) (lenOf pd__28_5b_5bI_29V rfl) rfl (by show 2 * 0 + _ ≤ _; exact Nat.le_of_eq rfl) (hb hby at_173) (fun _ _ => ⟨rfl, e1428, (Nat.le_of_ble_eq_true rfl : 4 + 6 ≤ _), (Nat.le_of_ble_eq_true rfl : 10 + 16 ≤ _)⟩)
  dsimp only [Pt.U, Pt.locs, Pt.cells, Pt.slots] at X1441 l1441 y1441 z1441 st1441 hQ1441
  subst l1441 y1441 z1441
  obtain ⟨rfl, Nq1441, K1441, Ea1441, PP1441, WW1441, kPP1441, kWW1441, P01441, P11441, W01441, W11441, Fp1441, Fw1441, APP1441, AWW1441, s11441, s21441, ⟨kf01441, kg01441, pl0, wl0, N0, hpl0, hwl0, hN0, Af01441, Ag01441, Ef01441, Eg01441, s301441, s401441⟩, ⟨kf11441, kg11441, pl1, wl1, N1, hpl1, hwl1, hN1, Af11441, Ag11441, Ef11441, Eg11441, s311441, s411441⟩⟩ := hQ1441
  have N1442 := Fr.app N1432 Nq1441
  have P1443 : Rg p e below (T1441.setTop (mkF m 176 #[sI p0, sI p1, sI p2, sI p3, sI p4, sI p5, sI a, sI b, sI c, sI nn, sI r1368, sI r1371, sR f01375, sR b1380, sU, sU, sU, sU, sU, sU, sU, sU, sU] [(.ref b1407)])) B0 := fun t k => P1431 t (by
    exact st1441.trans k)
  have Z1444 : n0 ≤ T1441.heap.size := Nat.le_trans Z1433 K1441.1
  have K1445 : Keep h0 T1441.heap [] := K1434.trans K1441 ((allS (Or.inr sz_b1407) all0))
  have O1446 : Old Z n0 T1441.heap := O1435.keep K1441 (allS g_b1407 all0)
  have g_PP1441 : n0 ≤ PP1441 := Nat.le_trans Z1433 s11441
  have sz_PP1441 : h0.size ≤ PP1441 := Nat.le_trans K1434.1 s11441
  have g_WW1441 : n0 ≤ WW1441 := Nat.le_trans Z1433 s21441
  have sz_WW1441 : h0.size ≤ WW1441 := Nat.le_trans K1434.1 s21441
  have g_P01441 : n0 ≤ P01441 := Nat.le_trans Z1433 s301441
  have sz_P01441 : h0.size ≤ P01441 := Nat.le_trans K1434.1 s301441
  have g_W01441 : n0 ≤ W01441 := Nat.le_trans Z1433 s401441
  have sz_W01441 : h0.size ≤ W01441 := Nat.le_trans K1434.1 s401441
  have g_P11441 : n0 ≤ P11441 := Nat.le_trans Z1433 s311441
  have sz_P11441 : h0.size ≤ P11441 := Nat.le_trans K1434.1 s311441
  have g_W11441 : n0 ≤ W11441 := Nat.le_trans Z1433 s411441
  have sz_W11441 : h0.size ≤ W11441 := Nat.le_trans K1434.1 s411441
  rw [← hpl1, ← hwl1] at iR iL
  rw [← hpl1] at iP i0 i3 jle
  have iN := own_nz iR iG
  rw [← hpl0, ← hwl0] at jR jL
  rw [← hpl0] at jP j3 jle
  have jN := own_nz jR jG
  obtain ⟨T1447, h1447, X1447, e1447, E1447, A1447, D1447, -, st1447⟩ := newO X1441 hx hZ hown (own_hw hw 31 rfl) (own_hw hw 32 rfl) (own_hw hw 33 rfl) rfl (g := (mkF m 178 #[sI p0, sI p1, sI p2, sI p3, sI p4, sI p5, sI a, sI b, sI c, sI nn, sI r1368, sI r1371, sR f01375, sR b1380, sR b1407, sU, sU, sU, sU, sU, sU, sU, sU] [])) rfl (hb hby at_178) (by decide) (by decide)
  obtain ⟨b1447, g1447⟩ : ∃ z, z = T1441.heap.size := ⟨_, rfl⟩
  rw [← g1447] at A1447 D1447 st1447
  have g_b1447 : n0 ≤ b1447 := Nat.le_trans Z1444 (Nat.le_of_eq g1447.symm)
  have sz_b1447 : h0.size ≤ b1447 := Nat.le_trans K1445.1 (Nat.le_of_eq g1447.symm)
  have P1448 : Rg p e below (T1447.setTop (mkF m 181 #[sI p0, sI p1, sI p2, sI p3, sI p4, sI p5, sI a, sI b, sI c, sI nn, sI r1368, sI r1371, sR f01375, sR b1380, sR b1407, sU, sU, sU, sU, sU, sU, sU, sU] [(.ref b1447)])) B0 := fun t k => P1443 t (by
    refine XS.astore X1441.here hx rfl (hb hby at_176) rfl rfl (l' := #[sI p0, sI p1, sI p2, sI p3, sI p4, sI p5, sI a, sI b, sI c, sI nn, sI r1368, sI r1371, sR f01375, sR b1380, sR b1407, sU, sU, sU, sU, sU, sU, sU, sU]) rfl ?_
    show Sg p e below (T1441.setTop (mkF m 178 #[sI p0, sI p1, sI p2, sI p3, sI p4, sI p5, sI a, sI b, sI c, sI nn, sI r1368, sI r1371, sR f01375, sR b1380, sR b1407, sU, sU, sU, sU, sU, sU, sU, sU] [])) _
    exact st1447 _ k)
  have Z1449 : n0 ≤ h1447.size := Nat.le_trans Z1444 E1447.1
  have K1450 : Keep h0 h1447 [] := K1445.ext E1447
  have O1451 : Old Z n0 h1447 := O1446.ext E1447
  have f1452 : Fld Z h1447 b1447 sM "places" "[I" .null := D1447 (Or.inl (own_hw hw 39 rfl)) (ty := (.array .int)) (by decide)
  have f1453 : Fld Z h1447 b1447 sM "words" "[J" .null := D1447 (Or.inl (own_hw hw 41 rfl)) (ty := (.array .long)) (by decide)
  have f1454 : Fld Z h1447 b1447 sM "count" "I" (.int (0 : Int32)) := D1447 (Or.inl (own_hw hw 50 rfl)) (ty := .int) (by decide)
  obtain ⟨_, _, ⟨T1455, L1455, k1455, n1455⟩, -, X1455, ⟨Lc1455, hQ1455, l1455, y1455, z1455⟩, st1455⟩ := X1447.specialBack hx (y := (⟨"com/example/whittle/whittle/engine/WordSets$Meet", "<init>", "()V"⟩ : MethodName)) rfl hown (mvT hZ (own_hw hw 34 rfl)) (mvT hZ (own_hw hw 35 rfl)) (mvT hZ (own_hw hw 36 rfl)) (by decide) (backOf (W := 1) (rm_meInit l Z a0 hw [] b1447 h1447 n0 Z1449 g_b1447 A1447 f1452 f1453 f1454) hZ (own_hw hw 36 rfl) (own_hw hw 33 rfl) (by decide) (by decide)) (g := (mkF m 182 #[sI p0, sI p1, sI p2, sI p3, sI p4, sI p5, sI a, sI b, sI c, sI nn, sI r1368, sI r1371, sR f01375, sR b1380, sR b1407, sU, sU, sU, sU, sU, sU, sU, sU] [(.ref b1447), (.ref b1447)])) rfl (by rw [hml]; rfl) (Steps.refl _) (a := b1447) (argsL := []) (rest := [(.ref b1447)]) (lenOf pd__28_29V rfl) rfl (by show 2 * 0 + _ ≤ _; exact Nat.le_of_eq rfl) (hb hby at_182) (fun _ _ => ⟨rfl, e1447, (Nat.le_of_ble_eq_true rfl : 11 + 2 ≤ _), (Nat.le_of_ble_eq_true rfl : 29 + 0 ≤ _)⟩)
  dsimp only [Pt.U, Pt.locs, Pt.cells, Pt.slots] at X1455 l1455 y1455 z1455 st1455 hQ1455
  subst l1455 y1455 z1455
  obtain ⟨rfl, Nq1455, K1455, Ea1455, Fc1455, P1455, W1455, k1455, k21455, Fp1455, Fw1455, A11455, A21455, E11455, E21455, s11455, s21455⟩ := hQ1455
  have N1456 := Fr.app N1442 Nq1455
  have P1457 : Rg p e below (T1455.setTop (mkF m 185 #[sI p0, sI p1, sI p2, sI p3, sI p4, sI p5, sI a, sI b, sI c, sI nn, sI r1368, sI r1371, sR f01375, sR b1380, sR b1407, sU, sU, sU, sU, sU, sU, sU, sU] [(.ref b1447)])) B0 := fun t k => P1448 t (by
    refine XS.dup X1447.here hx rfl (hb hby at_181) rfl rfl ?_
    show Sg p e below (T1447.setTop (mkF m 182 #[sI p0, sI p1, sI p2, sI p3, sI p4, sI p5, sI a, sI b, sI c, sI nn, sI r1368, sI r1371, sR f01375, sR b1380, sR b1407, sU, sU, sU, sU, sU, sU, sU, sU] [(.ref b1447), (.ref b1447)])) _
    exact st1455.trans k)
  have Z1458 : n0 ≤ T1455.heap.size := Nat.le_trans Z1449 K1455.1
  have K1459 : Keep h0 T1455.heap [] := K1450.trans K1455 ((allS (Or.inr sz_b1447) all0))
  have O1460 : Old Z n0 T1455.heap := O1451.keep K1455 (allS g_b1447 all0)
  have g_P1455 : n0 ≤ P1455 := Nat.le_trans Z1449 s11455
  have sz_P1455 : h0.size ≤ P1455 := Nat.le_trans K1450.1 s11455
  have g_W1455 : n0 ≤ W1455 := Nat.le_trans Z1449 s21455
  have sz_W1455 : h0.size ≤ W1455 := Nat.le_trans K1450.1 s21455
  have f1461 := ((Ea1441.ext E1447).keep K1455)
  have f1462 := ((Fp1441.ext E1447).keep K1455 (ninS (Nat.ne_of_lt (Nat.lt_of_lt_of_le Fw1441.lt (Nat.le_of_eq g1447.symm))) nin0))
  have f1463 := ((Fw1441.ext E1447).keep K1455 (ninS (Nat.ne_of_lt (Nat.lt_of_lt_of_le Fw1441.lt (Nat.le_of_eq g1447.symm))) nin0))
  have f1464 := ((APP1441.ext E1447).keep K1455 (ninS (Nat.ne_of_lt (Nat.lt_of_lt_of_le APP1441.lt (Nat.le_of_eq g1447.symm))) nin0))
  have f1465 := ((AWW1441.ext E1447).keep K1455 (ninS (Nat.ne_of_lt (Nat.lt_of_lt_of_le AWW1441.lt (Nat.le_of_eq g1447.symm))) nin0))
  have f1466 := ((Af11441.ext E1447).keep K1455 (ninS (Nat.ne_of_lt (Nat.lt_of_lt_of_le Ef11441.lt (Nat.le_of_eq g1447.symm))) nin0))
  have f1467 := ((Ag11441.ext E1447).keep K1455 (ninS (Nat.ne_of_lt (Nat.lt_of_lt_of_le Eg11441.lt (Nat.le_of_eq g1447.symm))) nin0))
  have f1468 := ((Ef11441.ext E1447).keep K1455)
  have f1469 := ((Eg11441.ext E1447).keep K1455)
  obtain ⟨cq1470, kq1470, q1470a, q1470b, q1470c⟩ := isOf hZ rfl Ea1455
  obtain ⟨_, _, ⟨T1470, L1470, k1470, n1470⟩, -, X1470, ⟨Lc1470, hQ1470, l1470, y1470, z1470⟩, st1470⟩ := X1455.virtualBack hx (y := (⟨"com/example/whittle/whittle/engine/WordSets$Meet", "start", "(Lcom/example/whittle/whittle/engine/WordSets;I)V"⟩ : MethodName)) (z := (⟨"com/example/whittle/whittle/engine/WordSets$Meet", "start", "(Lcom/example/whittle/whittle/engine/WordSets;I)V"⟩ : MethodName)) hown (mvT hZ (own_hw hw 42 rfl)) (mvT hZ (own_hw hw 43 rfl)) (notFace_of_selects (args := #[]) (mvT hZ (own_hw hw 45 rfl))) (mvT hZ (own_hw hw 45 rfl)) (mvT hZ (own_hw hw 44 rfl)) (by decide) (backOf (W := 0) (rm_stf l Z a0 hw [] b1447 P1455 W1455 k1455 b1407 PP1441 WW1441 P01441 P11441 W01441 W11441 kPP1441 kWW1441 kf11441 kg11441 N1 pl1 wl1 T1455.heap n0 Z1458 g_b1447 Ea1455 Fp1455 Fw1455 Fc1455 f1461 f1462 f1463 f1464 f1465 f1466 f1467 f1468 f1469 hN1 i3 iL A11455 i0 iN) hZ (own_hw hw 46 rfl) (own_hw hw 33 rfl) (by decide) (by decide)) q1470a q1470c (g := (mkF m 192 #[sI p0, sI p1, sI p2, sI p3, sI p4, sI p5, sI a, sI b, sI c, sI nn, sI r1368, sI r1371, sR f01375, sR b1380, sR b1407, sR b1447, sU, sU, sU, sU, sU, sU, sU] [(.int (1 : Int32)), (.ref b1407), (.ref b1447)])) rfl (by rw [hml]; rfl) (Steps.refl _) (argsL := [(.ref b1407), (.int (1 : Int32))]) (rest := []) (lenOf pd__28Lcom_2fexample_2fwhittle_2fwhittle_2fengine_2fWordSets_3bI_29V rfl) rfl (by show 2 * 0 + _ ≤ _; exact Nat.le_of_eq rfl) (hb hby at_192) (fun _ _ => ⟨rfl, rfl, (Nat.le_of_ble_eq_true rfl : 13 + 2 ≤ _), (Nat.le_of_ble_eq_true rfl : 29 + 6 ≤ _)⟩)
  dsimp only [Pt.U, Pt.locs, Pt.cells, Pt.slots] at X1470 l1470 y1470 z1470 st1470 hQ1470
  subst l1470 y1470 z1470
  obtain ⟨rfl, Nq1470, K1470, Ea1470, Fc1470, P1470, W1470, k1470, k21470, Fp1470, Fw1470, A11470, A21470, E11470, E21470, s11470, s21470⟩ := hQ1470
  have N1471 := Fr.app N1456 Nq1470
  have P1472 : Rg p e below (T1470.setTop (mkF m 195 #[sI p0, sI p1, sI p2, sI p3, sI p4, sI p5, sI a, sI b, sI c, sI nn, sI r1368, sI r1371, sR f01375, sR b1380, sR b1407, sR b1447, sU, sU, sU, sU, sU, sU, sU] [])) B0 := fun t k => P1457 t (by
    refine XS.astore X1455.here hx rfl (hb hby at_185) rfl rfl (l' := #[sI p0, sI p1, sI p2, sI p3, sI p4, sI p5, sI a, sI b, sI c, sI nn, sI r1368, sI r1371, sR f01375, sR b1380, sR b1407, sR b1447, sU, sU, sU, sU, sU, sU, sU]) rfl ?_
    refine XS.aload X1455.here hx rfl (hb hby at_187) rfl rfl ?_
    refine XS.aload X1455.here hx rfl (hb hby at_189) rfl rfl ?_
    refine XS.iconst X1455.here hx rfl (hb hby at_191) ?_
    show Sg p e below (T1455.setTop (mkF m 192 #[sI p0, sI p1, sI p2, sI p3, sI p4, sI p5, sI a, sI b, sI c, sI nn, sI r1368, sI r1371, sR f01375, sR b1380, sR b1407, sR b1447, sU, sU, sU, sU, sU, sU, sU] [(.int (1 : Int32)), (.ref b1407), (.ref b1447)])) _
    exact st1470.trans k)
  have Z1473 : n0 ≤ T1470.heap.size := Nat.le_trans Z1458 K1470.1
  have K1474 : Keep h0 T1470.heap [] := K1459.trans K1470 ((allS (Or.inr sz_b1447) all0))
  have O1475 : Old Z n0 T1470.heap := O1460.keep K1470 (allS g_b1447 all0)
  have g_P1470 : n0 ≤ P1470 := Nat.le_trans Z1458 s11470
  have sz_P1470 : h0.size ≤ P1470 := Nat.le_trans K1459.1 s11470
  have g_W1470 : n0 ≤ W1470 := Nat.le_trans Z1458 s21470
  have sz_W1470 : h0.size ≤ W1470 := Nat.le_trans K1459.1 s21470
  have f1476 := (f1461.keep K1470)
  have f1477 := (f1462.keep K1470 (ninS (Nat.ne_of_lt (Nat.lt_of_lt_of_le Fw1441.lt (Nat.le_of_eq g1447.symm))) nin0))
  have f1478 := (f1463.keep K1470 (ninS (Nat.ne_of_lt (Nat.lt_of_lt_of_le Fw1441.lt (Nat.le_of_eq g1447.symm))) nin0))
  have f1479 := (f1464.keep K1470 (ninS (Nat.ne_of_lt (Nat.lt_of_lt_of_le APP1441.lt (Nat.le_of_eq g1447.symm))) nin0))
  have f1480 := (f1465.keep K1470 (ninS (Nat.ne_of_lt (Nat.lt_of_lt_of_le AWW1441.lt (Nat.le_of_eq g1447.symm))) nin0))
  have f1481 := (((Af01441.ext E1447).keep K1455 (ninS (Nat.ne_of_lt (Nat.lt_of_lt_of_le Ef01441.lt (Nat.le_of_eq g1447.symm))) nin0)).keep K1470 (ninS (Nat.ne_of_lt (Nat.lt_of_lt_of_le Ef01441.lt (Nat.le_of_eq g1447.symm))) nin0))
  have f1482 := (((Ag01441.ext E1447).keep K1455 (ninS (Nat.ne_of_lt (Nat.lt_of_lt_of_le Eg01441.lt (Nat.le_of_eq g1447.symm))) nin0)).keep K1470 (ninS (Nat.ne_of_lt (Nat.lt_of_lt_of_le Eg01441.lt (Nat.le_of_eq g1447.symm))) nin0))
  have f1483 := (((Ef01441.ext E1447).keep K1455).keep K1470)
  have f1484 := (((Eg01441.ext E1447).keep K1455).keep K1470)
  obtain ⟨cq1485, kq1485, q1485a, q1485b, q1485c⟩ := isOf hZ rfl Ea1470
  obtain ⟨_, _, ⟨T1485, L1485, k1485, n1485⟩, -, X1485, ⟨Lc1485, hQ1485, l1485, y1485, z1485⟩, st1485⟩ := X1470.virtualBack hx (y := (⟨"com/example/whittle/whittle/engine/WordSets$Meet", "start", "(Lcom/example/whittle/whittle/engine/WordSets;I)V"⟩ : MethodName)) (z := (⟨"com/example/whittle/whittle/engine/WordSets$Meet", "start", "(Lcom/example/whittle/whittle/engine/WordSets;I)V"⟩ : MethodName)) hown (mvT hZ (own_hw hw 42 rfl)) (mvT hZ (own_hw hw 43 rfl)) (notFace_of_selects (args := #[]) (mvT hZ (own_hw hw 45 rfl))) (mvT hZ (own_hw hw 45 rfl)) (mvT hZ (own_hw hw 44 rfl)) (by decide) (backOf (W := 0) (rm_sti l Z a0 hw [] b1447 P1470 W1470 k1470 k21470 b1407 PP1441 WW1441 P01441 P11441 W01441 W11441 kPP1441 kWW1441 kf01441 kg01441 N0 pl0 wl0 N1 N1 pl1 wl1 T1470.heap n0 Z1473 g_b1447 Ea1470 Fp1470 Fw1470 Fc1470 f1476 f1477 f1478 f1479 f1480 f1481 f1482 f1483 f1484 hN0 j3 jL g_P1470 g_W1470 E11470 E21470 A11470 A21470 hN1 i3 iL jle (Nat.ne_of_lt (Nat.lt_of_lt_of_le ((Ef01441.ext E1447).keep K1455).lt s11470)) (Nat.ne_of_lt (Nat.lt_of_lt_of_le ((Eg01441.ext E1447).keep K1455).lt s21470)) jN) hZ (own_hw hw 46 rfl) (own_hw hw 33 rfl) (by decide) (by decide)) q1485a q1485c (g := (mkF m 200 #[sI p0, sI p1, sI p2, sI p3, sI p4, sI p5, sI a, sI b, sI c, sI nn, sI r1368, sI r1371, sR f01375, sR b1380, sR b1407, sR b1447, sU, sU, sU, sU, sU, sU, sU] [(.int (0 : Int32)), (.ref b1407), (.ref b1447)])) rfl (by rw [hml]; rfl) (Steps.refl _) (argsL := [(.ref b1407), (.int (0 : Int32))]) (rest := []) (lenOf pd__28Lcom_2fexample_2fwhittle_2fwhittle_2fengine_2fWordSets_3bI_29V rfl) rfl (by show 2 * 0 + _ ≤ _; exact Nat.le_of_eq rfl) (hb hby at_200) (fun _ _ => ⟨rfl, rfl, (Nat.le_of_ble_eq_true rfl : 15 + 0 ≤ _), (Nat.le_of_ble_eq_true rfl : 35 + 0 ≤ _)⟩)
  dsimp only [Pt.U, Pt.locs, Pt.cells, Pt.slots] at X1485 l1485 y1485 z1485 st1485 hQ1485
  subst l1485 y1485 z1485
  obtain ⟨rfl, Nq1485, K1485, Fc1485, Fp1485, Fw1485, A11485, A21485⟩ := hQ1485
  have N1486 := Fr.app N1471 Nq1485
  have P1487 : Rg p e below (T1485.setTop (mkF m 203 #[sI p0, sI p1, sI p2, sI p3, sI p4, sI p5, sI a, sI b, sI c, sI nn, sI r1368, sI r1371, sR f01375, sR b1380, sR b1407, sR b1447, sU, sU, sU, sU, sU, sU, sU] [])) B0 := fun t k => P1472 t (by
    refine XS.aload X1470.here hx rfl (hb hby at_195) rfl rfl ?_
    refine XS.aload X1470.here hx rfl (hb hby at_197) rfl rfl ?_
    refine XS.iconst X1470.here hx rfl (hb hby at_199) ?_
    show Sg p e below (T1470.setTop (mkF m 200 #[sI p0, sI p1, sI p2, sI p3, sI p4, sI p5, sI a, sI b, sI c, sI nn, sI r1368, sI r1371, sR f01375, sR b1380, sR b1407, sR b1447, sU, sU, sU, sU, sU, sU, sU] [(.int (0 : Int32)), (.ref b1407), (.ref b1447)])) _
    exact st1485.trans k)
  have Z1488 : n0 ≤ T1485.heap.size := Nat.le_trans Z1473 K1485.1
  have K1489 : Keep h0 T1485.heap [] := K1474.trans K1485 ((allS (Or.inr sz_b1447) (allS (Or.inr sz_P1470) (allS (Or.inr sz_W1470) all0))))
  have O1490 : Old Z n0 T1485.heap := O1475.keep K1485 (allS g_b1447 (allS g_P1470 (allS g_W1470 all0)))
  obtain ⟨dl1, dl2⟩ := own_dl jle jL iL
  obtain ⟨ur, hur⟩ : ∃ z : List Int32, z = pl1.drop pl0.length := ⟨_, rfl⟩
  obtain ⟨vr, hvr⟩ : ∃ z : List Int64, z = wl1.drop pl0.length := ⟨_, rfl⟩
  rw [← hur] at dl1 dl2 A11485
  rw [← hvr] at dl2 A21485
  have hM9 : N1 = Int32.ofNat (pl0 ++ ur).length := by rw [dl1]; exact hN1
  have hm9 : (pl0 ++ ur).length ≤ 3 := by rw [dl1]; exact i3
  have f1491 := (Ea1470.keep K1485)
  have f1492 := (E11470.keep K1485)
  have f1493 := (E21470.keep K1485)
  obtain ⟨cq1494, kq1494, q1494a, q1494b, q1494c⟩ := isOf hZ rfl f1491
  obtain ⟨_, _, ⟨T1494, L1494, k1494, n1494⟩, -, X1494, ⟨Lc1494, hQ1494, l1494, y1494, z1494⟩, st1494⟩ := X1485.virtualBack hx (y := (⟨"com/example/whittle/whittle/engine/WordSets$Meet", "remove", "(I)V"⟩ : MethodName)) (z := (⟨"com/example/whittle/whittle/engine/WordSets$Meet", "remove", "(I)V"⟩ : MethodName)) hown (mvT hZ (own_hw hw 51 rfl)) (mvT hZ (own_hw hw 52 rfl)) (notFace_of_selects (args := #[]) (mvT hZ (own_hw hw 54 rfl))) (mvT hZ (own_hw hw 54 rfl)) (mvT hZ (own_hw hw 53 rfl)) (by decide) (backOf (W := 0) (rm_rmv l Z a0 hw [] b1447 P1470 W1470 k1470 k21470 N1 pl0 ur wl0 vr N0 r1368 T1485.heap n0 Z1488 g_b1447 g_P1470 g_W1470 f1491 f1492 f1493 Fp1485 Fw1485 Fc1485 A11485 A21485 hM9 hm9 hN0 jL dl2 jP) hZ (own_hw hw 55 rfl) (own_hw hw 33 rfl) (by decide) (by decide)) q1494a q1494c (g := (mkF m 207 #[sI p0, sI p1, sI p2, sI p3, sI p4, sI p5, sI a, sI b, sI c, sI nn, sI r1368, sI r1371, sR f01375, sR b1380, sR b1407, sR b1447, sU, sU, sU, sU, sU, sU, sU] [(.int r1368), (.ref b1447)])) rfl (by rw [hml]; rfl) (Steps.refl _) (argsL := [(.int r1368)]) (rest := []) (lenOf pd__28I_29V rfl) rfl (by show 2 * 0 + _ ≤ _; exact Nat.le_of_eq rfl) (hb hby at_207) (fun _ _ => ⟨rfl, rfl, (Nat.le_of_ble_eq_true rfl : 15 + 0 ≤ _), (Nat.le_of_ble_eq_true rfl : 35 + 0 ≤ _)⟩)
  dsimp only [Pt.U, Pt.locs, Pt.cells, Pt.slots] at X1494 l1494 y1494 z1494 st1494 hQ1494
  subst l1494 y1494 z1494
  obtain ⟨rfl, Nq1494, K1494, A1494⟩ := hQ1494
  have N1495 := Fr.app N1486 Nq1494
  have P1496 : Rg p e below (T1494.setTop (mkF m 210 #[sI p0, sI p1, sI p2, sI p3, sI p4, sI p5, sI a, sI b, sI c, sI nn, sI r1368, sI r1371, sR f01375, sR b1380, sR b1407, sR b1447, sU, sU, sU, sU, sU, sU, sU] [])) B0 := fun t k => P1487 t (by
    refine XS.aload X1485.here hx rfl (hb hby at_203) rfl rfl ?_
    refine XS.iload X1485.here hx rfl (hb hby at_205) rfl ?_
    show Sg p e below (T1485.setTop (mkF m 207 #[sI p0, sI p1, sI p2, sI p3, sI p4, sI p5, sI a, sI b, sI c, sI nn, sI r1368, sI r1371, sR f01375, sR b1380, sR b1407, sR b1447, sU, sU, sU, sU, sU, sU, sU] [(.int r1368), (.ref b1447)])) _
    exact st1494.trans k)
  have Z1497 : n0 ≤ T1494.heap.size := Nat.le_trans Z1488 K1494.1
  have K1498 : Keep h0 T1494.heap [] := K1489.trans K1494 ((allS (Or.inr sz_W1470) all0))
  have O1499 : Old Z n0 T1494.heap := O1490.keep K1494 (allS g_W1470 all0)
  obtain ⟨w1494, hw1494⟩ : ∃ z : List Int64, z = own_rem pl0 wl0 r1368 := ⟨_, rfl⟩
  rw [← hw1494] at A1494
  have hl1494 : w1494.length = pl0.length := by rw [hw1494, own_rem_len]; exact jL
  have rep1494 := own_rem_rep (m := r1368) jR
  rw [← hw1494] at rep1494
  have cap1494 := own_capf (P := fun x => decide (¬ x = r1368)) jC
  have f1500 := (f1491.keep K1494)
  have f1501 := (f1492.keep K1494)
  have f1502 := (f1493.keep K1494)
  have f1503 := (Fp1485.keep K1494 (ninS (Nat.ne_of_lt (Nat.lt_of_lt_of_le Fw1455.lt s21470)) nin0))
  have f1504 := (Fw1485.keep K1494 (ninS (Nat.ne_of_lt (Nat.lt_of_lt_of_le Fw1455.lt s21470)) nin0))
  have f1505 := (Fc1485.keep K1494 (ninS (Nat.ne_of_lt (Nat.lt_of_lt_of_le Fw1455.lt s21470)) nin0))
  have f1506 := (A11485.keep K1494 (ninS (Exa.ne E11470 E21470 (by decide)) nin0))
  obtain ⟨cq1507, kq1507, q1507a, q1507b, q1507c⟩ := isOf hZ rfl f1500
  obtain ⟨_, _, ⟨T1507, L1507, k1507, n1507⟩, -, X1507, ⟨Lc1507, hQ1507, l1507, y1507, z1507⟩, st1507⟩ := X1494.virtualBack hx (y := (⟨"com/example/whittle/whittle/engine/WordSets$Meet", "remove", "(I)V"⟩ : MethodName)) (z := (⟨"com/example/whittle/whittle/engine/WordSets$Meet", "remove", "(I)V"⟩ : MethodName)) hown (mvT hZ (own_hw hw 51 rfl)) (mvT hZ (own_hw hw 52 rfl)) (notFace_of_selects (args := #[]) (mvT hZ (own_hw hw 54 rfl))) (mvT hZ (own_hw hw 54 rfl)) (mvT hZ (own_hw hw 53 rfl)) (by decide) (backOf (W := 0) (rm_rmv l Z a0 hw [] b1447 P1470 W1470 k1470 k21470 N1 pl0 ur w1494 vr N0 r1371 T1494.heap n0 Z1497 g_b1447 g_P1470 g_W1470 f1500 f1501 f1502 f1503 f1504 f1505 f1506 A1494 hM9 hm9 hN0 hl1494 dl2 jP) hZ (own_hw hw 55 rfl) (own_hw hw 33 rfl) (by decide) (by decide)) q1507a q1507c (g := (mkF m 214 #[sI p0, sI p1, sI p2, sI p3, sI p4, sI p5, sI a, sI b, sI c, sI nn, sI r1368, sI r1371, sR f01375, sR b1380, sR b1407, sR b1447, sU, sU, sU, sU, sU, sU, sU] [(.int r1371), (.ref b1447)])) rfl (by rw [hml]; rfl) (Steps.refl _) (argsL := [(.int r1371)]) (rest := []) (lenOf pd__28I_29V rfl) rfl (by show 2 * 0 + _ ≤ _; exact Nat.le_of_eq rfl) (hb hby at_214) (fun _ _ => ⟨rfl, rfl, (Nat.le_of_ble_eq_true rfl : 15 + 0 ≤ _), (Nat.le_of_ble_eq_true rfl : 35 + 0 ≤ _)⟩)
  dsimp only [Pt.U, Pt.locs, Pt.cells, Pt.slots] at X1507 l1507 y1507 z1507 st1507 hQ1507
  subst l1507 y1507 z1507
  obtain ⟨rfl, Nq1507, K1507, A1507⟩ := hQ1507
  have N1508 := Fr.app N1495 Nq1507
  have P1509 : Rg p e below (T1507.setTop (mkF m 217 #[sI p0, sI p1, sI p2, sI p3, sI p4, sI p5, sI a, sI b, sI c, sI nn, sI r1368, sI r1371, sR f01375, sR b1380, sR b1407, sR b1447, sU, sU, sU, sU, sU, sU, sU] [])) B0 := fun t k => P1496 t (by
    refine XS.aload X1494.here hx rfl (hb hby at_210) rfl rfl ?_
    refine XS.iload X1494.here hx rfl (hb hby at_212) rfl ?_
    show Sg p e below (T1494.setTop (mkF m 214 #[sI p0, sI p1, sI p2, sI p3, sI p4, sI p5, sI a, sI b, sI c, sI nn, sI r1368, sI r1371, sR f01375, sR b1380, sR b1407, sR b1447, sU, sU, sU, sU, sU, sU, sU] [(.int r1371), (.ref b1447)])) _
    exact st1507.trans k)
  have Z1510 : n0 ≤ T1507.heap.size := Nat.le_trans Z1497 K1507.1
  have K1511 : Keep h0 T1507.heap [] := K1498.trans K1507 ((allS (Or.inr sz_W1470) all0))
  have O1512 : Old Z n0 T1507.heap := O1499.keep K1507 (allS g_W1470 all0)
  obtain ⟨w1507, hw1507⟩ : ∃ z : List Int64, z = own_rem pl0 w1494 r1371 := ⟨_, rfl⟩
  rw [← hw1507] at A1507
  have hl1507 : w1507.length = pl0.length := by rw [hw1507, own_rem_len]; exact hl1494
  have rep1507 := own_rem_rep (m := r1371) rep1494
  rw [← hw1507] at rep1507
  have cap1507 := own_capf (P := fun x => decide (¬ x = r1371)) cap1494
  obtain ⟨gs, hgs⟩ : ∃ z : List (List Int32), z = ((gs0.map (List.filter (fun x => decide (¬ x = r1368)))).map (List.filter (fun x => decide (¬ x = r1371)))) := ⟨_, rfl⟩
  rw [← hgs] at rep1507 cap1507
  have hflat : gs.flatten = ((xs1375.filter (fun x => decide (¬ x = r1368))).filter (fun x => decide (¬ x = r1371))) := by rw [hgs, own_fl, own_fl, jF]
  have htot : gs.flatten.length ≤ 3 := by rw [hflat]; exact Nat.le_trans (List.length_filter_le _ _) (Nat.le_trans (List.length_filter_le _ _) jx)
  have hfin := hflat.trans ((congrArg (fun z : List Int32 => (z.filter (fun x => decide (¬ x = r1368))).filter (fun x => decide (¬ x = r1371))) u1375_0).trans (own_m3 (r1 := r1368) (r2 := r1371) eq_nn))
  have f1513 := (f1500.keep K1507)
  have f1514 := (f1501.keep K1507)
  have f1515 := (f1502.keep K1507)
  have f1516 := (f1503.keep K1507 (ninS (Nat.ne_of_lt (Nat.lt_of_lt_of_le Fw1455.lt s21470)) nin0))
  have f1517 := (f1504.keep K1507 (ninS (Nat.ne_of_lt (Nat.lt_of_lt_of_le Fw1455.lt s21470)) nin0))
  have f1518 := (f1505.keep K1507 (ninS (Nat.ne_of_lt (Nat.lt_of_lt_of_le Fw1455.lt s21470)) nin0))
  have f1519 := (f1506.keep K1507 (ninS (Exa.ne E11470 E21470 (by decide)) nin0))
  obtain ⟨cq1520, kq1520, q1520a, q1520b, q1520c⟩ := isOf hZ rfl f1513
  obtain ⟨_, _, ⟨T1520, L1520, k1520, n1520⟩, -, X1520, ⟨Lc1520, hQ1520, l1520, y1520, z1520⟩, st1520⟩ := X1507.virtualBack hx (y := (⟨"com/example/whittle/whittle/engine/WordSets$Meet", "members", "()[I"⟩ : MethodName)) (z := (⟨"com/example/whittle/whittle/engine/WordSets$Meet", "members", "()[I"⟩ : MethodName)) hown (mvT hZ (own_hw hw 67 rfl)) (mvT hZ (own_hw hw 68 rfl)) (notFace_of_selects (args := #[]) (mvT hZ (own_hw hw 70 rfl))) (mvT hZ (own_hw hw 70 rfl)) (mvT hZ (own_hw hw 69 rfl)) (by decide) (backOf (W := 0) (rm_mbr l Z a0 hw [] b1447 P1470 W1470 k1470 k21470 N1 pl0 ur w1507 vr N0 gs T1507.heap n0 Z1510 g_b1447 g_P1470 g_W1470 f1513 f1514 f1515 f1516 f1517 f1518 f1519 A1507 hM9 hm9 hN0 hl1507 dl2 rep1507 cap1507 htot) hZ (own_hw hw 71 rfl) (own_hw hw 33 rfl) (by decide) (by decide)) q1520a q1520c (g := (mkF m 219 #[sI p0, sI p1, sI p2, sI p3, sI p4, sI p5, sI a, sI b, sI c, sI nn, sI r1368, sI r1371, sR f01375, sR b1380, sR b1407, sR b1447, sU, sU, sU, sU, sU, sU, sU] [(.ref b1447)])) rfl (by rw [hml]; rfl) (Steps.refl _) (argsL := []) (rest := []) (lenOf pd__28_29_5bI rfl) rfl (by show 2 * 0 + _ ≤ _; exact Nat.le_of_eq rfl) (hb hby at_219) (fun _ _ => ⟨rfl, rfl, (Nat.le_of_ble_eq_true rfl : 15 + 1 ≤ _), (Nat.le_of_ble_eq_true rfl : 35 + 3 ≤ _)⟩)
  dsimp only [Pt.U, Pt.locs, Pt.cells, Pt.slots] at X1520 l1520 y1520 z1520 st1520 hQ1520
  subst l1520 y1520 z1520
  obtain ⟨R1520, k1520, N1520, rfl, Nq1520, K1520, hN1520, A1520, s1520⟩ := hQ1520
  have N1521 := Fr.app N1508 Nq1520
  have P1522 : Rg p e below (T1520.setTop (mkF m 222 #[sI p0, sI p1, sI p2, sI p3, sI p4, sI p5, sI a, sI b, sI c, sI nn, sI r1368, sI r1371, sR f01375, sR b1380, sR b1407, sR b1447, sU, sU, sU, sU, sU, sU, sU] [(.ref R1520)])) B0 := fun t k => P1509 t (by
    refine XS.aload X1507.here hx rfl (hb hby at_217) rfl rfl ?_
    show Sg p e below (T1507.setTop (mkF m 219 #[sI p0, sI p1, sI p2, sI p3, sI p4, sI p5, sI a, sI b, sI c, sI nn, sI r1368, sI r1371, sR f01375, sR b1380, sR b1407, sR b1447, sU, sU, sU, sU, sU, sU, sU] [(.ref b1447)])) _
    exact st1520.trans k)
  have Z1523 : n0 ≤ T1520.heap.size := Nat.le_trans Z1510 K1520.1
  have K1524 : Keep h0 T1520.heap [] := K1511.trans K1520 (all0)
  have O1525 : Old Z n0 T1520.heap := O1512.keep K1520 all0
  have g_R1520 : n0 ≤ R1520 := Nat.le_trans Z1510 s1520
  have sz_R1520 : h0.size ≤ R1520 := Nat.le_trans K1511.1 s1520
  have P1526 : Rg p e below (T1520.setTop (mkF m 227 #[sI p0, sI p1, sI p2, sI p3, sI p4, sI p5, sI a, sI b, sI c, sI nn, sI r1368, sI r1371, sR f01375, sR b1380, sR b1407, sR b1447, sR R1520, sU, sU, sU, sU, sU, sU] [(.int (1 : Int32)), (.int nn)])) B0 := fun t k => P1522 t (by
    refine XS.astore X1520.here hx rfl (hb hby at_222) rfl rfl (l' := #[sI p0, sI p1, sI p2, sI p3, sI p4, sI p5, sI a, sI b, sI c, sI nn, sI r1368, sI r1371, sR f01375, sR b1380, sR b1407, sR b1447, sR R1520, sU, sU, sU, sU, sU, sU]) rfl ?_
    refine XS.iload X1520.here hx rfl (hb hby at_224) rfl ?_
    refine XS.iconst X1520.here hx rfl (hb hby at_226) ?_
    show Sg p e below (T1520.setTop (mkF m 227 #[sI p0, sI p1, sI p2, sI p3, sI p4, sI p5, sI a, sI b, sI c, sI nn, sI r1368, sI r1371, sR f01375, sR b1380, sR b1407, sR b1447, sR R1520, sU, sU, sU, sU, sU, sU] [(.int (1 : Int32)), (.int nn)])) _
    exact k)
  obtain ⟨b1530, hb1530⟩ : ∃ z : Int32, z = (if nn < (1 : Int32) then (0 : Int32) else (if a = r1368 then (0 : Int32) else (if a = r1371 then (0 : Int32) else (1 : Int32)))) := ⟨_, rfl⟩
  have P1531 : Rg p e below (T1520.setTop (mkF m 249 #[sI p0, sI p1, sI p2, sI p3, sI p4, sI p5, sI a, sI b, sI c, sI nn, sI r1368, sI r1371, sR f01375, sR b1380, sR b1407, sR b1447, sR R1520, sU, sU, sU, sU, sU, sU] [(.int b1530)])) B0 := fun t k => P1526 t (by
    by_cases q1527 : nn < (1 : Int32)
    · skip
      refine XS.icmpYes X1520.here hx rfl (pc0 := 227) (pc' := 248) rfl (hb hby at_227) rfl (tlt (show nn < (1 : Int32) from q1527)).1 (by decide) (by decide) ?_
      refine XS.iconst X1520.here hx rfl (hb hby at_248) ?_
      show Sg p e below (T1520.setTop (mkF m 249 #[sI p0, sI p1, sI p2, sI p3, sI p4, sI p5, sI a, sI b, sI c, sI nn, sI r1368, sI r1371, sR f01375, sR b1380, sR b1407, sR b1447, sR R1520, sU, sU, sU, sU, sU, sU] [(.int (0 : Int32))])) _
      have eb1530 : b1530 = (0 : Int32) := by rw [hb1530, if_pos q1527]
      rw [eb1530] at k
      exact k
    · skip
      refine XS.icmpNo X1520.here hx rfl (hb hby at_227) rfl (flt (show ¬ (nn < (1 : Int32)) from q1527)).1 ?_
      refine XS.iload X1520.here hx rfl (hb hby at_230) rfl ?_
      refine XS.iload X1520.here hx rfl (hb hby at_232) rfl ?_
      show Sg p e below (T1520.setTop (mkF m 234 #[sI p0, sI p1, sI p2, sI p3, sI p4, sI p5, sI a, sI b, sI c, sI nn, sI r1368, sI r1371, sR f01375, sR b1380, sR b1407, sR b1447, sR R1520, sU, sU, sU, sU, sU, sU] [(.int r1368), (.int a)])) _
      by_cases q1528 : a = r1368
      · skip
        refine XS.icmpYes X1520.here hx rfl (pc0 := 234) (pc' := 248) rfl (hb hby at_234) rfl (teq (show a = r1368 from q1528)).1 (by decide) (by decide) ?_
        refine XS.iconst X1520.here hx rfl (hb hby at_248) ?_
        show Sg p e below (T1520.setTop (mkF m 249 #[sI p0, sI p1, sI p2, sI p3, sI p4, sI p5, sI a, sI b, sI c, sI nn, sI r1368, sI r1371, sR f01375, sR b1380, sR b1407, sR b1447, sR R1520, sU, sU, sU, sU, sU, sU] [(.int (0 : Int32))])) _
        have eb1530 : b1530 = (0 : Int32) := by rw [hb1530, if_neg q1527, if_pos q1528]
        rw [eb1530] at k
        exact k
      · skip
        refine XS.icmpNo X1520.here hx rfl (hb hby at_234) rfl (feq (show ¬ (a = r1368) from q1528)).1 ?_
        refine XS.iload X1520.here hx rfl (hb hby at_237) rfl ?_
        refine XS.iload X1520.here hx rfl (hb hby at_239) rfl ?_
        show Sg p e below (T1520.setTop (mkF m 241 #[sI p0, sI p1, sI p2, sI p3, sI p4, sI p5, sI a, sI b, sI c, sI nn, sI r1368, sI r1371, sR f01375, sR b1380, sR b1407, sR b1447, sR R1520, sU, sU, sU, sU, sU, sU] [(.int r1371), (.int a)])) _
        by_cases q1529 : a = r1371
        · skip
          refine XS.icmpYes X1520.here hx rfl (pc0 := 241) (pc' := 248) rfl (hb hby at_241) rfl (teq (show a = r1371 from q1529)).1 (by decide) (by decide) ?_
          refine XS.iconst X1520.here hx rfl (hb hby at_248) ?_
          show Sg p e below (T1520.setTop (mkF m 249 #[sI p0, sI p1, sI p2, sI p3, sI p4, sI p5, sI a, sI b, sI c, sI nn, sI r1368, sI r1371, sR f01375, sR b1380, sR b1407, sR b1447, sR R1520, sU, sU, sU, sU, sU, sU] [(.int (0 : Int32))])) _
          have eb1530 : b1530 = (0 : Int32) := by rw [hb1530, if_neg q1527, if_neg q1528, if_pos q1529]
          rw [eb1530] at k
          exact k
        · skip
          refine XS.icmpNo X1520.here hx rfl (hb hby at_241) rfl (feq (show ¬ (a = r1371) from q1529)).1 ?_
          refine XS.iconst X1520.here hx rfl (hb hby at_244) ?_
          refine XS.goto X1520.here hx rfl (pc0 := 245) (pc' := 249) rfl (hb hby at_245) (by decide) (by decide) ?_
          show Sg p e below (T1520.setTop (mkF m 249 #[sI p0, sI p1, sI p2, sI p3, sI p4, sI p5, sI a, sI b, sI c, sI nn, sI r1368, sI r1371, sR f01375, sR b1380, sR b1407, sR b1447, sR R1520, sU, sU, sU, sU, sU, sU] [(.int (1 : Int32))])) _
          have eb1530 : b1530 = (1 : Int32) := by rw [hb1530, if_neg q1527, if_neg q1528, if_neg q1529]
          rw [eb1530] at k
          exact k)
  have P1532 : Rg p e below (T1520.setTop (mkF m 254 #[sI p0, sI p1, sI p2, sI p3, sI p4, sI p5, sI a, sI b, sI c, sI nn, sI r1368, sI r1371, sR f01375, sR b1380, sR b1407, sR b1447, sR R1520, sI b1530, sU, sU, sU, sU, sU] [(.int (2 : Int32)), (.int nn)])) B0 := fun t k => P1531 t (by
    refine XS.istore X1520.here hx rfl (hb hby at_249) rfl (l' := #[sI p0, sI p1, sI p2, sI p3, sI p4, sI p5, sI a, sI b, sI c, sI nn, sI r1368, sI r1371, sR f01375, sR b1380, sR b1407, sR b1447, sR R1520, sI b1530, sU, sU, sU, sU, sU]) rfl ?_
    refine XS.iload X1520.here hx rfl (hb hby at_251) rfl ?_
    refine XS.iconst X1520.here hx rfl (hb hby at_253) ?_
    show Sg p e below (T1520.setTop (mkF m 254 #[sI p0, sI p1, sI p2, sI p3, sI p4, sI p5, sI a, sI b, sI c, sI nn, sI r1368, sI r1371, sR f01375, sR b1380, sR b1407, sR b1447, sR R1520, sI b1530, sU, sU, sU, sU, sU] [(.int (2 : Int32)), (.int nn)])) _
    exact k)
  obtain ⟨b1536, hb1536⟩ : ∃ z : Int32, z = (if nn < (2 : Int32) then (0 : Int32) else (if b = r1368 then (0 : Int32) else (if b = r1371 then (0 : Int32) else (1 : Int32)))) := ⟨_, rfl⟩
  have P1537 : Rg p e below (T1520.setTop (mkF m 276 #[sI p0, sI p1, sI p2, sI p3, sI p4, sI p5, sI a, sI b, sI c, sI nn, sI r1368, sI r1371, sR f01375, sR b1380, sR b1407, sR b1447, sR R1520, sI b1530, sU, sU, sU, sU, sU] [(.int b1536)])) B0 := fun t k => P1532 t (by
    by_cases q1533 : nn < (2 : Int32)
    · skip
      refine XS.icmpYes X1520.here hx rfl (pc0 := 254) (pc' := 275) rfl (hb hby at_254) rfl (tlt (show nn < (2 : Int32) from q1533)).1 (by decide) (by decide) ?_
      refine XS.iconst X1520.here hx rfl (hb hby at_275) ?_
      show Sg p e below (T1520.setTop (mkF m 276 #[sI p0, sI p1, sI p2, sI p3, sI p4, sI p5, sI a, sI b, sI c, sI nn, sI r1368, sI r1371, sR f01375, sR b1380, sR b1407, sR b1447, sR R1520, sI b1530, sU, sU, sU, sU, sU] [(.int (0 : Int32))])) _
      have eb1536 : b1536 = (0 : Int32) := by rw [hb1536, if_pos q1533]
      rw [eb1536] at k
      exact k
    · skip
      refine XS.icmpNo X1520.here hx rfl (hb hby at_254) rfl (flt (show ¬ (nn < (2 : Int32)) from q1533)).1 ?_
      refine XS.iload X1520.here hx rfl (hb hby at_257) rfl ?_
      refine XS.iload X1520.here hx rfl (hb hby at_259) rfl ?_
      show Sg p e below (T1520.setTop (mkF m 261 #[sI p0, sI p1, sI p2, sI p3, sI p4, sI p5, sI a, sI b, sI c, sI nn, sI r1368, sI r1371, sR f01375, sR b1380, sR b1407, sR b1447, sR R1520, sI b1530, sU, sU, sU, sU, sU] [(.int r1368), (.int b)])) _
      by_cases q1534 : b = r1368
      · skip
        refine XS.icmpYes X1520.here hx rfl (pc0 := 261) (pc' := 275) rfl (hb hby at_261) rfl (teq (show b = r1368 from q1534)).1 (by decide) (by decide) ?_
        refine XS.iconst X1520.here hx rfl (hb hby at_275) ?_
        show Sg p e below (T1520.setTop (mkF m 276 #[sI p0, sI p1, sI p2, sI p3, sI p4, sI p5, sI a, sI b, sI c, sI nn, sI r1368, sI r1371, sR f01375, sR b1380, sR b1407, sR b1447, sR R1520, sI b1530, sU, sU, sU, sU, sU] [(.int (0 : Int32))])) _
        have eb1536 : b1536 = (0 : Int32) := by rw [hb1536, if_neg q1533, if_pos q1534]
        rw [eb1536] at k
        exact k
      · skip
        refine XS.icmpNo X1520.here hx rfl (hb hby at_261) rfl (feq (show ¬ (b = r1368) from q1534)).1 ?_
        refine XS.iload X1520.here hx rfl (hb hby at_264) rfl ?_
        refine XS.iload X1520.here hx rfl (hb hby at_266) rfl ?_
        show Sg p e below (T1520.setTop (mkF m 268 #[sI p0, sI p1, sI p2, sI p3, sI p4, sI p5, sI a, sI b, sI c, sI nn, sI r1368, sI r1371, sR f01375, sR b1380, sR b1407, sR b1447, sR R1520, sI b1530, sU, sU, sU, sU, sU] [(.int r1371), (.int b)])) _
        by_cases q1535 : b = r1371
        · skip
          refine XS.icmpYes X1520.here hx rfl (pc0 := 268) (pc' := 275) rfl (hb hby at_268) rfl (teq (show b = r1371 from q1535)).1 (by decide) (by decide) ?_
          refine XS.iconst X1520.here hx rfl (hb hby at_275) ?_
          show Sg p e below (T1520.setTop (mkF m 276 #[sI p0, sI p1, sI p2, sI p3, sI p4, sI p5, sI a, sI b, sI c, sI nn, sI r1368, sI r1371, sR f01375, sR b1380, sR b1407, sR b1447, sR R1520, sI b1530, sU, sU, sU, sU, sU] [(.int (0 : Int32))])) _
          have eb1536 : b1536 = (0 : Int32) := by rw [hb1536, if_neg q1533, if_neg q1534, if_pos q1535]
          rw [eb1536] at k
          exact k
        · skip
          refine XS.icmpNo X1520.here hx rfl (hb hby at_268) rfl (feq (show ¬ (b = r1371) from q1535)).1 ?_
          refine XS.iconst X1520.here hx rfl (hb hby at_271) ?_
          refine XS.goto X1520.here hx rfl (pc0 := 272) (pc' := 276) rfl (hb hby at_272) (by decide) (by decide) ?_
          show Sg p e below (T1520.setTop (mkF m 276 #[sI p0, sI p1, sI p2, sI p3, sI p4, sI p5, sI a, sI b, sI c, sI nn, sI r1368, sI r1371, sR f01375, sR b1380, sR b1407, sR b1447, sR R1520, sI b1530, sU, sU, sU, sU, sU] [(.int (1 : Int32))])) _
          have eb1536 : b1536 = (1 : Int32) := by rw [hb1536, if_neg q1533, if_neg q1534, if_neg q1535]
          rw [eb1536] at k
          exact k)
  have P1538 : Rg p e below (T1520.setTop (mkF m 281 #[sI p0, sI p1, sI p2, sI p3, sI p4, sI p5, sI a, sI b, sI c, sI nn, sI r1368, sI r1371, sR f01375, sR b1380, sR b1407, sR b1447, sR R1520, sI b1530, sI b1536, sU, sU, sU, sU] [(.int (3 : Int32)), (.int nn)])) B0 := fun t k => P1537 t (by
    refine XS.istore X1520.here hx rfl (hb hby at_276) rfl (l' := #[sI p0, sI p1, sI p2, sI p3, sI p4, sI p5, sI a, sI b, sI c, sI nn, sI r1368, sI r1371, sR f01375, sR b1380, sR b1407, sR b1447, sR R1520, sI b1530, sI b1536, sU, sU, sU, sU]) rfl ?_
    refine XS.iload X1520.here hx rfl (hb hby at_278) rfl ?_
    refine XS.iconst X1520.here hx rfl (hb hby at_280) ?_
    show Sg p e below (T1520.setTop (mkF m 281 #[sI p0, sI p1, sI p2, sI p3, sI p4, sI p5, sI a, sI b, sI c, sI nn, sI r1368, sI r1371, sR f01375, sR b1380, sR b1407, sR b1447, sR R1520, sI b1530, sI b1536, sU, sU, sU, sU] [(.int (3 : Int32)), (.int nn)])) _
    exact k)
  obtain ⟨b1542, hb1542⟩ : ∃ z : Int32, z = (if nn < (3 : Int32) then (0 : Int32) else (if c = r1368 then (0 : Int32) else (if c = r1371 then (0 : Int32) else (1 : Int32)))) := ⟨_, rfl⟩
  have P1543 : Rg p e below (T1520.setTop (mkF m 303 #[sI p0, sI p1, sI p2, sI p3, sI p4, sI p5, sI a, sI b, sI c, sI nn, sI r1368, sI r1371, sR f01375, sR b1380, sR b1407, sR b1447, sR R1520, sI b1530, sI b1536, sU, sU, sU, sU] [(.int b1542)])) B0 := fun t k => P1538 t (by
    by_cases q1539 : nn < (3 : Int32)
    · skip
      refine XS.icmpYes X1520.here hx rfl (pc0 := 281) (pc' := 302) rfl (hb hby at_281) rfl (tlt (show nn < (3 : Int32) from q1539)).1 (by decide) (by decide) ?_
      refine XS.iconst X1520.here hx rfl (hb hby at_302) ?_
      show Sg p e below (T1520.setTop (mkF m 303 #[sI p0, sI p1, sI p2, sI p3, sI p4, sI p5, sI a, sI b, sI c, sI nn, sI r1368, sI r1371, sR f01375, sR b1380, sR b1407, sR b1447, sR R1520, sI b1530, sI b1536, sU, sU, sU, sU] [(.int (0 : Int32))])) _
      have eb1542 : b1542 = (0 : Int32) := by rw [hb1542, if_pos q1539]
      rw [eb1542] at k
      exact k
    · skip
      refine XS.icmpNo X1520.here hx rfl (hb hby at_281) rfl (flt (show ¬ (nn < (3 : Int32)) from q1539)).1 ?_
      refine XS.iload X1520.here hx rfl (hb hby at_284) rfl ?_
      refine XS.iload X1520.here hx rfl (hb hby at_286) rfl ?_
      show Sg p e below (T1520.setTop (mkF m 288 #[sI p0, sI p1, sI p2, sI p3, sI p4, sI p5, sI a, sI b, sI c, sI nn, sI r1368, sI r1371, sR f01375, sR b1380, sR b1407, sR b1447, sR R1520, sI b1530, sI b1536, sU, sU, sU, sU] [(.int r1368), (.int c)])) _
      by_cases q1540 : c = r1368
      · skip
        refine XS.icmpYes X1520.here hx rfl (pc0 := 288) (pc' := 302) rfl (hb hby at_288) rfl (teq (show c = r1368 from q1540)).1 (by decide) (by decide) ?_
        refine XS.iconst X1520.here hx rfl (hb hby at_302) ?_
        show Sg p e below (T1520.setTop (mkF m 303 #[sI p0, sI p1, sI p2, sI p3, sI p4, sI p5, sI a, sI b, sI c, sI nn, sI r1368, sI r1371, sR f01375, sR b1380, sR b1407, sR b1447, sR R1520, sI b1530, sI b1536, sU, sU, sU, sU] [(.int (0 : Int32))])) _
        have eb1542 : b1542 = (0 : Int32) := by rw [hb1542, if_neg q1539, if_pos q1540]
        rw [eb1542] at k
        exact k
      · skip
        refine XS.icmpNo X1520.here hx rfl (hb hby at_288) rfl (feq (show ¬ (c = r1368) from q1540)).1 ?_
        refine XS.iload X1520.here hx rfl (hb hby at_291) rfl ?_
        refine XS.iload X1520.here hx rfl (hb hby at_293) rfl ?_
        show Sg p e below (T1520.setTop (mkF m 295 #[sI p0, sI p1, sI p2, sI p3, sI p4, sI p5, sI a, sI b, sI c, sI nn, sI r1368, sI r1371, sR f01375, sR b1380, sR b1407, sR b1447, sR R1520, sI b1530, sI b1536, sU, sU, sU, sU] [(.int r1371), (.int c)])) _
        by_cases q1541 : c = r1371
        · skip
          refine XS.icmpYes X1520.here hx rfl (pc0 := 295) (pc' := 302) rfl (hb hby at_295) rfl (teq (show c = r1371 from q1541)).1 (by decide) (by decide) ?_
          refine XS.iconst X1520.here hx rfl (hb hby at_302) ?_
          show Sg p e below (T1520.setTop (mkF m 303 #[sI p0, sI p1, sI p2, sI p3, sI p4, sI p5, sI a, sI b, sI c, sI nn, sI r1368, sI r1371, sR f01375, sR b1380, sR b1407, sR b1447, sR R1520, sI b1530, sI b1536, sU, sU, sU, sU] [(.int (0 : Int32))])) _
          have eb1542 : b1542 = (0 : Int32) := by rw [hb1542, if_neg q1539, if_neg q1540, if_pos q1541]
          rw [eb1542] at k
          exact k
        · skip
          refine XS.icmpNo X1520.here hx rfl (hb hby at_295) rfl (feq (show ¬ (c = r1371) from q1541)).1 ?_
          refine XS.iconst X1520.here hx rfl (hb hby at_298) ?_
          refine XS.goto X1520.here hx rfl (pc0 := 299) (pc' := 303) rfl (hb hby at_299) (by decide) (by decide) ?_
          show Sg p e below (T1520.setTop (mkF m 303 #[sI p0, sI p1, sI p2, sI p3, sI p4, sI p5, sI a, sI b, sI c, sI nn, sI r1368, sI r1371, sR f01375, sR b1380, sR b1407, sR b1447, sR R1520, sI b1530, sI b1536, sU, sU, sU, sU] [(.int (1 : Int32))])) _
          have eb1542 : b1542 = (1 : Int32) := by rw [hb1542, if_neg q1539, if_neg q1540, if_neg q1541]
          rw [eb1542] at k
          exact k)
  by_cases q1544 : b1530 = (0 : Int32)
  · skip
    have ka := (own_k3f hb1530).2 q1544
    have P1545 : Rg p e below (T1520.setTop (mkF m 317 #[sI p0, sI p1, sI p2, sI p3, sI p4, sI p5, sI a, sI b, sI c, sI nn, sI r1368, sI r1371, sR f01375, sR b1380, sR b1407, sR b1447, sR R1520, sI b1530, sI b1536, sI b1542, sU, sU, sU] [(.int b1536), (.int (0 : Int32))])) B0 := fun t k => P1543 t (by
      refine XS.istore X1520.here hx rfl (hb hby at_303) rfl (l' := #[sI p0, sI p1, sI p2, sI p3, sI p4, sI p5, sI a, sI b, sI c, sI nn, sI r1368, sI r1371, sR f01375, sR b1380, sR b1407, sR b1447, sR R1520, sI b1530, sI b1536, sI b1542, sU, sU, sU]) rfl ?_
      refine XS.iload X1520.here hx rfl (hb hby at_305) rfl ?_
      refine XS.ifYes X1520.here hx rfl (pc0 := 307) (pc' := 314) rfl (hb hby at_307) rfl ((if0 _ _).trans (teq (show b1530 = (0 : Int32) from q1544)).1) (by decide) (by decide) ?_
      refine XS.iconst X1520.here hx rfl (hb hby at_314) ?_
      refine XS.iload X1520.here hx rfl (hb hby at_315) rfl ?_
      show Sg p e below (T1520.setTop (mkF m 317 #[sI p0, sI p1, sI p2, sI p3, sI p4, sI p5, sI a, sI b, sI c, sI nn, sI r1368, sI r1371, sR f01375, sR b1380, sR b1407, sR b1447, sR R1520, sI b1530, sI b1536, sI b1542, sU, sU, sU] [(.int b1536), (.int (0 : Int32))])) _
      exact k)
    by_cases q1546 : b1536 = (0 : Int32)
    · skip
      have kb := (own_k3f hb1536).2 q1546
      have P1547 : Rg p e below (T1520.setTop (mkF m 328 #[sI p0, sI p1, sI p2, sI p3, sI p4, sI p5, sI a, sI b, sI c, sI nn, sI r1368, sI r1371, sR f01375, sR b1380, sR b1407, sR b1447, sR R1520, sI b1530, sI b1536, sI b1542, sU, sU, sU] [(.int b1542), (.int (0 : Int32))])) B0 := fun t k => P1545 t (by
        refine XS.ifYes X1520.here hx rfl (pc0 := 317) (pc' := 324) rfl (hb hby at_317) rfl ((if0 _ _).trans (teq (show b1536 = (0 : Int32) from q1546)).1) (by decide) (by decide) ?_
        refine XS.iconst X1520.here hx rfl (hb hby at_324) ?_
        refine XS.iadd X1520.here hx rfl (hb hby at_325) rfl ?_
        refine XS.iload X1520.here hx rfl (hb hby at_326) rfl ?_
        show Sg p e below (T1520.setTop (mkF m 328 #[sI p0, sI p1, sI p2, sI p3, sI p4, sI p5, sI a, sI b, sI c, sI nn, sI r1368, sI r1371, sR f01375, sR b1380, sR b1407, sR b1447, sR R1520, sI b1530, sI b1536, sI b1542, sU, sU, sU] [(.int b1542), (.int (0 : Int32))])) _
        exact k)
      by_cases q1548 : b1542 = (0 : Int32)
      · skip
        have kc := (own_k3f hb1542).2 q1548
        have hfl : gs.flatten = [] := by rw [hfin, if_neg ka, if_neg kb, if_neg kc]; rfl
        rw [hfl] at hN1520 A1520
        have hN8 : N1520 = (0 : Int32) := hN1520
        subst hN8
        obtain ⟨T1549, h1549, k1549, X1549, e1549, E1549, A1549, B1549, st1549⟩ := newPE X1520 hx hZ (own_hw hw 9 rfl) rfl (g := (mkF m 340 #[sI p0, sI p1, sI p2, sI p3, sI p4, sI p5, sI a, sI b, sI c, sI nn, sI r1368, sI r1371, sR f01375, sR b1380, sR b1407, sR b1447, sR R1520, sI b1530, sI b1536, sI b1542, sI 0, sU, sU] [(.int (3 : Int32))])) rfl (hb hby at_340) rfl (by decide) (cap := 3) (by decide) (by decide) (by decide) (by decide) (ad := "[I") (by decide)
        obtain ⟨b1549, g1549⟩ : ∃ z, z = T1520.heap.size := ⟨_, rfl⟩
        rw [← g1549] at A1549 B1549 st1549
        have g_b1549 : n0 ≤ b1549 := Nat.le_trans Z1523 (Nat.le_of_eq g1549.symm)
        have sz_b1549 : h0.size ≤ b1549 := Nat.le_trans K1524.1 (Nat.le_of_eq g1549.symm)
        have P1550 : Rg p e below (T1549.setTop (mkF m 342 #[sI p0, sI p1, sI p2, sI p3, sI p4, sI p5, sI a, sI b, sI c, sI nn, sI r1368, sI r1371, sR f01375, sR b1380, sR b1407, sR b1447, sR R1520, sI b1530, sI b1536, sI b1542, sI 0, sU, sU] [(.ref b1549)])) B0 := fun t k => P1547 t (by
          refine XS.ifYes X1520.here hx rfl (pc0 := 328) (pc' := 335) rfl (hb hby at_328) rfl ((if0 _ _).trans (teq (show b1542 = (0 : Int32) from q1548)).1) (by decide) (by decide) ?_
          refine XS.iconst X1520.here hx rfl (hb hby at_335) ?_
          refine XS.iadd X1520.here hx rfl (hb hby at_336) rfl ?_
          refine XS.istore X1520.here hx rfl (hb hby at_337) rfl (l' := #[sI p0, sI p1, sI p2, sI p3, sI p4, sI p5, sI a, sI b, sI c, sI nn, sI r1368, sI r1371, sR f01375, sR b1380, sR b1407, sR b1447, sR R1520, sI b1530, sI b1536, sI b1542, sI 0, sU, sU]) rfl ?_
          refine XS.iconst X1520.here hx rfl (hb hby at_339) ?_
          show Sg p e below (T1520.setTop (mkF m 340 #[sI p0, sI p1, sI p2, sI p3, sI p4, sI p5, sI a, sI b, sI c, sI nn, sI r1368, sI r1371, sR f01375, sR b1380, sR b1407, sR b1447, sR R1520, sI b1530, sI b1536, sI b1542, sI 0, sU, sU] [(.int (3 : Int32))])) _
          exact st1549 _ k)
        have Z1551 : n0 ≤ h1549.size := Nat.le_trans Z1523 E1549.1
        have K1552 : Keep h0 h1549 [] := K1524.ext E1549
        have O1553 : Old Z n0 h1549 := O1525.ext E1549
        have v1554 : Arv Z h1549 b1549 k1549 .int (3 : Int32) [(.int (0 : Int32)), (.int (0 : Int32)), (.int (0 : Int32))] (.int (0 : Int32)) := (Arv.new A1549 (by decide)).pad (pad_rep [] (.int (0 : Int32)) 3)
        have f1555 := (A1520.ext E1549)
        obtain ⟨cl1556, Ar1556, -, S1556, N1556, -, -⟩ := id f1555
        obtain ⟨fs1557, hr1557, hrun1557, hended1557, hW1557, hsame1557⟩ := X1549.leave (v := some (.int (1 : Int32))) (fun h => by rw [Bd.returns] at h; cases h)
        refine ⟨_, _, pre0 _ (P1550 _ ?_), hrun1557, hended1557, _, _, rfl, ?_, ⟨⟨_, rfl⟩, hW1557, hsame1557.mono (Nat.le_of_ble_eq_true rfl) (Nat.le_of_ble_eq_true rfl)⟩⟩
        · show Sg p e below (T1549.setTop (mkF m 342 #[sI p0, sI p1, sI p2, sI p3, sI p4, sI p5, sI a, sI b, sI c, sI nn, sI r1368, sI r1371, sR f01375, sR b1380, sR b1407, sR b1447, sR R1520, sI b1530, sI b1536, sI b1542, sI 0, sU, sU] [(.ref b1549)])) _
          refine XS.astore X1549.here hx rfl (hb hby at_342) rfl rfl (l' := #[sI p0, sI p1, sI p2, sI p3, sI p4, sI p5, sI a, sI b, sI c, sI nn, sI r1368, sI r1371, sR f01375, sR b1380, sR b1407, sR b1447, sR R1520, sI b1530, sI b1536, sI b1542, sI 0, sR b1549, sU]) rfl ?_
          refine XS.iconst X1549.here hx rfl (hb hby at_344) ?_
          refine XS.istore X1549.here hx rfl (hb hby at_345) rfl (l' := #[sI p0, sI p1, sI p2, sI p3, sI p4, sI p5, sI a, sI b, sI c, sI nn, sI r1368, sI r1371, sR f01375, sR b1380, sR b1407, sR b1447, sR R1520, sI b1530, sI b1536, sI b1542, sI 0, sR b1549, sI 0]) rfl ?_
          refine XS.iload X1549.here hx rfl (hb hby at_347) rfl ?_
          refine XS.ifYes X1549.here hx rfl (pc0 := 349) (pc' := 362) rfl (hb hby at_349) rfl ((if0 _ _).trans (teq (show b1530 = (0 : Int32) from q1544)).1) (by decide) (by decide) ?_
          refine XS.iload X1549.here hx rfl (hb hby at_362) rfl ?_
          refine XS.ifYes X1549.here hx rfl (pc0 := 364) (pc' := 377) rfl (hb hby at_364) rfl ((if0 _ _).trans (teq (show b1536 = (0 : Int32) from q1546)).1) (by decide) (by decide) ?_
          refine XS.iload X1549.here hx rfl (hb hby at_377) rfl ?_
          refine XS.ifYes X1549.here hx rfl (pc0 := 379) (pc' := 392) rfl (hb hby at_379) rfl ((if0 _ _).trans (teq (show b1542 = (0 : Int32) from q1548)).1) (by decide) (by decide) ?_
          refine XS.aload X1549.here hx rfl (hb hby at_392) rfl rfl ?_
          show Sg p e below (T1549.setTop (mkF m 394 #[sI p0, sI p1, sI p2, sI p3, sI p4, sI p5, sI a, sI b, sI c, sI nn, sI r1368, sI r1371, sR f01375, sR b1380, sR b1407, sR b1447, sR R1520, sI b1530, sI b1536, sI b1542, sI 0, sR b1549, sI 0] [(.ref R1520)])) _
          refine X1549.arraylength hx (by rw [e1549]; exact Ar1556.1) (State.isArrayOf_alike hZ.alike Ar1556.2.1) (g := (mkF m 394 #[sI p0, sI p1, sI p2, sI p3, sI p4, sI p5, sI a, sI b, sI c, sI nn, sI r1368, sI r1371, sR f01375, sR b1380, sR b1407, sR b1447, sR R1520, sI b1530, sI b1536, sI b1542, sI 0, sR b1549, sI 0] [(.ref R1520)])) rfl rfl (hb hby at_394) _ ?_
          rw [len_of S1556 N1556]
          show Sg p e below (T1549.setTop (mkF m 395 #[sI p0, sI p1, sI p2, sI p3, sI p4, sI p5, sI a, sI b, sI c, sI nn, sI r1368, sI r1371, sR f01375, sR b1380, sR b1407, sR b1447, sR R1520, sI b1530, sI b1536, sI b1542, sI 0, sR b1549, sI 0] [(.int (0 : Int32))])) _
          refine XS.iload X1549.here hx rfl (hb hby at_395) rfl ?_
          refine XS.icmpYes X1549.here hx rfl (pc0 := 397) (pc' := 402) rfl (hb hby at_397) rfl (teq (show (0 : Int32) = (0 : Int32) from (by decide))).1 (by decide) (by decide) ?_
          refine XS.iload X1549.here hx rfl (hb hby at_402) rfl ?_
          refine XS.iconst X1549.here hx rfl (hb hby at_404) ?_
          refine XS.icmpYes X1549.here hx rfl (pc0 := 405) (pc' := 419) rfl (hb hby at_405) rfl (tlt (show (0 : Int32) < (1 : Int32) from (by decide))).1 (by decide) (by decide) ?_
          refine XS.iload X1549.here hx rfl (hb hby at_419) rfl ?_
          refine XS.iconst X1549.here hx rfl (hb hby at_421) ?_
          refine XS.icmpYes X1549.here hx rfl (pc0 := 422) (pc' := 436) rfl (hb hby at_422) rfl (tlt (show (0 : Int32) < (2 : Int32) from (by decide))).1 (by decide) (by decide) ?_
          refine XS.iload X1549.here hx rfl (hb hby at_436) rfl ?_
          refine XS.iconst X1549.here hx rfl (hb hby at_438) ?_
          refine XS.icmpYes X1549.here hx rfl (pc0 := 439) (pc' := 453) rfl (hb hby at_439) rfl (tlt (show (0 : Int32) < (3 : Int32) from (by decide))).1 (by decide) (by decide) ?_
          refine XS.iconst X1549.here hx rfl (hb hby at_453) ?_
          refine XS.goto X1549.here hx rfl (pc0 := 454) (pc' := 458) rfl (hb hby at_454) (by decide) (by decide) ?_
          show Sg p e below (T1549.setTop (mkF m 458 #[sI p0, sI p1, sI p2, sI p3, sI p4, sI p5, sI a, sI b, sI c, sI nn, sI r1368, sI r1371, sR f01375, sR b1380, sR b1407, sR b1447, sR R1520, sI b1530, sI b1536, sI b1542, sI 0, sR b1549, sI 0] [(.int (1 : Int32))])) _
          exact retN X1549 hx (t := .boolean) Bd.returns (by simp) (hb hby at_458) hr1557
        · show Q_law  h0 n0 _ T1549.heap _
          rw [e1549]
          exact ⟨rfl, N1521⟩
      · skip
        have kc := (own_k3f hb1542).1 q1548
        have hfl : gs.flatten = [c] := by rw [hfin, if_neg ka, if_neg kb, if_pos kc]; rfl
        rw [hfl] at hN1520 A1520
        have hN8 : N1520 = (1 : Int32) := hN1520
        subst hN8
        obtain ⟨T1558, h1558, k1558, X1558, e1558, E1558, A1558, B1558, st1558⟩ := newPE X1520 hx hZ (own_hw hw 9 rfl) rfl (g := (mkF m 340 #[sI p0, sI p1, sI p2, sI p3, sI p4, sI p5, sI a, sI b, sI c, sI nn, sI r1368, sI r1371, sR f01375, sR b1380, sR b1407, sR b1447, sR R1520, sI b1530, sI b1536, sI b1542, sI 1, sU, sU] [(.int (3 : Int32))])) rfl (hb hby at_340) rfl (by decide) (cap := 3) (by decide) (by decide) (by decide) (by decide) (ad := "[I") (by decide)
        obtain ⟨b1558, g1558⟩ : ∃ z, z = T1520.heap.size := ⟨_, rfl⟩
        rw [← g1558] at A1558 B1558 st1558
        have g_b1558 : n0 ≤ b1558 := Nat.le_trans Z1523 (Nat.le_of_eq g1558.symm)
        have sz_b1558 : h0.size ≤ b1558 := Nat.le_trans K1524.1 (Nat.le_of_eq g1558.symm)
        have P1559 : Rg p e below (T1558.setTop (mkF m 342 #[sI p0, sI p1, sI p2, sI p3, sI p4, sI p5, sI a, sI b, sI c, sI nn, sI r1368, sI r1371, sR f01375, sR b1380, sR b1407, sR b1447, sR R1520, sI b1530, sI b1536, sI b1542, sI 1, sU, sU] [(.ref b1558)])) B0 := fun t k => P1547 t (by
          refine XS.ifNo X1520.here hx rfl (hb hby at_328) rfl ((if0 _ _).trans (feq (show ¬ (b1542 = (0 : Int32)) from q1548)).1) ?_
          refine XS.iconst X1520.here hx rfl (hb hby at_331) ?_
          refine XS.goto X1520.here hx rfl (pc0 := 332) (pc' := 336) rfl (hb hby at_332) (by decide) (by decide) ?_
          refine XS.iadd X1520.here hx rfl (hb hby at_336) rfl ?_
          refine XS.istore X1520.here hx rfl (hb hby at_337) rfl (l' := #[sI p0, sI p1, sI p2, sI p3, sI p4, sI p5, sI a, sI b, sI c, sI nn, sI r1368, sI r1371, sR f01375, sR b1380, sR b1407, sR b1447, sR R1520, sI b1530, sI b1536, sI b1542, sI 1, sU, sU]) rfl ?_
          refine XS.iconst X1520.here hx rfl (hb hby at_339) ?_
          show Sg p e below (T1520.setTop (mkF m 340 #[sI p0, sI p1, sI p2, sI p3, sI p4, sI p5, sI a, sI b, sI c, sI nn, sI r1368, sI r1371, sR f01375, sR b1380, sR b1407, sR b1447, sR R1520, sI b1530, sI b1536, sI b1542, sI 1, sU, sU] [(.int (3 : Int32))])) _
          exact st1558 _ k)
        have Z1560 : n0 ≤ h1558.size := Nat.le_trans Z1523 E1558.1
        have K1561 : Keep h0 h1558 [] := K1524.ext E1558
        have O1562 : Old Z n0 h1558 := O1525.ext E1558
        have v1563 : Arv Z h1558 b1558 k1558 .int (3 : Int32) [(.int (0 : Int32)), (.int (0 : Int32)), (.int (0 : Int32))] (.int (0 : Int32)) := (Arv.new A1558 (by decide)).pad (pad_rep [] (.int (0 : Int32)) 3)
        obtain ⟨cl1564, Ar1564, q1564, S1564, N1564, H1564, G1564⟩ := id v1563
        obtain ⟨T1564, h1564, X1564, e1564, W1564, st1564⟩ := stI X1558 hx hZ e1558 Ar1564 (j := (0 : Int32)) (inb_of S1564 ⟨by decide, by decide⟩) (g := (mkF m 388 #[sI p0, sI p1, sI p2, sI p3, sI p4, sI p5, sI a, sI b, sI c, sI nn, sI r1368, sI r1371, sR f01375, sR b1380, sR b1407, sR b1447, sR R1520, sI b1530, sI b1536, sI b1542, sI 1, sR b1558, sI 0] [(.int c), (.int (0 : Int32)), (.ref b1558)])) rfl rfl (hb hby at_388)
        have v1565 : Arv Z h1564 b1558 k1558 .int (3 : Int32) [(.int c), (.int (0 : Int32)), (.int (0 : Int32))] (.int (0 : Int32)) := Arv.set Ar1564 q1564 S1564 N1564 H1564 G1564 rfl W1564 0 rfl (Nat.le_of_ble_eq_true rfl)
        have P1566 : Rg p e below (T1564.setTop (mkF m 389 #[sI p0, sI p1, sI p2, sI p3, sI p4, sI p5, sI a, sI b, sI c, sI nn, sI r1368, sI r1371, sR f01375, sR b1380, sR b1407, sR b1447, sR R1520, sI b1530, sI b1536, sI b1542, sI 1, sR b1558, sI 0] [])) B0 := fun t k => P1559 t (by
          refine XS.astore X1558.here hx rfl (hb hby at_342) rfl rfl (l' := #[sI p0, sI p1, sI p2, sI p3, sI p4, sI p5, sI a, sI b, sI c, sI nn, sI r1368, sI r1371, sR f01375, sR b1380, sR b1407, sR b1447, sR R1520, sI b1530, sI b1536, sI b1542, sI 1, sR b1558, sU]) rfl ?_
          refine XS.iconst X1558.here hx rfl (hb hby at_344) ?_
          refine XS.istore X1558.here hx rfl (hb hby at_345) rfl (l' := #[sI p0, sI p1, sI p2, sI p3, sI p4, sI p5, sI a, sI b, sI c, sI nn, sI r1368, sI r1371, sR f01375, sR b1380, sR b1407, sR b1447, sR R1520, sI b1530, sI b1536, sI b1542, sI 1, sR b1558, sI 0]) rfl ?_
          refine XS.iload X1558.here hx rfl (hb hby at_347) rfl ?_
          refine XS.ifYes X1558.here hx rfl (pc0 := 349) (pc' := 362) rfl (hb hby at_349) rfl ((if0 _ _).trans (teq (show b1530 = (0 : Int32) from q1544)).1) (by decide) (by decide) ?_
          refine XS.iload X1558.here hx rfl (hb hby at_362) rfl ?_
          refine XS.ifYes X1558.here hx rfl (pc0 := 364) (pc' := 377) rfl (hb hby at_364) rfl ((if0 _ _).trans (teq (show b1536 = (0 : Int32) from q1546)).1) (by decide) (by decide) ?_
          refine XS.iload X1558.here hx rfl (hb hby at_377) rfl ?_
          refine XS.ifNo X1558.here hx rfl (hb hby at_379) rfl ((if0 _ _).trans (feq (show ¬ (b1542 = (0 : Int32)) from q1548)).1) ?_
          refine XS.aload X1558.here hx rfl (hb hby at_382) rfl rfl ?_
          refine XS.iload X1558.here hx rfl (hb hby at_384) rfl ?_
          refine XS.iload X1558.here hx rfl (hb hby at_386) rfl ?_
          show Sg p e below (T1558.setTop (mkF m 388 #[sI p0, sI p1, sI p2, sI p3, sI p4, sI p5, sI a, sI b, sI c, sI nn, sI r1368, sI r1371, sR f01375, sR b1380, sR b1407, sR b1447, sR R1520, sI b1530, sI b1536, sI b1542, sI 1, sR b1558, sI 0] [(.int c), (.int (0 : Int32)), (.ref b1558)])) _
          exact st1564 _ k)
        have N1567 := Fr.snoc X1564 N1521 g_b1558
        have Z1568 : n0 ≤ h1564.size := Nat.le_trans Z1560 (Keep.of_wr W1564).1
        have K1569 : Keep h0 h1564 [] := K1561.wr W1564 (Or.inr sz_b1558)
        have O1570 : Old Z n0 h1564 := O1562.wr W1564 g_b1558
        have f1571 := ((A1520.ext E1558).other W1564 (Nat.ne_of_lt (Nat.lt_of_lt_of_le A1520.lt (Nat.le_of_eq g1558.symm))))
        obtain ⟨cl1572, Ar1572, -, S1572, N1572, -, -⟩ := id f1571
        obtain ⟨cl1573, Ar1573, -, S1573, N1573, H1573, -⟩ := id f1571
        have hin1573 : ¬ ((0 : Int32) < 0 ∨ cl1573.slots.size ≤ ((0 : Int32)).toNatClampNeg) := inb_of S1573 ⟨by decide, by decide⟩
        obtain ⟨cl1574, Ar1574, -, S1574, N1574, H1574, -⟩ := id v1565
        have hin1574 : ¬ ((0 : Int32) < 0 ∨ cl1574.slots.size ≤ ((0 : Int32)).toNatClampNeg) := inb_of S1574 ⟨by decide, by decide⟩
        obtain ⟨fs1575, hr1575, hrun1575, hended1575, hW1575, hsame1575⟩ := X1564.leave (v := some (.int (1 : Int32))) (fun h => by rw [Bd.returns] at h; cases h)
        refine ⟨_, _, pre0 _ (P1566 _ ?_), hrun1575, hended1575, _, _, rfl, ?_, ⟨⟨_, rfl⟩, hW1575, hsame1575.mono (Nat.le_of_ble_eq_true rfl) (Nat.le_of_ble_eq_true rfl)⟩⟩
        · show Sg p e below (T1564.setTop (mkF m 389 #[sI p0, sI p1, sI p2, sI p3, sI p4, sI p5, sI a, sI b, sI c, sI nn, sI r1368, sI r1371, sR f01375, sR b1380, sR b1407, sR b1447, sR R1520, sI b1530, sI b1536, sI b1542, sI 1, sR b1558, sI 0] [])) _
          refine XS.iinc X1564.here hx rfl (hb hby at_389) rfl (l' := #[sI p0, sI p1, sI p2, sI p3, sI p4, sI p5, sI a, sI b, sI c, sI nn, sI r1368, sI r1371, sR f01375, sR b1380, sR b1407, sR b1447, sR R1520, sI b1530, sI b1536, sI b1542, sI 1, sR b1558, sI 1]) rfl ?_
          refine XS.aload X1564.here hx rfl (hb hby at_392) rfl rfl ?_
          show Sg p e below (T1564.setTop (mkF m 394 #[sI p0, sI p1, sI p2, sI p3, sI p4, sI p5, sI a, sI b, sI c, sI nn, sI r1368, sI r1371, sR f01375, sR b1380, sR b1407, sR b1447, sR R1520, sI b1530, sI b1536, sI b1542, sI 1, sR b1558, sI 1] [(.ref R1520)])) _
          refine X1564.arraylength hx (by rw [e1564]; exact Ar1572.1) (State.isArrayOf_alike hZ.alike Ar1572.2.1) (g := (mkF m 394 #[sI p0, sI p1, sI p2, sI p3, sI p4, sI p5, sI a, sI b, sI c, sI nn, sI r1368, sI r1371, sR f01375, sR b1380, sR b1407, sR b1447, sR R1520, sI b1530, sI b1536, sI b1542, sI 1, sR b1558, sI 1] [(.ref R1520)])) rfl rfl (hb hby at_394) _ ?_
          rw [len_of S1572 N1572]
          show Sg p e below (T1564.setTop (mkF m 395 #[sI p0, sI p1, sI p2, sI p3, sI p4, sI p5, sI a, sI b, sI c, sI nn, sI r1368, sI r1371, sR f01375, sR b1380, sR b1407, sR b1447, sR R1520, sI b1530, sI b1536, sI b1542, sI 1, sR b1558, sI 1] [(.int (1 : Int32))])) _
          refine XS.iload X1564.here hx rfl (hb hby at_395) rfl ?_
          refine XS.icmpYes X1564.here hx rfl (pc0 := 397) (pc' := 402) rfl (hb hby at_397) rfl (teq (show (1 : Int32) = (1 : Int32) from (by decide))).1 (by decide) (by decide) ?_
          refine XS.iload X1564.here hx rfl (hb hby at_402) rfl ?_
          refine XS.iconst X1564.here hx rfl (hb hby at_404) ?_
          refine XS.icmpNo X1564.here hx rfl (hb hby at_405) rfl (flt (show ¬ ((1 : Int32) < (1 : Int32)) from (by decide))).1 ?_
          refine XS.aload X1564.here hx rfl (hb hby at_408) rfl rfl ?_
          refine XS.iconst X1564.here hx rfl (hb hby at_410) ?_
          show Sg p e below (T1564.setTop (mkF m 411 #[sI p0, sI p1, sI p2, sI p3, sI p4, sI p5, sI a, sI b, sI c, sI nn, sI r1368, sI r1371, sR f01375, sR b1380, sR b1407, sR b1447, sR R1520, sI b1530, sI b1536, sI b1542, sI 1, sR b1558, sI 1] [(.int (0 : Int32)), (.ref R1520)])) _
          refine X1564.iaload hx (j := (0 : Int32)) (v := (.int c)) (by rw [e1564]; exact Ar1573.1) (State.isArrayOf_alike hZ.alike Ar1573.2.1) Ar1573.2.2 hin1573 (H1573.at hin1573 rfl) (g := (mkF m 411 #[sI p0, sI p1, sI p2, sI p3, sI p4, sI p5, sI a, sI b, sI c, sI nn, sI r1368, sI r1371, sR f01375, sR b1380, sR b1407, sR b1447, sR R1520, sI b1530, sI b1536, sI b1542, sI 1, sR b1558, sI 1] [(.int (0 : Int32)), (.ref R1520)])) rfl rfl (hb hby at_411) _ ?_
          show Sg p e below (T1564.setTop (mkF m 412 #[sI p0, sI p1, sI p2, sI p3, sI p4, sI p5, sI a, sI b, sI c, sI nn, sI r1368, sI r1371, sR f01375, sR b1380, sR b1407, sR b1447, sR R1520, sI b1530, sI b1536, sI b1542, sI 1, sR b1558, sI 1] [(.int c)])) _
          refine XS.aload X1564.here hx rfl (hb hby at_412) rfl rfl ?_
          refine XS.iconst X1564.here hx rfl (hb hby at_414) ?_
          show Sg p e below (T1564.setTop (mkF m 415 #[sI p0, sI p1, sI p2, sI p3, sI p4, sI p5, sI a, sI b, sI c, sI nn, sI r1368, sI r1371, sR f01375, sR b1380, sR b1407, sR b1447, sR R1520, sI b1530, sI b1536, sI b1542, sI 1, sR b1558, sI 1] [(.int (0 : Int32)), (.ref b1558), (.int c)])) _
          refine X1564.iaload hx (j := (0 : Int32)) (v := (.int c)) (by rw [e1564]; exact Ar1574.1) (State.isArrayOf_alike hZ.alike Ar1574.2.1) Ar1574.2.2 hin1574 (H1574.at hin1574 rfl) (g := (mkF m 415 #[sI p0, sI p1, sI p2, sI p3, sI p4, sI p5, sI a, sI b, sI c, sI nn, sI r1368, sI r1371, sR f01375, sR b1380, sR b1407, sR b1447, sR R1520, sI b1530, sI b1536, sI b1542, sI 1, sR b1558, sI 1] [(.int (0 : Int32)), (.ref b1558), (.int c)])) rfl rfl (hb hby at_415) _ ?_
          show Sg p e below (T1564.setTop (mkF m 416 #[sI p0, sI p1, sI p2, sI p3, sI p4, sI p5, sI a, sI b, sI c, sI nn, sI r1368, sI r1371, sR f01375, sR b1380, sR b1407, sR b1447, sR R1520, sI b1530, sI b1536, sI b1542, sI 1, sR b1558, sI 1] [(.int c), (.int c)])) _
          refine XS.icmpNo X1564.here hx rfl (hb hby at_416) rfl (teq (show c = c from (rfl : c = c))).2 ?_
          refine XS.iload X1564.here hx rfl (hb hby at_419) rfl ?_
          refine XS.iconst X1564.here hx rfl (hb hby at_421) ?_
          refine XS.icmpYes X1564.here hx rfl (pc0 := 422) (pc' := 436) rfl (hb hby at_422) rfl (tlt (show (1 : Int32) < (2 : Int32) from (by decide))).1 (by decide) (by decide) ?_
          refine XS.iload X1564.here hx rfl (hb hby at_436) rfl ?_
          refine XS.iconst X1564.here hx rfl (hb hby at_438) ?_
          refine XS.icmpYes X1564.here hx rfl (pc0 := 439) (pc' := 453) rfl (hb hby at_439) rfl (tlt (show (1 : Int32) < (3 : Int32) from (by decide))).1 (by decide) (by decide) ?_
          refine XS.iconst X1564.here hx rfl (hb hby at_453) ?_
          refine XS.goto X1564.here hx rfl (pc0 := 454) (pc' := 458) rfl (hb hby at_454) (by decide) (by decide) ?_
          show Sg p e below (T1564.setTop (mkF m 458 #[sI p0, sI p1, sI p2, sI p3, sI p4, sI p5, sI a, sI b, sI c, sI nn, sI r1368, sI r1371, sR f01375, sR b1380, sR b1407, sR b1447, sR R1520, sI b1530, sI b1536, sI b1542, sI 1, sR b1558, sI 1] [(.int (1 : Int32))])) _
          exact retN X1564 hx (t := .boolean) Bd.returns (by simp) (hb hby at_458) hr1575
        · show Q_law  h0 n0 _ T1564.heap _
          rw [e1564]
          exact ⟨rfl, N1567⟩
    · skip
      have kb := (own_k3f hb1536).1 q1546
      have P1576 : Rg p e below (T1520.setTop (mkF m 328 #[sI p0, sI p1, sI p2, sI p3, sI p4, sI p5, sI a, sI b, sI c, sI nn, sI r1368, sI r1371, sR f01375, sR b1380, sR b1407, sR b1447, sR R1520, sI b1530, sI b1536, sI b1542, sU, sU, sU] [(.int b1542), (.int (1 : Int32))])) B0 := fun t k => P1545 t (by
        refine XS.ifNo X1520.here hx rfl (hb hby at_317) rfl ((if0 _ _).trans (feq (show ¬ (b1536 = (0 : Int32)) from q1546)).1) ?_
        refine XS.iconst X1520.here hx rfl (hb hby at_320) ?_
        refine XS.goto X1520.here hx rfl (pc0 := 321) (pc' := 325) rfl (hb hby at_321) (by decide) (by decide) ?_
        refine XS.iadd X1520.here hx rfl (hb hby at_325) rfl ?_
        refine XS.iload X1520.here hx rfl (hb hby at_326) rfl ?_
        show Sg p e below (T1520.setTop (mkF m 328 #[sI p0, sI p1, sI p2, sI p3, sI p4, sI p5, sI a, sI b, sI c, sI nn, sI r1368, sI r1371, sR f01375, sR b1380, sR b1407, sR b1447, sR R1520, sI b1530, sI b1536, sI b1542, sU, sU, sU] [(.int b1542), (.int (1 : Int32))])) _
        exact k)
      by_cases q1577 : b1542 = (0 : Int32)
      · skip
        have kc := (own_k3f hb1542).2 q1577
        have hfl : gs.flatten = [b] := by rw [hfin, if_neg ka, if_pos kb, if_neg kc]; rfl
        rw [hfl] at hN1520 A1520
        have hN8 : N1520 = (1 : Int32) := hN1520
        subst hN8
        obtain ⟨T1578, h1578, k1578, X1578, e1578, E1578, A1578, B1578, st1578⟩ := newPE X1520 hx hZ (own_hw hw 9 rfl) rfl (g := (mkF m 340 #[sI p0, sI p1, sI p2, sI p3, sI p4, sI p5, sI a, sI b, sI c, sI nn, sI r1368, sI r1371, sR f01375, sR b1380, sR b1407, sR b1447, sR R1520, sI b1530, sI b1536, sI b1542, sI 1, sU, sU] [(.int (3 : Int32))])) rfl (hb hby at_340) rfl (by decide) (cap := 3) (by decide) (by decide) (by decide) (by decide) (ad := "[I") (by decide)
        obtain ⟨b1578, g1578⟩ : ∃ z, z = T1520.heap.size := ⟨_, rfl⟩
        rw [← g1578] at A1578 B1578 st1578
        have g_b1578 : n0 ≤ b1578 := Nat.le_trans Z1523 (Nat.le_of_eq g1578.symm)
        have sz_b1578 : h0.size ≤ b1578 := Nat.le_trans K1524.1 (Nat.le_of_eq g1578.symm)
        have P1579 : Rg p e below (T1578.setTop (mkF m 342 #[sI p0, sI p1, sI p2, sI p3, sI p4, sI p5, sI a, sI b, sI c, sI nn, sI r1368, sI r1371, sR f01375, sR b1380, sR b1407, sR b1447, sR R1520, sI b1530, sI b1536, sI b1542, sI 1, sU, sU] [(.ref b1578)])) B0 := fun t k => P1576 t (by
          refine XS.ifYes X1520.here hx rfl (pc0 := 328) (pc' := 335) rfl (hb hby at_328) rfl ((if0 _ _).trans (teq (show b1542 = (0 : Int32) from q1577)).1) (by decide) (by decide) ?_
          refine XS.iconst X1520.here hx rfl (hb hby at_335) ?_
          refine XS.iadd X1520.here hx rfl (hb hby at_336) rfl ?_
          refine XS.istore X1520.here hx rfl (hb hby at_337) rfl (l' := #[sI p0, sI p1, sI p2, sI p3, sI p4, sI p5, sI a, sI b, sI c, sI nn, sI r1368, sI r1371, sR f01375, sR b1380, sR b1407, sR b1447, sR R1520, sI b1530, sI b1536, sI b1542, sI 1, sU, sU]) rfl ?_
          refine XS.iconst X1520.here hx rfl (hb hby at_339) ?_
          show Sg p e below (T1520.setTop (mkF m 340 #[sI p0, sI p1, sI p2, sI p3, sI p4, sI p5, sI a, sI b, sI c, sI nn, sI r1368, sI r1371, sR f01375, sR b1380, sR b1407, sR b1447, sR R1520, sI b1530, sI b1536, sI b1542, sI 1, sU, sU] [(.int (3 : Int32))])) _
          exact st1578 _ k)
        have Z1580 : n0 ≤ h1578.size := Nat.le_trans Z1523 E1578.1
        have K1581 : Keep h0 h1578 [] := K1524.ext E1578
        have O1582 : Old Z n0 h1578 := O1525.ext E1578
        have v1583 : Arv Z h1578 b1578 k1578 .int (3 : Int32) [(.int (0 : Int32)), (.int (0 : Int32)), (.int (0 : Int32))] (.int (0 : Int32)) := (Arv.new A1578 (by decide)).pad (pad_rep [] (.int (0 : Int32)) 3)
        obtain ⟨cl1584, Ar1584, q1584, S1584, N1584, H1584, G1584⟩ := id v1583
        obtain ⟨T1584, h1584, X1584, e1584, W1584, st1584⟩ := stI X1578 hx hZ e1578 Ar1584 (j := (0 : Int32)) (inb_of S1584 ⟨by decide, by decide⟩) (g := (mkF m 373 #[sI p0, sI p1, sI p2, sI p3, sI p4, sI p5, sI a, sI b, sI c, sI nn, sI r1368, sI r1371, sR f01375, sR b1380, sR b1407, sR b1447, sR R1520, sI b1530, sI b1536, sI b1542, sI 1, sR b1578, sI 0] [(.int b), (.int (0 : Int32)), (.ref b1578)])) rfl rfl (hb hby at_373)
        have v1585 : Arv Z h1584 b1578 k1578 .int (3 : Int32) [(.int b), (.int (0 : Int32)), (.int (0 : Int32))] (.int (0 : Int32)) := Arv.set Ar1584 q1584 S1584 N1584 H1584 G1584 rfl W1584 0 rfl (Nat.le_of_ble_eq_true rfl)
        have P1586 : Rg p e below (T1584.setTop (mkF m 374 #[sI p0, sI p1, sI p2, sI p3, sI p4, sI p5, sI a, sI b, sI c, sI nn, sI r1368, sI r1371, sR f01375, sR b1380, sR b1407, sR b1447, sR R1520, sI b1530, sI b1536, sI b1542, sI 1, sR b1578, sI 0] [])) B0 := fun t k => P1579 t (by
          refine XS.astore X1578.here hx rfl (hb hby at_342) rfl rfl (l' := #[sI p0, sI p1, sI p2, sI p3, sI p4, sI p5, sI a, sI b, sI c, sI nn, sI r1368, sI r1371, sR f01375, sR b1380, sR b1407, sR b1447, sR R1520, sI b1530, sI b1536, sI b1542, sI 1, sR b1578, sU]) rfl ?_
          refine XS.iconst X1578.here hx rfl (hb hby at_344) ?_
          refine XS.istore X1578.here hx rfl (hb hby at_345) rfl (l' := #[sI p0, sI p1, sI p2, sI p3, sI p4, sI p5, sI a, sI b, sI c, sI nn, sI r1368, sI r1371, sR f01375, sR b1380, sR b1407, sR b1447, sR R1520, sI b1530, sI b1536, sI b1542, sI 1, sR b1578, sI 0]) rfl ?_
          refine XS.iload X1578.here hx rfl (hb hby at_347) rfl ?_
          refine XS.ifYes X1578.here hx rfl (pc0 := 349) (pc' := 362) rfl (hb hby at_349) rfl ((if0 _ _).trans (teq (show b1530 = (0 : Int32) from q1544)).1) (by decide) (by decide) ?_
          refine XS.iload X1578.here hx rfl (hb hby at_362) rfl ?_
          refine XS.ifNo X1578.here hx rfl (hb hby at_364) rfl ((if0 _ _).trans (feq (show ¬ (b1536 = (0 : Int32)) from q1546)).1) ?_
          refine XS.aload X1578.here hx rfl (hb hby at_367) rfl rfl ?_
          refine XS.iload X1578.here hx rfl (hb hby at_369) rfl ?_
          refine XS.iload X1578.here hx rfl (hb hby at_371) rfl ?_
          show Sg p e below (T1578.setTop (mkF m 373 #[sI p0, sI p1, sI p2, sI p3, sI p4, sI p5, sI a, sI b, sI c, sI nn, sI r1368, sI r1371, sR f01375, sR b1380, sR b1407, sR b1447, sR R1520, sI b1530, sI b1536, sI b1542, sI 1, sR b1578, sI 0] [(.int b), (.int (0 : Int32)), (.ref b1578)])) _
          exact st1584 _ k)
        have N1587 := Fr.snoc X1584 N1521 g_b1578
        have Z1588 : n0 ≤ h1584.size := Nat.le_trans Z1580 (Keep.of_wr W1584).1
        have K1589 : Keep h0 h1584 [] := K1581.wr W1584 (Or.inr sz_b1578)
        have O1590 : Old Z n0 h1584 := O1582.wr W1584 g_b1578
        have f1591 := ((A1520.ext E1578).other W1584 (Nat.ne_of_lt (Nat.lt_of_lt_of_le A1520.lt (Nat.le_of_eq g1578.symm))))
        obtain ⟨cl1592, Ar1592, -, S1592, N1592, -, -⟩ := id f1591
        obtain ⟨cl1593, Ar1593, -, S1593, N1593, H1593, -⟩ := id f1591
        have hin1593 : ¬ ((0 : Int32) < 0 ∨ cl1593.slots.size ≤ ((0 : Int32)).toNatClampNeg) := inb_of S1593 ⟨by decide, by decide⟩
        obtain ⟨cl1594, Ar1594, -, S1594, N1594, H1594, -⟩ := id v1585
        have hin1594 : ¬ ((0 : Int32) < 0 ∨ cl1594.slots.size ≤ ((0 : Int32)).toNatClampNeg) := inb_of S1594 ⟨by decide, by decide⟩
        obtain ⟨fs1595, hr1595, hrun1595, hended1595, hW1595, hsame1595⟩ := X1584.leave (v := some (.int (1 : Int32))) (fun h => by rw [Bd.returns] at h; cases h)
        refine ⟨_, _, pre0 _ (P1586 _ ?_), hrun1595, hended1595, _, _, rfl, ?_, ⟨⟨_, rfl⟩, hW1595, hsame1595.mono (Nat.le_of_ble_eq_true rfl) (Nat.le_of_ble_eq_true rfl)⟩⟩
        · show Sg p e below (T1584.setTop (mkF m 374 #[sI p0, sI p1, sI p2, sI p3, sI p4, sI p5, sI a, sI b, sI c, sI nn, sI r1368, sI r1371, sR f01375, sR b1380, sR b1407, sR b1447, sR R1520, sI b1530, sI b1536, sI b1542, sI 1, sR b1578, sI 0] [])) _
          refine XS.iinc X1584.here hx rfl (hb hby at_374) rfl (l' := #[sI p0, sI p1, sI p2, sI p3, sI p4, sI p5, sI a, sI b, sI c, sI nn, sI r1368, sI r1371, sR f01375, sR b1380, sR b1407, sR b1447, sR R1520, sI b1530, sI b1536, sI b1542, sI 1, sR b1578, sI 1]) rfl ?_
          refine XS.iload X1584.here hx rfl (hb hby at_377) rfl ?_
          refine XS.ifYes X1584.here hx rfl (pc0 := 379) (pc' := 392) rfl (hb hby at_379) rfl ((if0 _ _).trans (teq (show b1542 = (0 : Int32) from q1577)).1) (by decide) (by decide) ?_
          refine XS.aload X1584.here hx rfl (hb hby at_392) rfl rfl ?_
          show Sg p e below (T1584.setTop (mkF m 394 #[sI p0, sI p1, sI p2, sI p3, sI p4, sI p5, sI a, sI b, sI c, sI nn, sI r1368, sI r1371, sR f01375, sR b1380, sR b1407, sR b1447, sR R1520, sI b1530, sI b1536, sI b1542, sI 1, sR b1578, sI 1] [(.ref R1520)])) _
          refine X1584.arraylength hx (by rw [e1584]; exact Ar1592.1) (State.isArrayOf_alike hZ.alike Ar1592.2.1) (g := (mkF m 394 #[sI p0, sI p1, sI p2, sI p3, sI p4, sI p5, sI a, sI b, sI c, sI nn, sI r1368, sI r1371, sR f01375, sR b1380, sR b1407, sR b1447, sR R1520, sI b1530, sI b1536, sI b1542, sI 1, sR b1578, sI 1] [(.ref R1520)])) rfl rfl (hb hby at_394) _ ?_
          rw [len_of S1592 N1592]
          show Sg p e below (T1584.setTop (mkF m 395 #[sI p0, sI p1, sI p2, sI p3, sI p4, sI p5, sI a, sI b, sI c, sI nn, sI r1368, sI r1371, sR f01375, sR b1380, sR b1407, sR b1447, sR R1520, sI b1530, sI b1536, sI b1542, sI 1, sR b1578, sI 1] [(.int (1 : Int32))])) _
          refine XS.iload X1584.here hx rfl (hb hby at_395) rfl ?_
          refine XS.icmpYes X1584.here hx rfl (pc0 := 397) (pc' := 402) rfl (hb hby at_397) rfl (teq (show (1 : Int32) = (1 : Int32) from (by decide))).1 (by decide) (by decide) ?_
          refine XS.iload X1584.here hx rfl (hb hby at_402) rfl ?_
          refine XS.iconst X1584.here hx rfl (hb hby at_404) ?_
          refine XS.icmpNo X1584.here hx rfl (hb hby at_405) rfl (flt (show ¬ ((1 : Int32) < (1 : Int32)) from (by decide))).1 ?_
          refine XS.aload X1584.here hx rfl (hb hby at_408) rfl rfl ?_
          refine XS.iconst X1584.here hx rfl (hb hby at_410) ?_
          show Sg p e below (T1584.setTop (mkF m 411 #[sI p0, sI p1, sI p2, sI p3, sI p4, sI p5, sI a, sI b, sI c, sI nn, sI r1368, sI r1371, sR f01375, sR b1380, sR b1407, sR b1447, sR R1520, sI b1530, sI b1536, sI b1542, sI 1, sR b1578, sI 1] [(.int (0 : Int32)), (.ref R1520)])) _
          refine X1584.iaload hx (j := (0 : Int32)) (v := (.int b)) (by rw [e1584]; exact Ar1593.1) (State.isArrayOf_alike hZ.alike Ar1593.2.1) Ar1593.2.2 hin1593 (H1593.at hin1593 rfl) (g := (mkF m 411 #[sI p0, sI p1, sI p2, sI p3, sI p4, sI p5, sI a, sI b, sI c, sI nn, sI r1368, sI r1371, sR f01375, sR b1380, sR b1407, sR b1447, sR R1520, sI b1530, sI b1536, sI b1542, sI 1, sR b1578, sI 1] [(.int (0 : Int32)), (.ref R1520)])) rfl rfl (hb hby at_411) _ ?_
          show Sg p e below (T1584.setTop (mkF m 412 #[sI p0, sI p1, sI p2, sI p3, sI p4, sI p5, sI a, sI b, sI c, sI nn, sI r1368, sI r1371, sR f01375, sR b1380, sR b1407, sR b1447, sR R1520, sI b1530, sI b1536, sI b1542, sI 1, sR b1578, sI 1] [(.int b)])) _
          refine XS.aload X1584.here hx rfl (hb hby at_412) rfl rfl ?_
          refine XS.iconst X1584.here hx rfl (hb hby at_414) ?_
          show Sg p e below (T1584.setTop (mkF m 415 #[sI p0, sI p1, sI p2, sI p3, sI p4, sI p5, sI a, sI b, sI c, sI nn, sI r1368, sI r1371, sR f01375, sR b1380, sR b1407, sR b1447, sR R1520, sI b1530, sI b1536, sI b1542, sI 1, sR b1578, sI 1] [(.int (0 : Int32)), (.ref b1578), (.int b)])) _
          refine X1584.iaload hx (j := (0 : Int32)) (v := (.int b)) (by rw [e1584]; exact Ar1594.1) (State.isArrayOf_alike hZ.alike Ar1594.2.1) Ar1594.2.2 hin1594 (H1594.at hin1594 rfl) (g := (mkF m 415 #[sI p0, sI p1, sI p2, sI p3, sI p4, sI p5, sI a, sI b, sI c, sI nn, sI r1368, sI r1371, sR f01375, sR b1380, sR b1407, sR b1447, sR R1520, sI b1530, sI b1536, sI b1542, sI 1, sR b1578, sI 1] [(.int (0 : Int32)), (.ref b1578), (.int b)])) rfl rfl (hb hby at_415) _ ?_
          show Sg p e below (T1584.setTop (mkF m 416 #[sI p0, sI p1, sI p2, sI p3, sI p4, sI p5, sI a, sI b, sI c, sI nn, sI r1368, sI r1371, sR f01375, sR b1380, sR b1407, sR b1447, sR R1520, sI b1530, sI b1536, sI b1542, sI 1, sR b1578, sI 1] [(.int b), (.int b)])) _
          refine XS.icmpNo X1584.here hx rfl (hb hby at_416) rfl (teq (show b = b from (rfl : b = b))).2 ?_
          refine XS.iload X1584.here hx rfl (hb hby at_419) rfl ?_
          refine XS.iconst X1584.here hx rfl (hb hby at_421) ?_
          refine XS.icmpYes X1584.here hx rfl (pc0 := 422) (pc' := 436) rfl (hb hby at_422) rfl (tlt (show (1 : Int32) < (2 : Int32) from (by decide))).1 (by decide) (by decide) ?_
          refine XS.iload X1584.here hx rfl (hb hby at_436) rfl ?_
          refine XS.iconst X1584.here hx rfl (hb hby at_438) ?_
          refine XS.icmpYes X1584.here hx rfl (pc0 := 439) (pc' := 453) rfl (hb hby at_439) rfl (tlt (show (1 : Int32) < (3 : Int32) from (by decide))).1 (by decide) (by decide) ?_
          refine XS.iconst X1584.here hx rfl (hb hby at_453) ?_
          refine XS.goto X1584.here hx rfl (pc0 := 454) (pc' := 458) rfl (hb hby at_454) (by decide) (by decide) ?_
          show Sg p e below (T1584.setTop (mkF m 458 #[sI p0, sI p1, sI p2, sI p3, sI p4, sI p5, sI a, sI b, sI c, sI nn, sI r1368, sI r1371, sR f01375, sR b1380, sR b1407, sR b1447, sR R1520, sI b1530, sI b1536, sI b1542, sI 1, sR b1578, sI 1] [(.int (1 : Int32))])) _
          exact retN X1584 hx (t := .boolean) Bd.returns (by simp) (hb hby at_458) hr1595
        · show Q_law  h0 n0 _ T1584.heap _
          rw [e1584]
          exact ⟨rfl, N1587⟩
      · skip
        have kc := (own_k3f hb1542).1 q1577
        have hfl : gs.flatten = [b, c] := by rw [hfin, if_neg ka, if_pos kb, if_pos kc]; rfl
        rw [hfl] at hN1520 A1520
        have hN8 : N1520 = (2 : Int32) := hN1520
        subst hN8
        obtain ⟨T1596, h1596, k1596, X1596, e1596, E1596, A1596, B1596, st1596⟩ := newPE X1520 hx hZ (own_hw hw 9 rfl) rfl (g := (mkF m 340 #[sI p0, sI p1, sI p2, sI p3, sI p4, sI p5, sI a, sI b, sI c, sI nn, sI r1368, sI r1371, sR f01375, sR b1380, sR b1407, sR b1447, sR R1520, sI b1530, sI b1536, sI b1542, sI 2, sU, sU] [(.int (3 : Int32))])) rfl (hb hby at_340) rfl (by decide) (cap := 3) (by decide) (by decide) (by decide) (by decide) (ad := "[I") (by decide)
        obtain ⟨b1596, g1596⟩ : ∃ z, z = T1520.heap.size := ⟨_, rfl⟩
        rw [← g1596] at A1596 B1596 st1596
        have g_b1596 : n0 ≤ b1596 := Nat.le_trans Z1523 (Nat.le_of_eq g1596.symm)
        have sz_b1596 : h0.size ≤ b1596 := Nat.le_trans K1524.1 (Nat.le_of_eq g1596.symm)
        have P1597 : Rg p e below (T1596.setTop (mkF m 342 #[sI p0, sI p1, sI p2, sI p3, sI p4, sI p5, sI a, sI b, sI c, sI nn, sI r1368, sI r1371, sR f01375, sR b1380, sR b1407, sR b1447, sR R1520, sI b1530, sI b1536, sI b1542, sI 2, sU, sU] [(.ref b1596)])) B0 := fun t k => P1576 t (by
          refine XS.ifNo X1520.here hx rfl (hb hby at_328) rfl ((if0 _ _).trans (feq (show ¬ (b1542 = (0 : Int32)) from q1577)).1) ?_
          refine XS.iconst X1520.here hx rfl (hb hby at_331) ?_
          refine XS.goto X1520.here hx rfl (pc0 := 332) (pc' := 336) rfl (hb hby at_332) (by decide) (by decide) ?_
          refine XS.iadd X1520.here hx rfl (hb hby at_336) rfl ?_
          refine XS.istore X1520.here hx rfl (hb hby at_337) rfl (l' := #[sI p0, sI p1, sI p2, sI p3, sI p4, sI p5, sI a, sI b, sI c, sI nn, sI r1368, sI r1371, sR f01375, sR b1380, sR b1407, sR b1447, sR R1520, sI b1530, sI b1536, sI b1542, sI 2, sU, sU]) rfl ?_
          refine XS.iconst X1520.here hx rfl (hb hby at_339) ?_
          show Sg p e below (T1520.setTop (mkF m 340 #[sI p0, sI p1, sI p2, sI p3, sI p4, sI p5, sI a, sI b, sI c, sI nn, sI r1368, sI r1371, sR f01375, sR b1380, sR b1407, sR b1447, sR R1520, sI b1530, sI b1536, sI b1542, sI 2, sU, sU] [(.int (3 : Int32))])) _
          exact st1596 _ k)
        have Z1598 : n0 ≤ h1596.size := Nat.le_trans Z1523 E1596.1
        have K1599 : Keep h0 h1596 [] := K1524.ext E1596
        have O1600 : Old Z n0 h1596 := O1525.ext E1596
        have v1601 : Arv Z h1596 b1596 k1596 .int (3 : Int32) [(.int (0 : Int32)), (.int (0 : Int32)), (.int (0 : Int32))] (.int (0 : Int32)) := (Arv.new A1596 (by decide)).pad (pad_rep [] (.int (0 : Int32)) 3)
        obtain ⟨cl1602, Ar1602, q1602, S1602, N1602, H1602, G1602⟩ := id v1601
        obtain ⟨T1602, h1602, X1602, e1602, W1602, st1602⟩ := stI X1596 hx hZ e1596 Ar1602 (j := (0 : Int32)) (inb_of S1602 ⟨by decide, by decide⟩) (g := (mkF m 373 #[sI p0, sI p1, sI p2, sI p3, sI p4, sI p5, sI a, sI b, sI c, sI nn, sI r1368, sI r1371, sR f01375, sR b1380, sR b1407, sR b1447, sR R1520, sI b1530, sI b1536, sI b1542, sI 2, sR b1596, sI 0] [(.int b), (.int (0 : Int32)), (.ref b1596)])) rfl rfl (hb hby at_373)
        have v1603 : Arv Z h1602 b1596 k1596 .int (3 : Int32) [(.int b), (.int (0 : Int32)), (.int (0 : Int32))] (.int (0 : Int32)) := Arv.set Ar1602 q1602 S1602 N1602 H1602 G1602 rfl W1602 0 rfl (Nat.le_of_ble_eq_true rfl)
        have P1604 : Rg p e below (T1602.setTop (mkF m 374 #[sI p0, sI p1, sI p2, sI p3, sI p4, sI p5, sI a, sI b, sI c, sI nn, sI r1368, sI r1371, sR f01375, sR b1380, sR b1407, sR b1447, sR R1520, sI b1530, sI b1536, sI b1542, sI 2, sR b1596, sI 0] [])) B0 := fun t k => P1597 t (by
          refine XS.astore X1596.here hx rfl (hb hby at_342) rfl rfl (l' := #[sI p0, sI p1, sI p2, sI p3, sI p4, sI p5, sI a, sI b, sI c, sI nn, sI r1368, sI r1371, sR f01375, sR b1380, sR b1407, sR b1447, sR R1520, sI b1530, sI b1536, sI b1542, sI 2, sR b1596, sU]) rfl ?_
          refine XS.iconst X1596.here hx rfl (hb hby at_344) ?_
          refine XS.istore X1596.here hx rfl (hb hby at_345) rfl (l' := #[sI p0, sI p1, sI p2, sI p3, sI p4, sI p5, sI a, sI b, sI c, sI nn, sI r1368, sI r1371, sR f01375, sR b1380, sR b1407, sR b1447, sR R1520, sI b1530, sI b1536, sI b1542, sI 2, sR b1596, sI 0]) rfl ?_
          refine XS.iload X1596.here hx rfl (hb hby at_347) rfl ?_
          refine XS.ifYes X1596.here hx rfl (pc0 := 349) (pc' := 362) rfl (hb hby at_349) rfl ((if0 _ _).trans (teq (show b1530 = (0 : Int32) from q1544)).1) (by decide) (by decide) ?_
          refine XS.iload X1596.here hx rfl (hb hby at_362) rfl ?_
          refine XS.ifNo X1596.here hx rfl (hb hby at_364) rfl ((if0 _ _).trans (feq (show ¬ (b1536 = (0 : Int32)) from q1546)).1) ?_
          refine XS.aload X1596.here hx rfl (hb hby at_367) rfl rfl ?_
          refine XS.iload X1596.here hx rfl (hb hby at_369) rfl ?_
          refine XS.iload X1596.here hx rfl (hb hby at_371) rfl ?_
          show Sg p e below (T1596.setTop (mkF m 373 #[sI p0, sI p1, sI p2, sI p3, sI p4, sI p5, sI a, sI b, sI c, sI nn, sI r1368, sI r1371, sR f01375, sR b1380, sR b1407, sR b1447, sR R1520, sI b1530, sI b1536, sI b1542, sI 2, sR b1596, sI 0] [(.int b), (.int (0 : Int32)), (.ref b1596)])) _
          exact st1602 _ k)
        have N1605 := Fr.snoc X1602 N1521 g_b1596
        have Z1606 : n0 ≤ h1602.size := Nat.le_trans Z1598 (Keep.of_wr W1602).1
        have K1607 : Keep h0 h1602 [] := K1599.wr W1602 (Or.inr sz_b1596)
        have O1608 : Old Z n0 h1602 := O1600.wr W1602 g_b1596
        obtain ⟨cl1609, Ar1609, q1609, S1609, N1609, H1609, G1609⟩ := id v1603
        obtain ⟨T1609, h1609, X1609, e1609, W1609, st1609⟩ := stI X1602 hx hZ e1602 Ar1609 (j := (1 : Int32)) (inb_of S1609 ⟨by decide, by decide⟩) (g := (mkF m 388 #[sI p0, sI p1, sI p2, sI p3, sI p4, sI p5, sI a, sI b, sI c, sI nn, sI r1368, sI r1371, sR f01375, sR b1380, sR b1407, sR b1447, sR R1520, sI b1530, sI b1536, sI b1542, sI 2, sR b1596, sI 1] [(.int c), (.int (1 : Int32)), (.ref b1596)])) rfl rfl (hb hby at_388)
        have v1610 : Arv Z h1609 b1596 k1596 .int (3 : Int32) [(.int b), (.int c), (.int (0 : Int32))] (.int (0 : Int32)) := Arv.set Ar1609 q1609 S1609 N1609 H1609 G1609 rfl W1609 1 rfl (Nat.le_of_ble_eq_true rfl)
        have P1611 : Rg p e below (T1609.setTop (mkF m 389 #[sI p0, sI p1, sI p2, sI p3, sI p4, sI p5, sI a, sI b, sI c, sI nn, sI r1368, sI r1371, sR f01375, sR b1380, sR b1407, sR b1447, sR R1520, sI b1530, sI b1536, sI b1542, sI 2, sR b1596, sI 1] [])) B0 := fun t k => P1604 t (by
          refine XS.iinc X1602.here hx rfl (hb hby at_374) rfl (l' := #[sI p0, sI p1, sI p2, sI p3, sI p4, sI p5, sI a, sI b, sI c, sI nn, sI r1368, sI r1371, sR f01375, sR b1380, sR b1407, sR b1447, sR R1520, sI b1530, sI b1536, sI b1542, sI 2, sR b1596, sI 1]) rfl ?_
          refine XS.iload X1602.here hx rfl (hb hby at_377) rfl ?_
          refine XS.ifNo X1602.here hx rfl (hb hby at_379) rfl ((if0 _ _).trans (feq (show ¬ (b1542 = (0 : Int32)) from q1577)).1) ?_
          refine XS.aload X1602.here hx rfl (hb hby at_382) rfl rfl ?_
          refine XS.iload X1602.here hx rfl (hb hby at_384) rfl ?_
          refine XS.iload X1602.here hx rfl (hb hby at_386) rfl ?_
          show Sg p e below (T1602.setTop (mkF m 388 #[sI p0, sI p1, sI p2, sI p3, sI p4, sI p5, sI a, sI b, sI c, sI nn, sI r1368, sI r1371, sR f01375, sR b1380, sR b1407, sR b1447, sR R1520, sI b1530, sI b1536, sI b1542, sI 2, sR b1596, sI 1] [(.int c), (.int (1 : Int32)), (.ref b1596)])) _
          exact st1609 _ k)
        have N1612 := Fr.snoc X1609 N1605 g_b1596
        have Z1613 : n0 ≤ h1609.size := Nat.le_trans Z1606 (Keep.of_wr W1609).1
        have K1614 : Keep h0 h1609 [] := K1607.wr W1609 (Or.inr sz_b1596)
        have O1615 : Old Z n0 h1609 := O1608.wr W1609 g_b1596
        have f1616 := (((A1520.ext E1596).other W1602 (Nat.ne_of_lt (Nat.lt_of_lt_of_le A1520.lt (Nat.le_of_eq g1596.symm)))).other W1609 (Nat.ne_of_lt (Nat.lt_of_lt_of_le A1520.lt (Nat.le_of_eq g1596.symm))))
        obtain ⟨cl1617, Ar1617, -, S1617, N1617, -, -⟩ := id f1616
        obtain ⟨cl1618, Ar1618, -, S1618, N1618, H1618, -⟩ := id f1616
        have hin1618 : ¬ ((0 : Int32) < 0 ∨ cl1618.slots.size ≤ ((0 : Int32)).toNatClampNeg) := inb_of S1618 ⟨by decide, by decide⟩
        obtain ⟨cl1619, Ar1619, -, S1619, N1619, H1619, -⟩ := id v1610
        have hin1619 : ¬ ((0 : Int32) < 0 ∨ cl1619.slots.size ≤ ((0 : Int32)).toNatClampNeg) := inb_of S1619 ⟨by decide, by decide⟩
        obtain ⟨cl1620, Ar1620, -, S1620, N1620, H1620, -⟩ := id f1616
        have hin1620 : ¬ ((1 : Int32) < 0 ∨ cl1620.slots.size ≤ ((1 : Int32)).toNatClampNeg) := inb_of S1620 ⟨by decide, by decide⟩
        obtain ⟨cl1621, Ar1621, -, S1621, N1621, H1621, -⟩ := id v1610
        have hin1621 : ¬ ((1 : Int32) < 0 ∨ cl1621.slots.size ≤ ((1 : Int32)).toNatClampNeg) := inb_of S1621 ⟨by decide, by decide⟩
        obtain ⟨fs1622, hr1622, hrun1622, hended1622, hW1622, hsame1622⟩ := X1609.leave (v := some (.int (1 : Int32))) (fun h => by rw [Bd.returns] at h; cases h)
        refine ⟨_, _, pre0 _ (P1611 _ ?_), hrun1622, hended1622, _, _, rfl, ?_, ⟨⟨_, rfl⟩, hW1622, hsame1622.mono (Nat.le_of_ble_eq_true rfl) (Nat.le_of_ble_eq_true rfl)⟩⟩
        · show Sg p e below (T1609.setTop (mkF m 389 #[sI p0, sI p1, sI p2, sI p3, sI p4, sI p5, sI a, sI b, sI c, sI nn, sI r1368, sI r1371, sR f01375, sR b1380, sR b1407, sR b1447, sR R1520, sI b1530, sI b1536, sI b1542, sI 2, sR b1596, sI 1] [])) _
          refine XS.iinc X1609.here hx rfl (hb hby at_389) rfl (l' := #[sI p0, sI p1, sI p2, sI p3, sI p4, sI p5, sI a, sI b, sI c, sI nn, sI r1368, sI r1371, sR f01375, sR b1380, sR b1407, sR b1447, sR R1520, sI b1530, sI b1536, sI b1542, sI 2, sR b1596, sI 2]) rfl ?_
          refine XS.aload X1609.here hx rfl (hb hby at_392) rfl rfl ?_
          show Sg p e below (T1609.setTop (mkF m 394 #[sI p0, sI p1, sI p2, sI p3, sI p4, sI p5, sI a, sI b, sI c, sI nn, sI r1368, sI r1371, sR f01375, sR b1380, sR b1407, sR b1447, sR R1520, sI b1530, sI b1536, sI b1542, sI 2, sR b1596, sI 2] [(.ref R1520)])) _
          refine X1609.arraylength hx (by rw [e1609]; exact Ar1617.1) (State.isArrayOf_alike hZ.alike Ar1617.2.1) (g := (mkF m 394 #[sI p0, sI p1, sI p2, sI p3, sI p4, sI p5, sI a, sI b, sI c, sI nn, sI r1368, sI r1371, sR f01375, sR b1380, sR b1407, sR b1447, sR R1520, sI b1530, sI b1536, sI b1542, sI 2, sR b1596, sI 2] [(.ref R1520)])) rfl rfl (hb hby at_394) _ ?_
          rw [len_of S1617 N1617]
          show Sg p e below (T1609.setTop (mkF m 395 #[sI p0, sI p1, sI p2, sI p3, sI p4, sI p5, sI a, sI b, sI c, sI nn, sI r1368, sI r1371, sR f01375, sR b1380, sR b1407, sR b1447, sR R1520, sI b1530, sI b1536, sI b1542, sI 2, sR b1596, sI 2] [(.int (2 : Int32))])) _
          refine XS.iload X1609.here hx rfl (hb hby at_395) rfl ?_
          refine XS.icmpYes X1609.here hx rfl (pc0 := 397) (pc' := 402) rfl (hb hby at_397) rfl (teq (show (2 : Int32) = (2 : Int32) from (by decide))).1 (by decide) (by decide) ?_
          refine XS.iload X1609.here hx rfl (hb hby at_402) rfl ?_
          refine XS.iconst X1609.here hx rfl (hb hby at_404) ?_
          refine XS.icmpNo X1609.here hx rfl (hb hby at_405) rfl (flt (show ¬ ((2 : Int32) < (1 : Int32)) from (by decide))).1 ?_
          refine XS.aload X1609.here hx rfl (hb hby at_408) rfl rfl ?_
          refine XS.iconst X1609.here hx rfl (hb hby at_410) ?_
          show Sg p e below (T1609.setTop (mkF m 411 #[sI p0, sI p1, sI p2, sI p3, sI p4, sI p5, sI a, sI b, sI c, sI nn, sI r1368, sI r1371, sR f01375, sR b1380, sR b1407, sR b1447, sR R1520, sI b1530, sI b1536, sI b1542, sI 2, sR b1596, sI 2] [(.int (0 : Int32)), (.ref R1520)])) _
          refine X1609.iaload hx (j := (0 : Int32)) (v := (.int b)) (by rw [e1609]; exact Ar1618.1) (State.isArrayOf_alike hZ.alike Ar1618.2.1) Ar1618.2.2 hin1618 (H1618.at hin1618 rfl) (g := (mkF m 411 #[sI p0, sI p1, sI p2, sI p3, sI p4, sI p5, sI a, sI b, sI c, sI nn, sI r1368, sI r1371, sR f01375, sR b1380, sR b1407, sR b1447, sR R1520, sI b1530, sI b1536, sI b1542, sI 2, sR b1596, sI 2] [(.int (0 : Int32)), (.ref R1520)])) rfl rfl (hb hby at_411) _ ?_
          show Sg p e below (T1609.setTop (mkF m 412 #[sI p0, sI p1, sI p2, sI p3, sI p4, sI p5, sI a, sI b, sI c, sI nn, sI r1368, sI r1371, sR f01375, sR b1380, sR b1407, sR b1447, sR R1520, sI b1530, sI b1536, sI b1542, sI 2, sR b1596, sI 2] [(.int b)])) _
          refine XS.aload X1609.here hx rfl (hb hby at_412) rfl rfl ?_
          refine XS.iconst X1609.here hx rfl (hb hby at_414) ?_
          show Sg p e below (T1609.setTop (mkF m 415 #[sI p0, sI p1, sI p2, sI p3, sI p4, sI p5, sI a, sI b, sI c, sI nn, sI r1368, sI r1371, sR f01375, sR b1380, sR b1407, sR b1447, sR R1520, sI b1530, sI b1536, sI b1542, sI 2, sR b1596, sI 2] [(.int (0 : Int32)), (.ref b1596), (.int b)])) _
          refine X1609.iaload hx (j := (0 : Int32)) (v := (.int b)) (by rw [e1609]; exact Ar1619.1) (State.isArrayOf_alike hZ.alike Ar1619.2.1) Ar1619.2.2 hin1619 (H1619.at hin1619 rfl) (g := (mkF m 415 #[sI p0, sI p1, sI p2, sI p3, sI p4, sI p5, sI a, sI b, sI c, sI nn, sI r1368, sI r1371, sR f01375, sR b1380, sR b1407, sR b1447, sR R1520, sI b1530, sI b1536, sI b1542, sI 2, sR b1596, sI 2] [(.int (0 : Int32)), (.ref b1596), (.int b)])) rfl rfl (hb hby at_415) _ ?_
          show Sg p e below (T1609.setTop (mkF m 416 #[sI p0, sI p1, sI p2, sI p3, sI p4, sI p5, sI a, sI b, sI c, sI nn, sI r1368, sI r1371, sR f01375, sR b1380, sR b1407, sR b1447, sR R1520, sI b1530, sI b1536, sI b1542, sI 2, sR b1596, sI 2] [(.int b), (.int b)])) _
          refine XS.icmpNo X1609.here hx rfl (hb hby at_416) rfl (teq (show b = b from (rfl : b = b))).2 ?_
          refine XS.iload X1609.here hx rfl (hb hby at_419) rfl ?_
          refine XS.iconst X1609.here hx rfl (hb hby at_421) ?_
          refine XS.icmpNo X1609.here hx rfl (hb hby at_422) rfl (flt (show ¬ ((2 : Int32) < (2 : Int32)) from (by decide))).1 ?_
          refine XS.aload X1609.here hx rfl (hb hby at_425) rfl rfl ?_
          refine XS.iconst X1609.here hx rfl (hb hby at_427) ?_
          show Sg p e below (T1609.setTop (mkF m 428 #[sI p0, sI p1, sI p2, sI p3, sI p4, sI p5, sI a, sI b, sI c, sI nn, sI r1368, sI r1371, sR f01375, sR b1380, sR b1407, sR b1447, sR R1520, sI b1530, sI b1536, sI b1542, sI 2, sR b1596, sI 2] [(.int (1 : Int32)), (.ref R1520)])) _
          refine X1609.iaload hx (j := (1 : Int32)) (v := (.int c)) (by rw [e1609]; exact Ar1620.1) (State.isArrayOf_alike hZ.alike Ar1620.2.1) Ar1620.2.2 hin1620 (H1620.at hin1620 rfl) (g := (mkF m 428 #[sI p0, sI p1, sI p2, sI p3, sI p4, sI p5, sI a, sI b, sI c, sI nn, sI r1368, sI r1371, sR f01375, sR b1380, sR b1407, sR b1447, sR R1520, sI b1530, sI b1536, sI b1542, sI 2, sR b1596, sI 2] [(.int (1 : Int32)), (.ref R1520)])) rfl rfl (hb hby at_428) _ ?_
          show Sg p e below (T1609.setTop (mkF m 429 #[sI p0, sI p1, sI p2, sI p3, sI p4, sI p5, sI a, sI b, sI c, sI nn, sI r1368, sI r1371, sR f01375, sR b1380, sR b1407, sR b1447, sR R1520, sI b1530, sI b1536, sI b1542, sI 2, sR b1596, sI 2] [(.int c)])) _
          refine XS.aload X1609.here hx rfl (hb hby at_429) rfl rfl ?_
          refine XS.iconst X1609.here hx rfl (hb hby at_431) ?_
          show Sg p e below (T1609.setTop (mkF m 432 #[sI p0, sI p1, sI p2, sI p3, sI p4, sI p5, sI a, sI b, sI c, sI nn, sI r1368, sI r1371, sR f01375, sR b1380, sR b1407, sR b1447, sR R1520, sI b1530, sI b1536, sI b1542, sI 2, sR b1596, sI 2] [(.int (1 : Int32)), (.ref b1596), (.int c)])) _
          refine X1609.iaload hx (j := (1 : Int32)) (v := (.int c)) (by rw [e1609]; exact Ar1621.1) (State.isArrayOf_alike hZ.alike Ar1621.2.1) Ar1621.2.2 hin1621 (H1621.at hin1621 rfl) (g := (mkF m 432 #[sI p0, sI p1, sI p2, sI p3, sI p4, sI p5, sI a, sI b, sI c, sI nn, sI r1368, sI r1371, sR f01375, sR b1380, sR b1407, sR b1447, sR R1520, sI b1530, sI b1536, sI b1542, sI 2, sR b1596, sI 2] [(.int (1 : Int32)), (.ref b1596), (.int c)])) rfl rfl (hb hby at_432) _ ?_
          show Sg p e below (T1609.setTop (mkF m 433 #[sI p0, sI p1, sI p2, sI p3, sI p4, sI p5, sI a, sI b, sI c, sI nn, sI r1368, sI r1371, sR f01375, sR b1380, sR b1407, sR b1447, sR R1520, sI b1530, sI b1536, sI b1542, sI 2, sR b1596, sI 2] [(.int c), (.int c)])) _
          refine XS.icmpNo X1609.here hx rfl (hb hby at_433) rfl (teq (show c = c from (rfl : c = c))).2 ?_
          refine XS.iload X1609.here hx rfl (hb hby at_436) rfl ?_
          refine XS.iconst X1609.here hx rfl (hb hby at_438) ?_
          refine XS.icmpYes X1609.here hx rfl (pc0 := 439) (pc' := 453) rfl (hb hby at_439) rfl (tlt (show (2 : Int32) < (3 : Int32) from (by decide))).1 (by decide) (by decide) ?_
          refine XS.iconst X1609.here hx rfl (hb hby at_453) ?_
          refine XS.goto X1609.here hx rfl (pc0 := 454) (pc' := 458) rfl (hb hby at_454) (by decide) (by decide) ?_
          show Sg p e below (T1609.setTop (mkF m 458 #[sI p0, sI p1, sI p2, sI p3, sI p4, sI p5, sI a, sI b, sI c, sI nn, sI r1368, sI r1371, sR f01375, sR b1380, sR b1407, sR b1447, sR R1520, sI b1530, sI b1536, sI b1542, sI 2, sR b1596, sI 2] [(.int (1 : Int32))])) _
          exact retN X1609 hx (t := .boolean) Bd.returns (by simp) (hb hby at_458) hr1622
        · show Q_law  h0 n0 _ T1609.heap _
          rw [e1609]
          exact ⟨rfl, N1612⟩
  · skip
    have ka := (own_k3f hb1530).1 q1544
    have P1623 : Rg p e below (T1520.setTop (mkF m 317 #[sI p0, sI p1, sI p2, sI p3, sI p4, sI p5, sI a, sI b, sI c, sI nn, sI r1368, sI r1371, sR f01375, sR b1380, sR b1407, sR b1447, sR R1520, sI b1530, sI b1536, sI b1542, sU, sU, sU] [(.int b1536), (.int (1 : Int32))])) B0 := fun t k => P1543 t (by
      refine XS.istore X1520.here hx rfl (hb hby at_303) rfl (l' := #[sI p0, sI p1, sI p2, sI p3, sI p4, sI p5, sI a, sI b, sI c, sI nn, sI r1368, sI r1371, sR f01375, sR b1380, sR b1407, sR b1447, sR R1520, sI b1530, sI b1536, sI b1542, sU, sU, sU]) rfl ?_
      refine XS.iload X1520.here hx rfl (hb hby at_305) rfl ?_
      refine XS.ifNo X1520.here hx rfl (hb hby at_307) rfl ((if0 _ _).trans (feq (show ¬ (b1530 = (0 : Int32)) from q1544)).1) ?_
      refine XS.iconst X1520.here hx rfl (hb hby at_310) ?_
      refine XS.goto X1520.here hx rfl (pc0 := 311) (pc' := 315) rfl (hb hby at_311) (by decide) (by decide) ?_
      refine XS.iload X1520.here hx rfl (hb hby at_315) rfl ?_
      show Sg p e below (T1520.setTop (mkF m 317 #[sI p0, sI p1, sI p2, sI p3, sI p4, sI p5, sI a, sI b, sI c, sI nn, sI r1368, sI r1371, sR f01375, sR b1380, sR b1407, sR b1447, sR R1520, sI b1530, sI b1536, sI b1542, sU, sU, sU] [(.int b1536), (.int (1 : Int32))])) _
      exact k)
    by_cases q1624 : b1536 = (0 : Int32)
    · skip
      have kb := (own_k3f hb1536).2 q1624
      have P1625 : Rg p e below (T1520.setTop (mkF m 328 #[sI p0, sI p1, sI p2, sI p3, sI p4, sI p5, sI a, sI b, sI c, sI nn, sI r1368, sI r1371, sR f01375, sR b1380, sR b1407, sR b1447, sR R1520, sI b1530, sI b1536, sI b1542, sU, sU, sU] [(.int b1542), (.int (1 : Int32))])) B0 := fun t k => P1623 t (by
        refine XS.ifYes X1520.here hx rfl (pc0 := 317) (pc' := 324) rfl (hb hby at_317) rfl ((if0 _ _).trans (teq (show b1536 = (0 : Int32) from q1624)).1) (by decide) (by decide) ?_
        refine XS.iconst X1520.here hx rfl (hb hby at_324) ?_
        refine XS.iadd X1520.here hx rfl (hb hby at_325) rfl ?_
        refine XS.iload X1520.here hx rfl (hb hby at_326) rfl ?_
        show Sg p e below (T1520.setTop (mkF m 328 #[sI p0, sI p1, sI p2, sI p3, sI p4, sI p5, sI a, sI b, sI c, sI nn, sI r1368, sI r1371, sR f01375, sR b1380, sR b1407, sR b1447, sR R1520, sI b1530, sI b1536, sI b1542, sU, sU, sU] [(.int b1542), (.int (1 : Int32))])) _
        exact k)
      by_cases q1626 : b1542 = (0 : Int32)
      · skip
        have kc := (own_k3f hb1542).2 q1626
        have hfl : gs.flatten = [a] := by rw [hfin, if_pos ka, if_neg kb, if_neg kc]; rfl
        rw [hfl] at hN1520 A1520
        have hN8 : N1520 = (1 : Int32) := hN1520
        subst hN8
        obtain ⟨T1627, h1627, k1627, X1627, e1627, E1627, A1627, B1627, st1627⟩ := newPE X1520 hx hZ (own_hw hw 9 rfl) rfl (g := (mkF m 340 #[sI p0, sI p1, sI p2, sI p3, sI p4, sI p5, sI a, sI b, sI c, sI nn, sI r1368, sI r1371, sR f01375, sR b1380, sR b1407, sR b1447, sR R1520, sI b1530, sI b1536, sI b1542, sI 1, sU, sU] [(.int (3 : Int32))])) rfl (hb hby at_340) rfl (by decide) (cap := 3) (by decide) (by decide) (by decide) (by decide) (ad := "[I") (by decide)
        obtain ⟨b1627, g1627⟩ : ∃ z, z = T1520.heap.size := ⟨_, rfl⟩
        rw [← g1627] at A1627 B1627 st1627
        have g_b1627 : n0 ≤ b1627 := Nat.le_trans Z1523 (Nat.le_of_eq g1627.symm)
        have sz_b1627 : h0.size ≤ b1627 := Nat.le_trans K1524.1 (Nat.le_of_eq g1627.symm)
        have P1628 : Rg p e below (T1627.setTop (mkF m 342 #[sI p0, sI p1, sI p2, sI p3, sI p4, sI p5, sI a, sI b, sI c, sI nn, sI r1368, sI r1371, sR f01375, sR b1380, sR b1407, sR b1447, sR R1520, sI b1530, sI b1536, sI b1542, sI 1, sU, sU] [(.ref b1627)])) B0 := fun t k => P1625 t (by
          refine XS.ifYes X1520.here hx rfl (pc0 := 328) (pc' := 335) rfl (hb hby at_328) rfl ((if0 _ _).trans (teq (show b1542 = (0 : Int32) from q1626)).1) (by decide) (by decide) ?_
          refine XS.iconst X1520.here hx rfl (hb hby at_335) ?_
          refine XS.iadd X1520.here hx rfl (hb hby at_336) rfl ?_
          refine XS.istore X1520.here hx rfl (hb hby at_337) rfl (l' := #[sI p0, sI p1, sI p2, sI p3, sI p4, sI p5, sI a, sI b, sI c, sI nn, sI r1368, sI r1371, sR f01375, sR b1380, sR b1407, sR b1447, sR R1520, sI b1530, sI b1536, sI b1542, sI 1, sU, sU]) rfl ?_
          refine XS.iconst X1520.here hx rfl (hb hby at_339) ?_
          show Sg p e below (T1520.setTop (mkF m 340 #[sI p0, sI p1, sI p2, sI p3, sI p4, sI p5, sI a, sI b, sI c, sI nn, sI r1368, sI r1371, sR f01375, sR b1380, sR b1407, sR b1447, sR R1520, sI b1530, sI b1536, sI b1542, sI 1, sU, sU] [(.int (3 : Int32))])) _
          exact st1627 _ k)
        have Z1629 : n0 ≤ h1627.size := Nat.le_trans Z1523 E1627.1
        have K1630 : Keep h0 h1627 [] := K1524.ext E1627
        have O1631 : Old Z n0 h1627 := O1525.ext E1627
        have v1632 : Arv Z h1627 b1627 k1627 .int (3 : Int32) [(.int (0 : Int32)), (.int (0 : Int32)), (.int (0 : Int32))] (.int (0 : Int32)) := (Arv.new A1627 (by decide)).pad (pad_rep [] (.int (0 : Int32)) 3)
        obtain ⟨cl1633, Ar1633, q1633, S1633, N1633, H1633, G1633⟩ := id v1632
        obtain ⟨T1633, h1633, X1633, e1633, W1633, st1633⟩ := stI X1627 hx hZ e1627 Ar1633 (j := (0 : Int32)) (inb_of S1633 ⟨by decide, by decide⟩) (g := (mkF m 358 #[sI p0, sI p1, sI p2, sI p3, sI p4, sI p5, sI a, sI b, sI c, sI nn, sI r1368, sI r1371, sR f01375, sR b1380, sR b1407, sR b1447, sR R1520, sI b1530, sI b1536, sI b1542, sI 1, sR b1627, sI 0] [(.int a), (.int (0 : Int32)), (.ref b1627)])) rfl rfl (hb hby at_358)
        have v1634 : Arv Z h1633 b1627 k1627 .int (3 : Int32) [(.int a), (.int (0 : Int32)), (.int (0 : Int32))] (.int (0 : Int32)) := Arv.set Ar1633 q1633 S1633 N1633 H1633 G1633 rfl W1633 0 rfl (Nat.le_of_ble_eq_true rfl)
        have P1635 : Rg p e below (T1633.setTop (mkF m 359 #[sI p0, sI p1, sI p2, sI p3, sI p4, sI p5, sI a, sI b, sI c, sI nn, sI r1368, sI r1371, sR f01375, sR b1380, sR b1407, sR b1447, sR R1520, sI b1530, sI b1536, sI b1542, sI 1, sR b1627, sI 0] [])) B0 := fun t k => P1628 t (by
          refine XS.astore X1627.here hx rfl (hb hby at_342) rfl rfl (l' := #[sI p0, sI p1, sI p2, sI p3, sI p4, sI p5, sI a, sI b, sI c, sI nn, sI r1368, sI r1371, sR f01375, sR b1380, sR b1407, sR b1447, sR R1520, sI b1530, sI b1536, sI b1542, sI 1, sR b1627, sU]) rfl ?_
          refine XS.iconst X1627.here hx rfl (hb hby at_344) ?_
          refine XS.istore X1627.here hx rfl (hb hby at_345) rfl (l' := #[sI p0, sI p1, sI p2, sI p3, sI p4, sI p5, sI a, sI b, sI c, sI nn, sI r1368, sI r1371, sR f01375, sR b1380, sR b1407, sR b1447, sR R1520, sI b1530, sI b1536, sI b1542, sI 1, sR b1627, sI 0]) rfl ?_
          refine XS.iload X1627.here hx rfl (hb hby at_347) rfl ?_
          refine XS.ifNo X1627.here hx rfl (hb hby at_349) rfl ((if0 _ _).trans (feq (show ¬ (b1530 = (0 : Int32)) from q1544)).1) ?_
          refine XS.aload X1627.here hx rfl (hb hby at_352) rfl rfl ?_
          refine XS.iload X1627.here hx rfl (hb hby at_354) rfl ?_
          refine XS.iload X1627.here hx rfl (hb hby at_356) rfl ?_
          show Sg p e below (T1627.setTop (mkF m 358 #[sI p0, sI p1, sI p2, sI p3, sI p4, sI p5, sI a, sI b, sI c, sI nn, sI r1368, sI r1371, sR f01375, sR b1380, sR b1407, sR b1447, sR R1520, sI b1530, sI b1536, sI b1542, sI 1, sR b1627, sI 0] [(.int a), (.int (0 : Int32)), (.ref b1627)])) _
          exact st1633 _ k)
        have N1636 := Fr.snoc X1633 N1521 g_b1627
        have Z1637 : n0 ≤ h1633.size := Nat.le_trans Z1629 (Keep.of_wr W1633).1
        have K1638 : Keep h0 h1633 [] := K1630.wr W1633 (Or.inr sz_b1627)
        have O1639 : Old Z n0 h1633 := O1631.wr W1633 g_b1627
        have f1640 := ((A1520.ext E1627).other W1633 (Nat.ne_of_lt (Nat.lt_of_lt_of_le A1520.lt (Nat.le_of_eq g1627.symm))))
        obtain ⟨cl1641, Ar1641, -, S1641, N1641, -, -⟩ := id f1640
        obtain ⟨cl1642, Ar1642, -, S1642, N1642, H1642, -⟩ := id f1640
        have hin1642 : ¬ ((0 : Int32) < 0 ∨ cl1642.slots.size ≤ ((0 : Int32)).toNatClampNeg) := inb_of S1642 ⟨by decide, by decide⟩
        obtain ⟨cl1643, Ar1643, -, S1643, N1643, H1643, -⟩ := id v1634
        have hin1643 : ¬ ((0 : Int32) < 0 ∨ cl1643.slots.size ≤ ((0 : Int32)).toNatClampNeg) := inb_of S1643 ⟨by decide, by decide⟩
        obtain ⟨fs1644, hr1644, hrun1644, hended1644, hW1644, hsame1644⟩ := X1633.leave (v := some (.int (1 : Int32))) (fun h => by rw [Bd.returns] at h; cases h)
        refine ⟨_, _, pre0 _ (P1635 _ ?_), hrun1644, hended1644, _, _, rfl, ?_, ⟨⟨_, rfl⟩, hW1644, hsame1644.mono (Nat.le_of_ble_eq_true rfl) (Nat.le_of_ble_eq_true rfl)⟩⟩
        · show Sg p e below (T1633.setTop (mkF m 359 #[sI p0, sI p1, sI p2, sI p3, sI p4, sI p5, sI a, sI b, sI c, sI nn, sI r1368, sI r1371, sR f01375, sR b1380, sR b1407, sR b1447, sR R1520, sI b1530, sI b1536, sI b1542, sI 1, sR b1627, sI 0] [])) _
          refine XS.iinc X1633.here hx rfl (hb hby at_359) rfl (l' := #[sI p0, sI p1, sI p2, sI p3, sI p4, sI p5, sI a, sI b, sI c, sI nn, sI r1368, sI r1371, sR f01375, sR b1380, sR b1407, sR b1447, sR R1520, sI b1530, sI b1536, sI b1542, sI 1, sR b1627, sI 1]) rfl ?_
          refine XS.iload X1633.here hx rfl (hb hby at_362) rfl ?_
          refine XS.ifYes X1633.here hx rfl (pc0 := 364) (pc' := 377) rfl (hb hby at_364) rfl ((if0 _ _).trans (teq (show b1536 = (0 : Int32) from q1624)).1) (by decide) (by decide) ?_
          refine XS.iload X1633.here hx rfl (hb hby at_377) rfl ?_
          refine XS.ifYes X1633.here hx rfl (pc0 := 379) (pc' := 392) rfl (hb hby at_379) rfl ((if0 _ _).trans (teq (show b1542 = (0 : Int32) from q1626)).1) (by decide) (by decide) ?_
          refine XS.aload X1633.here hx rfl (hb hby at_392) rfl rfl ?_
          show Sg p e below (T1633.setTop (mkF m 394 #[sI p0, sI p1, sI p2, sI p3, sI p4, sI p5, sI a, sI b, sI c, sI nn, sI r1368, sI r1371, sR f01375, sR b1380, sR b1407, sR b1447, sR R1520, sI b1530, sI b1536, sI b1542, sI 1, sR b1627, sI 1] [(.ref R1520)])) _
          refine X1633.arraylength hx (by rw [e1633]; exact Ar1641.1) (State.isArrayOf_alike hZ.alike Ar1641.2.1) (g := (mkF m 394 #[sI p0, sI p1, sI p2, sI p3, sI p4, sI p5, sI a, sI b, sI c, sI nn, sI r1368, sI r1371, sR f01375, sR b1380, sR b1407, sR b1447, sR R1520, sI b1530, sI b1536, sI b1542, sI 1, sR b1627, sI 1] [(.ref R1520)])) rfl rfl (hb hby at_394) _ ?_
          rw [len_of S1641 N1641]
          show Sg p e below (T1633.setTop (mkF m 395 #[sI p0, sI p1, sI p2, sI p3, sI p4, sI p5, sI a, sI b, sI c, sI nn, sI r1368, sI r1371, sR f01375, sR b1380, sR b1407, sR b1447, sR R1520, sI b1530, sI b1536, sI b1542, sI 1, sR b1627, sI 1] [(.int (1 : Int32))])) _
          refine XS.iload X1633.here hx rfl (hb hby at_395) rfl ?_
          refine XS.icmpYes X1633.here hx rfl (pc0 := 397) (pc' := 402) rfl (hb hby at_397) rfl (teq (show (1 : Int32) = (1 : Int32) from (by decide))).1 (by decide) (by decide) ?_
          refine XS.iload X1633.here hx rfl (hb hby at_402) rfl ?_
          refine XS.iconst X1633.here hx rfl (hb hby at_404) ?_
          refine XS.icmpNo X1633.here hx rfl (hb hby at_405) rfl (flt (show ¬ ((1 : Int32) < (1 : Int32)) from (by decide))).1 ?_
          refine XS.aload X1633.here hx rfl (hb hby at_408) rfl rfl ?_
          refine XS.iconst X1633.here hx rfl (hb hby at_410) ?_
          show Sg p e below (T1633.setTop (mkF m 411 #[sI p0, sI p1, sI p2, sI p3, sI p4, sI p5, sI a, sI b, sI c, sI nn, sI r1368, sI r1371, sR f01375, sR b1380, sR b1407, sR b1447, sR R1520, sI b1530, sI b1536, sI b1542, sI 1, sR b1627, sI 1] [(.int (0 : Int32)), (.ref R1520)])) _
          refine X1633.iaload hx (j := (0 : Int32)) (v := (.int a)) (by rw [e1633]; exact Ar1642.1) (State.isArrayOf_alike hZ.alike Ar1642.2.1) Ar1642.2.2 hin1642 (H1642.at hin1642 rfl) (g := (mkF m 411 #[sI p0, sI p1, sI p2, sI p3, sI p4, sI p5, sI a, sI b, sI c, sI nn, sI r1368, sI r1371, sR f01375, sR b1380, sR b1407, sR b1447, sR R1520, sI b1530, sI b1536, sI b1542, sI 1, sR b1627, sI 1] [(.int (0 : Int32)), (.ref R1520)])) rfl rfl (hb hby at_411) _ ?_
          show Sg p e below (T1633.setTop (mkF m 412 #[sI p0, sI p1, sI p2, sI p3, sI p4, sI p5, sI a, sI b, sI c, sI nn, sI r1368, sI r1371, sR f01375, sR b1380, sR b1407, sR b1447, sR R1520, sI b1530, sI b1536, sI b1542, sI 1, sR b1627, sI 1] [(.int a)])) _
          refine XS.aload X1633.here hx rfl (hb hby at_412) rfl rfl ?_
          refine XS.iconst X1633.here hx rfl (hb hby at_414) ?_
          show Sg p e below (T1633.setTop (mkF m 415 #[sI p0, sI p1, sI p2, sI p3, sI p4, sI p5, sI a, sI b, sI c, sI nn, sI r1368, sI r1371, sR f01375, sR b1380, sR b1407, sR b1447, sR R1520, sI b1530, sI b1536, sI b1542, sI 1, sR b1627, sI 1] [(.int (0 : Int32)), (.ref b1627), (.int a)])) _
          refine X1633.iaload hx (j := (0 : Int32)) (v := (.int a)) (by rw [e1633]; exact Ar1643.1) (State.isArrayOf_alike hZ.alike Ar1643.2.1) Ar1643.2.2 hin1643 (H1643.at hin1643 rfl) (g := (mkF m 415 #[sI p0, sI p1, sI p2, sI p3, sI p4, sI p5, sI a, sI b, sI c, sI nn, sI r1368, sI r1371, sR f01375, sR b1380, sR b1407, sR b1447, sR R1520, sI b1530, sI b1536, sI b1542, sI 1, sR b1627, sI 1] [(.int (0 : Int32)), (.ref b1627), (.int a)])) rfl rfl (hb hby at_415) _ ?_
          show Sg p e below (T1633.setTop (mkF m 416 #[sI p0, sI p1, sI p2, sI p3, sI p4, sI p5, sI a, sI b, sI c, sI nn, sI r1368, sI r1371, sR f01375, sR b1380, sR b1407, sR b1447, sR R1520, sI b1530, sI b1536, sI b1542, sI 1, sR b1627, sI 1] [(.int a), (.int a)])) _
          refine XS.icmpNo X1633.here hx rfl (hb hby at_416) rfl (teq (show a = a from (rfl : a = a))).2 ?_
          refine XS.iload X1633.here hx rfl (hb hby at_419) rfl ?_
          refine XS.iconst X1633.here hx rfl (hb hby at_421) ?_
          refine XS.icmpYes X1633.here hx rfl (pc0 := 422) (pc' := 436) rfl (hb hby at_422) rfl (tlt (show (1 : Int32) < (2 : Int32) from (by decide))).1 (by decide) (by decide) ?_
          refine XS.iload X1633.here hx rfl (hb hby at_436) rfl ?_
          refine XS.iconst X1633.here hx rfl (hb hby at_438) ?_
          refine XS.icmpYes X1633.here hx rfl (pc0 := 439) (pc' := 453) rfl (hb hby at_439) rfl (tlt (show (1 : Int32) < (3 : Int32) from (by decide))).1 (by decide) (by decide) ?_
          refine XS.iconst X1633.here hx rfl (hb hby at_453) ?_
          refine XS.goto X1633.here hx rfl (pc0 := 454) (pc' := 458) rfl (hb hby at_454) (by decide) (by decide) ?_
          show Sg p e below (T1633.setTop (mkF m 458 #[sI p0, sI p1, sI p2, sI p3, sI p4, sI p5, sI a, sI b, sI c, sI nn, sI r1368, sI r1371, sR f01375, sR b1380, sR b1407, sR b1447, sR R1520, sI b1530, sI b1536, sI b1542, sI 1, sR b1627, sI 1] [(.int (1 : Int32))])) _
          exact retN X1633 hx (t := .boolean) Bd.returns (by simp) (hb hby at_458) hr1644
        · show Q_law  h0 n0 _ T1633.heap _
          rw [e1633]
          exact ⟨rfl, N1636⟩
      · skip
        have kc := (own_k3f hb1542).1 q1626
        have hfl : gs.flatten = [a, c] := by rw [hfin, if_pos ka, if_neg kb, if_pos kc]; rfl
        rw [hfl] at hN1520 A1520
        have hN8 : N1520 = (2 : Int32) := hN1520
        subst hN8
        obtain ⟨T1645, h1645, k1645, X1645, e1645, E1645, A1645, B1645, st1645⟩ := newPE X1520 hx hZ (own_hw hw 9 rfl) rfl (g := (mkF m 340 #[sI p0, sI p1, sI p2, sI p3, sI p4, sI p5, sI a, sI b, sI c, sI nn, sI r1368, sI r1371, sR f01375, sR b1380, sR b1407, sR b1447, sR R1520, sI b1530, sI b1536, sI b1542, sI 2, sU, sU] [(.int (3 : Int32))])) rfl (hb hby at_340) rfl (by decide) (cap := 3) (by decide) (by decide) (by decide) (by decide) (ad := "[I") (by decide)
        obtain ⟨b1645, g1645⟩ : ∃ z, z = T1520.heap.size := ⟨_, rfl⟩
        rw [← g1645] at A1645 B1645 st1645
        have g_b1645 : n0 ≤ b1645 := Nat.le_trans Z1523 (Nat.le_of_eq g1645.symm)
        have sz_b1645 : h0.size ≤ b1645 := Nat.le_trans K1524.1 (Nat.le_of_eq g1645.symm)
        have P1646 : Rg p e below (T1645.setTop (mkF m 342 #[sI p0, sI p1, sI p2, sI p3, sI p4, sI p5, sI a, sI b, sI c, sI nn, sI r1368, sI r1371, sR f01375, sR b1380, sR b1407, sR b1447, sR R1520, sI b1530, sI b1536, sI b1542, sI 2, sU, sU] [(.ref b1645)])) B0 := fun t k => P1625 t (by
          refine XS.ifNo X1520.here hx rfl (hb hby at_328) rfl ((if0 _ _).trans (feq (show ¬ (b1542 = (0 : Int32)) from q1626)).1) ?_
          refine XS.iconst X1520.here hx rfl (hb hby at_331) ?_
          refine XS.goto X1520.here hx rfl (pc0 := 332) (pc' := 336) rfl (hb hby at_332) (by decide) (by decide) ?_
          refine XS.iadd X1520.here hx rfl (hb hby at_336) rfl ?_
          refine XS.istore X1520.here hx rfl (hb hby at_337) rfl (l' := #[sI p0, sI p1, sI p2, sI p3, sI p4, sI p5, sI a, sI b, sI c, sI nn, sI r1368, sI r1371, sR f01375, sR b1380, sR b1407, sR b1447, sR R1520, sI b1530, sI b1536, sI b1542, sI 2, sU, sU]) rfl ?_
          refine XS.iconst X1520.here hx rfl (hb hby at_339) ?_
          show Sg p e below (T1520.setTop (mkF m 340 #[sI p0, sI p1, sI p2, sI p3, sI p4, sI p5, sI a, sI b, sI c, sI nn, sI r1368, sI r1371, sR f01375, sR b1380, sR b1407, sR b1447, sR R1520, sI b1530, sI b1536, sI b1542, sI 2, sU, sU] [(.int (3 : Int32))])) _
          exact st1645 _ k)
        have Z1647 : n0 ≤ h1645.size := Nat.le_trans Z1523 E1645.1
        have K1648 : Keep h0 h1645 [] := K1524.ext E1645
        have O1649 : Old Z n0 h1645 := O1525.ext E1645
        have v1650 : Arv Z h1645 b1645 k1645 .int (3 : Int32) [(.int (0 : Int32)), (.int (0 : Int32)), (.int (0 : Int32))] (.int (0 : Int32)) := (Arv.new A1645 (by decide)).pad (pad_rep [] (.int (0 : Int32)) 3)
        obtain ⟨cl1651, Ar1651, q1651, S1651, N1651, H1651, G1651⟩ := id v1650
        obtain ⟨T1651, h1651, X1651, e1651, W1651, st1651⟩ := stI X1645 hx hZ e1645 Ar1651 (j := (0 : Int32)) (inb_of S1651 ⟨by decide, by decide⟩) (g := (mkF m 358 #[sI p0, sI p1, sI p2, sI p3, sI p4, sI p5, sI a, sI b, sI c, sI nn, sI r1368, sI r1371, sR f01375, sR b1380, sR b1407, sR b1447, sR R1520, sI b1530, sI b1536, sI b1542, sI 2, sR b1645, sI 0] [(.int a), (.int (0 : Int32)), (.ref b1645)])) rfl rfl (hb hby at_358)
        have v1652 : Arv Z h1651 b1645 k1645 .int (3 : Int32) [(.int a), (.int (0 : Int32)), (.int (0 : Int32))] (.int (0 : Int32)) := Arv.set Ar1651 q1651 S1651 N1651 H1651 G1651 rfl W1651 0 rfl (Nat.le_of_ble_eq_true rfl)
        have P1653 : Rg p e below (T1651.setTop (mkF m 359 #[sI p0, sI p1, sI p2, sI p3, sI p4, sI p5, sI a, sI b, sI c, sI nn, sI r1368, sI r1371, sR f01375, sR b1380, sR b1407, sR b1447, sR R1520, sI b1530, sI b1536, sI b1542, sI 2, sR b1645, sI 0] [])) B0 := fun t k => P1646 t (by
          refine XS.astore X1645.here hx rfl (hb hby at_342) rfl rfl (l' := #[sI p0, sI p1, sI p2, sI p3, sI p4, sI p5, sI a, sI b, sI c, sI nn, sI r1368, sI r1371, sR f01375, sR b1380, sR b1407, sR b1447, sR R1520, sI b1530, sI b1536, sI b1542, sI 2, sR b1645, sU]) rfl ?_
          refine XS.iconst X1645.here hx rfl (hb hby at_344) ?_
          refine XS.istore X1645.here hx rfl (hb hby at_345) rfl (l' := #[sI p0, sI p1, sI p2, sI p3, sI p4, sI p5, sI a, sI b, sI c, sI nn, sI r1368, sI r1371, sR f01375, sR b1380, sR b1407, sR b1447, sR R1520, sI b1530, sI b1536, sI b1542, sI 2, sR b1645, sI 0]) rfl ?_
          refine XS.iload X1645.here hx rfl (hb hby at_347) rfl ?_
          refine XS.ifNo X1645.here hx rfl (hb hby at_349) rfl ((if0 _ _).trans (feq (show ¬ (b1530 = (0 : Int32)) from q1544)).1) ?_
          refine XS.aload X1645.here hx rfl (hb hby at_352) rfl rfl ?_
          refine XS.iload X1645.here hx rfl (hb hby at_354) rfl ?_
          refine XS.iload X1645.here hx rfl (hb hby at_356) rfl ?_
          show Sg p e below (T1645.setTop (mkF m 358 #[sI p0, sI p1, sI p2, sI p3, sI p4, sI p5, sI a, sI b, sI c, sI nn, sI r1368, sI r1371, sR f01375, sR b1380, sR b1407, sR b1447, sR R1520, sI b1530, sI b1536, sI b1542, sI 2, sR b1645, sI 0] [(.int a), (.int (0 : Int32)), (.ref b1645)])) _
          exact st1651 _ k)
        have N1654 := Fr.snoc X1651 N1521 g_b1645
        have Z1655 : n0 ≤ h1651.size := Nat.le_trans Z1647 (Keep.of_wr W1651).1
        have K1656 : Keep h0 h1651 [] := K1648.wr W1651 (Or.inr sz_b1645)
        have O1657 : Old Z n0 h1651 := O1649.wr W1651 g_b1645
        obtain ⟨cl1658, Ar1658, q1658, S1658, N1658, H1658, G1658⟩ := id v1652
        obtain ⟨T1658, h1658, X1658, e1658, W1658, st1658⟩ := stI X1651 hx hZ e1651 Ar1658 (j := (1 : Int32)) (inb_of S1658 ⟨by decide, by decide⟩) (g := (mkF m 388 #[sI p0, sI p1, sI p2, sI p3, sI p4, sI p5, sI a, sI b, sI c, sI nn, sI r1368, sI r1371, sR f01375, sR b1380, sR b1407, sR b1447, sR R1520, sI b1530, sI b1536, sI b1542, sI 2, sR b1645, sI 1] [(.int c), (.int (1 : Int32)), (.ref b1645)])) rfl rfl (hb hby at_388)
        have v1659 : Arv Z h1658 b1645 k1645 .int (3 : Int32) [(.int a), (.int c), (.int (0 : Int32))] (.int (0 : Int32)) := Arv.set Ar1658 q1658 S1658 N1658 H1658 G1658 rfl W1658 1 rfl (Nat.le_of_ble_eq_true rfl)
        have P1660 : Rg p e below (T1658.setTop (mkF m 389 #[sI p0, sI p1, sI p2, sI p3, sI p4, sI p5, sI a, sI b, sI c, sI nn, sI r1368, sI r1371, sR f01375, sR b1380, sR b1407, sR b1447, sR R1520, sI b1530, sI b1536, sI b1542, sI 2, sR b1645, sI 1] [])) B0 := fun t k => P1653 t (by
          refine XS.iinc X1651.here hx rfl (hb hby at_359) rfl (l' := #[sI p0, sI p1, sI p2, sI p3, sI p4, sI p5, sI a, sI b, sI c, sI nn, sI r1368, sI r1371, sR f01375, sR b1380, sR b1407, sR b1447, sR R1520, sI b1530, sI b1536, sI b1542, sI 2, sR b1645, sI 1]) rfl ?_
          refine XS.iload X1651.here hx rfl (hb hby at_362) rfl ?_
          refine XS.ifYes X1651.here hx rfl (pc0 := 364) (pc' := 377) rfl (hb hby at_364) rfl ((if0 _ _).trans (teq (show b1536 = (0 : Int32) from q1624)).1) (by decide) (by decide) ?_
          refine XS.iload X1651.here hx rfl (hb hby at_377) rfl ?_
          refine XS.ifNo X1651.here hx rfl (hb hby at_379) rfl ((if0 _ _).trans (feq (show ¬ (b1542 = (0 : Int32)) from q1626)).1) ?_
          refine XS.aload X1651.here hx rfl (hb hby at_382) rfl rfl ?_
          refine XS.iload X1651.here hx rfl (hb hby at_384) rfl ?_
          refine XS.iload X1651.here hx rfl (hb hby at_386) rfl ?_
          show Sg p e below (T1651.setTop (mkF m 388 #[sI p0, sI p1, sI p2, sI p3, sI p4, sI p5, sI a, sI b, sI c, sI nn, sI r1368, sI r1371, sR f01375, sR b1380, sR b1407, sR b1447, sR R1520, sI b1530, sI b1536, sI b1542, sI 2, sR b1645, sI 1] [(.int c), (.int (1 : Int32)), (.ref b1645)])) _
          exact st1658 _ k)
        have N1661 := Fr.snoc X1658 N1654 g_b1645
        have Z1662 : n0 ≤ h1658.size := Nat.le_trans Z1655 (Keep.of_wr W1658).1
        have K1663 : Keep h0 h1658 [] := K1656.wr W1658 (Or.inr sz_b1645)
        have O1664 : Old Z n0 h1658 := O1657.wr W1658 g_b1645
        have f1665 := (((A1520.ext E1645).other W1651 (Nat.ne_of_lt (Nat.lt_of_lt_of_le A1520.lt (Nat.le_of_eq g1645.symm)))).other W1658 (Nat.ne_of_lt (Nat.lt_of_lt_of_le A1520.lt (Nat.le_of_eq g1645.symm))))
        obtain ⟨cl1666, Ar1666, -, S1666, N1666, -, -⟩ := id f1665
        obtain ⟨cl1667, Ar1667, -, S1667, N1667, H1667, -⟩ := id f1665
        have hin1667 : ¬ ((0 : Int32) < 0 ∨ cl1667.slots.size ≤ ((0 : Int32)).toNatClampNeg) := inb_of S1667 ⟨by decide, by decide⟩
        obtain ⟨cl1668, Ar1668, -, S1668, N1668, H1668, -⟩ := id v1659
        have hin1668 : ¬ ((0 : Int32) < 0 ∨ cl1668.slots.size ≤ ((0 : Int32)).toNatClampNeg) := inb_of S1668 ⟨by decide, by decide⟩
        obtain ⟨cl1669, Ar1669, -, S1669, N1669, H1669, -⟩ := id f1665
        have hin1669 : ¬ ((1 : Int32) < 0 ∨ cl1669.slots.size ≤ ((1 : Int32)).toNatClampNeg) := inb_of S1669 ⟨by decide, by decide⟩
        obtain ⟨cl1670, Ar1670, -, S1670, N1670, H1670, -⟩ := id v1659
        have hin1670 : ¬ ((1 : Int32) < 0 ∨ cl1670.slots.size ≤ ((1 : Int32)).toNatClampNeg) := inb_of S1670 ⟨by decide, by decide⟩
        obtain ⟨fs1671, hr1671, hrun1671, hended1671, hW1671, hsame1671⟩ := X1658.leave (v := some (.int (1 : Int32))) (fun h => by rw [Bd.returns] at h; cases h)
        refine ⟨_, _, pre0 _ (P1660 _ ?_), hrun1671, hended1671, _, _, rfl, ?_, ⟨⟨_, rfl⟩, hW1671, hsame1671.mono (Nat.le_of_ble_eq_true rfl) (Nat.le_of_ble_eq_true rfl)⟩⟩
        · show Sg p e below (T1658.setTop (mkF m 389 #[sI p0, sI p1, sI p2, sI p3, sI p4, sI p5, sI a, sI b, sI c, sI nn, sI r1368, sI r1371, sR f01375, sR b1380, sR b1407, sR b1447, sR R1520, sI b1530, sI b1536, sI b1542, sI 2, sR b1645, sI 1] [])) _
          refine XS.iinc X1658.here hx rfl (hb hby at_389) rfl (l' := #[sI p0, sI p1, sI p2, sI p3, sI p4, sI p5, sI a, sI b, sI c, sI nn, sI r1368, sI r1371, sR f01375, sR b1380, sR b1407, sR b1447, sR R1520, sI b1530, sI b1536, sI b1542, sI 2, sR b1645, sI 2]) rfl ?_
          refine XS.aload X1658.here hx rfl (hb hby at_392) rfl rfl ?_
          show Sg p e below (T1658.setTop (mkF m 394 #[sI p0, sI p1, sI p2, sI p3, sI p4, sI p5, sI a, sI b, sI c, sI nn, sI r1368, sI r1371, sR f01375, sR b1380, sR b1407, sR b1447, sR R1520, sI b1530, sI b1536, sI b1542, sI 2, sR b1645, sI 2] [(.ref R1520)])) _
          refine X1658.arraylength hx (by rw [e1658]; exact Ar1666.1) (State.isArrayOf_alike hZ.alike Ar1666.2.1) (g := (mkF m 394 #[sI p0, sI p1, sI p2, sI p3, sI p4, sI p5, sI a, sI b, sI c, sI nn, sI r1368, sI r1371, sR f01375, sR b1380, sR b1407, sR b1447, sR R1520, sI b1530, sI b1536, sI b1542, sI 2, sR b1645, sI 2] [(.ref R1520)])) rfl rfl (hb hby at_394) _ ?_
          rw [len_of S1666 N1666]
          show Sg p e below (T1658.setTop (mkF m 395 #[sI p0, sI p1, sI p2, sI p3, sI p4, sI p5, sI a, sI b, sI c, sI nn, sI r1368, sI r1371, sR f01375, sR b1380, sR b1407, sR b1447, sR R1520, sI b1530, sI b1536, sI b1542, sI 2, sR b1645, sI 2] [(.int (2 : Int32))])) _
          refine XS.iload X1658.here hx rfl (hb hby at_395) rfl ?_
          refine XS.icmpYes X1658.here hx rfl (pc0 := 397) (pc' := 402) rfl (hb hby at_397) rfl (teq (show (2 : Int32) = (2 : Int32) from (by decide))).1 (by decide) (by decide) ?_
          refine XS.iload X1658.here hx rfl (hb hby at_402) rfl ?_
          refine XS.iconst X1658.here hx rfl (hb hby at_404) ?_
          refine XS.icmpNo X1658.here hx rfl (hb hby at_405) rfl (flt (show ¬ ((2 : Int32) < (1 : Int32)) from (by decide))).1 ?_
          refine XS.aload X1658.here hx rfl (hb hby at_408) rfl rfl ?_
          refine XS.iconst X1658.here hx rfl (hb hby at_410) ?_
          show Sg p e below (T1658.setTop (mkF m 411 #[sI p0, sI p1, sI p2, sI p3, sI p4, sI p5, sI a, sI b, sI c, sI nn, sI r1368, sI r1371, sR f01375, sR b1380, sR b1407, sR b1447, sR R1520, sI b1530, sI b1536, sI b1542, sI 2, sR b1645, sI 2] [(.int (0 : Int32)), (.ref R1520)])) _
          refine X1658.iaload hx (j := (0 : Int32)) (v := (.int a)) (by rw [e1658]; exact Ar1667.1) (State.isArrayOf_alike hZ.alike Ar1667.2.1) Ar1667.2.2 hin1667 (H1667.at hin1667 rfl) (g := (mkF m 411 #[sI p0, sI p1, sI p2, sI p3, sI p4, sI p5, sI a, sI b, sI c, sI nn, sI r1368, sI r1371, sR f01375, sR b1380, sR b1407, sR b1447, sR R1520, sI b1530, sI b1536, sI b1542, sI 2, sR b1645, sI 2] [(.int (0 : Int32)), (.ref R1520)])) rfl rfl (hb hby at_411) _ ?_
          show Sg p e below (T1658.setTop (mkF m 412 #[sI p0, sI p1, sI p2, sI p3, sI p4, sI p5, sI a, sI b, sI c, sI nn, sI r1368, sI r1371, sR f01375, sR b1380, sR b1407, sR b1447, sR R1520, sI b1530, sI b1536, sI b1542, sI 2, sR b1645, sI 2] [(.int a)])) _
          refine XS.aload X1658.here hx rfl (hb hby at_412) rfl rfl ?_
          refine XS.iconst X1658.here hx rfl (hb hby at_414) ?_
          show Sg p e below (T1658.setTop (mkF m 415 #[sI p0, sI p1, sI p2, sI p3, sI p4, sI p5, sI a, sI b, sI c, sI nn, sI r1368, sI r1371, sR f01375, sR b1380, sR b1407, sR b1447, sR R1520, sI b1530, sI b1536, sI b1542, sI 2, sR b1645, sI 2] [(.int (0 : Int32)), (.ref b1645), (.int a)])) _
          refine X1658.iaload hx (j := (0 : Int32)) (v := (.int a)) (by rw [e1658]; exact Ar1668.1) (State.isArrayOf_alike hZ.alike Ar1668.2.1) Ar1668.2.2 hin1668 (H1668.at hin1668 rfl) (g := (mkF m 415 #[sI p0, sI p1, sI p2, sI p3, sI p4, sI p5, sI a, sI b, sI c, sI nn, sI r1368, sI r1371, sR f01375, sR b1380, sR b1407, sR b1447, sR R1520, sI b1530, sI b1536, sI b1542, sI 2, sR b1645, sI 2] [(.int (0 : Int32)), (.ref b1645), (.int a)])) rfl rfl (hb hby at_415) _ ?_
          show Sg p e below (T1658.setTop (mkF m 416 #[sI p0, sI p1, sI p2, sI p3, sI p4, sI p5, sI a, sI b, sI c, sI nn, sI r1368, sI r1371, sR f01375, sR b1380, sR b1407, sR b1447, sR R1520, sI b1530, sI b1536, sI b1542, sI 2, sR b1645, sI 2] [(.int a), (.int a)])) _
          refine XS.icmpNo X1658.here hx rfl (hb hby at_416) rfl (teq (show a = a from (rfl : a = a))).2 ?_
          refine XS.iload X1658.here hx rfl (hb hby at_419) rfl ?_
          refine XS.iconst X1658.here hx rfl (hb hby at_421) ?_
          refine XS.icmpNo X1658.here hx rfl (hb hby at_422) rfl (flt (show ¬ ((2 : Int32) < (2 : Int32)) from (by decide))).1 ?_
          refine XS.aload X1658.here hx rfl (hb hby at_425) rfl rfl ?_
          refine XS.iconst X1658.here hx rfl (hb hby at_427) ?_
          show Sg p e below (T1658.setTop (mkF m 428 #[sI p0, sI p1, sI p2, sI p3, sI p4, sI p5, sI a, sI b, sI c, sI nn, sI r1368, sI r1371, sR f01375, sR b1380, sR b1407, sR b1447, sR R1520, sI b1530, sI b1536, sI b1542, sI 2, sR b1645, sI 2] [(.int (1 : Int32)), (.ref R1520)])) _
          refine X1658.iaload hx (j := (1 : Int32)) (v := (.int c)) (by rw [e1658]; exact Ar1669.1) (State.isArrayOf_alike hZ.alike Ar1669.2.1) Ar1669.2.2 hin1669 (H1669.at hin1669 rfl) (g := (mkF m 428 #[sI p0, sI p1, sI p2, sI p3, sI p4, sI p5, sI a, sI b, sI c, sI nn, sI r1368, sI r1371, sR f01375, sR b1380, sR b1407, sR b1447, sR R1520, sI b1530, sI b1536, sI b1542, sI 2, sR b1645, sI 2] [(.int (1 : Int32)), (.ref R1520)])) rfl rfl (hb hby at_428) _ ?_
          show Sg p e below (T1658.setTop (mkF m 429 #[sI p0, sI p1, sI p2, sI p3, sI p4, sI p5, sI a, sI b, sI c, sI nn, sI r1368, sI r1371, sR f01375, sR b1380, sR b1407, sR b1447, sR R1520, sI b1530, sI b1536, sI b1542, sI 2, sR b1645, sI 2] [(.int c)])) _
          refine XS.aload X1658.here hx rfl (hb hby at_429) rfl rfl ?_
          refine XS.iconst X1658.here hx rfl (hb hby at_431) ?_
          show Sg p e below (T1658.setTop (mkF m 432 #[sI p0, sI p1, sI p2, sI p3, sI p4, sI p5, sI a, sI b, sI c, sI nn, sI r1368, sI r1371, sR f01375, sR b1380, sR b1407, sR b1447, sR R1520, sI b1530, sI b1536, sI b1542, sI 2, sR b1645, sI 2] [(.int (1 : Int32)), (.ref b1645), (.int c)])) _
          refine X1658.iaload hx (j := (1 : Int32)) (v := (.int c)) (by rw [e1658]; exact Ar1670.1) (State.isArrayOf_alike hZ.alike Ar1670.2.1) Ar1670.2.2 hin1670 (H1670.at hin1670 rfl) (g := (mkF m 432 #[sI p0, sI p1, sI p2, sI p3, sI p4, sI p5, sI a, sI b, sI c, sI nn, sI r1368, sI r1371, sR f01375, sR b1380, sR b1407, sR b1447, sR R1520, sI b1530, sI b1536, sI b1542, sI 2, sR b1645, sI 2] [(.int (1 : Int32)), (.ref b1645), (.int c)])) rfl rfl (hb hby at_432) _ ?_
          show Sg p e below (T1658.setTop (mkF m 433 #[sI p0, sI p1, sI p2, sI p3, sI p4, sI p5, sI a, sI b, sI c, sI nn, sI r1368, sI r1371, sR f01375, sR b1380, sR b1407, sR b1447, sR R1520, sI b1530, sI b1536, sI b1542, sI 2, sR b1645, sI 2] [(.int c), (.int c)])) _
          refine XS.icmpNo X1658.here hx rfl (hb hby at_433) rfl (teq (show c = c from (rfl : c = c))).2 ?_
          refine XS.iload X1658.here hx rfl (hb hby at_436) rfl ?_
          refine XS.iconst X1658.here hx rfl (hb hby at_438) ?_
          refine XS.icmpYes X1658.here hx rfl (pc0 := 439) (pc' := 453) rfl (hb hby at_439) rfl (tlt (show (2 : Int32) < (3 : Int32) from (by decide))).1 (by decide) (by decide) ?_
          refine XS.iconst X1658.here hx rfl (hb hby at_453) ?_
          refine XS.goto X1658.here hx rfl (pc0 := 454) (pc' := 458) rfl (hb hby at_454) (by decide) (by decide) ?_
          show Sg p e below (T1658.setTop (mkF m 458 #[sI p0, sI p1, sI p2, sI p3, sI p4, sI p5, sI a, sI b, sI c, sI nn, sI r1368, sI r1371, sR f01375, sR b1380, sR b1407, sR b1447, sR R1520, sI b1530, sI b1536, sI b1542, sI 2, sR b1645, sI 2] [(.int (1 : Int32))])) _
          exact retN X1658 hx (t := .boolean) Bd.returns (by simp) (hb hby at_458) hr1671
        · show Q_law  h0 n0 _ T1658.heap _
          rw [e1658]
          exact ⟨rfl, N1661⟩
    · skip
      have kb := (own_k3f hb1536).1 q1624
      have P1672 : Rg p e below (T1520.setTop (mkF m 328 #[sI p0, sI p1, sI p2, sI p3, sI p4, sI p5, sI a, sI b, sI c, sI nn, sI r1368, sI r1371, sR f01375, sR b1380, sR b1407, sR b1447, sR R1520, sI b1530, sI b1536, sI b1542, sU, sU, sU] [(.int b1542), (.int (2 : Int32))])) B0 := fun t k => P1623 t (by
        refine XS.ifNo X1520.here hx rfl (hb hby at_317) rfl ((if0 _ _).trans (feq (show ¬ (b1536 = (0 : Int32)) from q1624)).1) ?_
        refine XS.iconst X1520.here hx rfl (hb hby at_320) ?_
        refine XS.goto X1520.here hx rfl (pc0 := 321) (pc' := 325) rfl (hb hby at_321) (by decide) (by decide) ?_
        refine XS.iadd X1520.here hx rfl (hb hby at_325) rfl ?_
        refine XS.iload X1520.here hx rfl (hb hby at_326) rfl ?_
        show Sg p e below (T1520.setTop (mkF m 328 #[sI p0, sI p1, sI p2, sI p3, sI p4, sI p5, sI a, sI b, sI c, sI nn, sI r1368, sI r1371, sR f01375, sR b1380, sR b1407, sR b1447, sR R1520, sI b1530, sI b1536, sI b1542, sU, sU, sU] [(.int b1542), (.int (2 : Int32))])) _
        exact k)
      by_cases q1673 : b1542 = (0 : Int32)
      · skip
        have kc := (own_k3f hb1542).2 q1673
        have hfl : gs.flatten = [a, b] := by rw [hfin, if_pos ka, if_pos kb, if_neg kc]; rfl
        rw [hfl] at hN1520 A1520
        have hN8 : N1520 = (2 : Int32) := hN1520
        subst hN8
        obtain ⟨T1674, h1674, k1674, X1674, e1674, E1674, A1674, B1674, st1674⟩ := newPE X1520 hx hZ (own_hw hw 9 rfl) rfl (g := (mkF m 340 #[sI p0, sI p1, sI p2, sI p3, sI p4, sI p5, sI a, sI b, sI c, sI nn, sI r1368, sI r1371, sR f01375, sR b1380, sR b1407, sR b1447, sR R1520, sI b1530, sI b1536, sI b1542, sI 2, sU, sU] [(.int (3 : Int32))])) rfl (hb hby at_340) rfl (by decide) (cap := 3) (by decide) (by decide) (by decide) (by decide) (ad := "[I") (by decide)
        obtain ⟨b1674, g1674⟩ : ∃ z, z = T1520.heap.size := ⟨_, rfl⟩
        rw [← g1674] at A1674 B1674 st1674
        have g_b1674 : n0 ≤ b1674 := Nat.le_trans Z1523 (Nat.le_of_eq g1674.symm)
        have sz_b1674 : h0.size ≤ b1674 := Nat.le_trans K1524.1 (Nat.le_of_eq g1674.symm)
        have P1675 : Rg p e below (T1674.setTop (mkF m 342 #[sI p0, sI p1, sI p2, sI p3, sI p4, sI p5, sI a, sI b, sI c, sI nn, sI r1368, sI r1371, sR f01375, sR b1380, sR b1407, sR b1447, sR R1520, sI b1530, sI b1536, sI b1542, sI 2, sU, sU] [(.ref b1674)])) B0 := fun t k => P1672 t (by
          refine XS.ifYes X1520.here hx rfl (pc0 := 328) (pc' := 335) rfl (hb hby at_328) rfl ((if0 _ _).trans (teq (show b1542 = (0 : Int32) from q1673)).1) (by decide) (by decide) ?_
          refine XS.iconst X1520.here hx rfl (hb hby at_335) ?_
          refine XS.iadd X1520.here hx rfl (hb hby at_336) rfl ?_
          refine XS.istore X1520.here hx rfl (hb hby at_337) rfl (l' := #[sI p0, sI p1, sI p2, sI p3, sI p4, sI p5, sI a, sI b, sI c, sI nn, sI r1368, sI r1371, sR f01375, sR b1380, sR b1407, sR b1447, sR R1520, sI b1530, sI b1536, sI b1542, sI 2, sU, sU]) rfl ?_
          refine XS.iconst X1520.here hx rfl (hb hby at_339) ?_
          show Sg p e below (T1520.setTop (mkF m 340 #[sI p0, sI p1, sI p2, sI p3, sI p4, sI p5, sI a, sI b, sI c, sI nn, sI r1368, sI r1371, sR f01375, sR b1380, sR b1407, sR b1447, sR R1520, sI b1530, sI b1536, sI b1542, sI 2, sU, sU] [(.int (3 : Int32))])) _
          exact st1674 _ k)
        have Z1676 : n0 ≤ h1674.size := Nat.le_trans Z1523 E1674.1
        have K1677 : Keep h0 h1674 [] := K1524.ext E1674
        have O1678 : Old Z n0 h1674 := O1525.ext E1674
        have v1679 : Arv Z h1674 b1674 k1674 .int (3 : Int32) [(.int (0 : Int32)), (.int (0 : Int32)), (.int (0 : Int32))] (.int (0 : Int32)) := (Arv.new A1674 (by decide)).pad (pad_rep [] (.int (0 : Int32)) 3)
        obtain ⟨cl1680, Ar1680, q1680, S1680, N1680, H1680, G1680⟩ := id v1679
        obtain ⟨T1680, h1680, X1680, e1680, W1680, st1680⟩ := stI X1674 hx hZ e1674 Ar1680 (j := (0 : Int32)) (inb_of S1680 ⟨by decide, by decide⟩) (g := (mkF m 358 #[sI p0, sI p1, sI p2, sI p3, sI p4, sI p5, sI a, sI b, sI c, sI nn, sI r1368, sI r1371, sR f01375, sR b1380, sR b1407, sR b1447, sR R1520, sI b1530, sI b1536, sI b1542, sI 2, sR b1674, sI 0] [(.int a), (.int (0 : Int32)), (.ref b1674)])) rfl rfl (hb hby at_358)
        have v1681 : Arv Z h1680 b1674 k1674 .int (3 : Int32) [(.int a), (.int (0 : Int32)), (.int (0 : Int32))] (.int (0 : Int32)) := Arv.set Ar1680 q1680 S1680 N1680 H1680 G1680 rfl W1680 0 rfl (Nat.le_of_ble_eq_true rfl)
        have P1682 : Rg p e below (T1680.setTop (mkF m 359 #[sI p0, sI p1, sI p2, sI p3, sI p4, sI p5, sI a, sI b, sI c, sI nn, sI r1368, sI r1371, sR f01375, sR b1380, sR b1407, sR b1447, sR R1520, sI b1530, sI b1536, sI b1542, sI 2, sR b1674, sI 0] [])) B0 := fun t k => P1675 t (by
          refine XS.astore X1674.here hx rfl (hb hby at_342) rfl rfl (l' := #[sI p0, sI p1, sI p2, sI p3, sI p4, sI p5, sI a, sI b, sI c, sI nn, sI r1368, sI r1371, sR f01375, sR b1380, sR b1407, sR b1447, sR R1520, sI b1530, sI b1536, sI b1542, sI 2, sR b1674, sU]) rfl ?_
          refine XS.iconst X1674.here hx rfl (hb hby at_344) ?_
          refine XS.istore X1674.here hx rfl (hb hby at_345) rfl (l' := #[sI p0, sI p1, sI p2, sI p3, sI p4, sI p5, sI a, sI b, sI c, sI nn, sI r1368, sI r1371, sR f01375, sR b1380, sR b1407, sR b1447, sR R1520, sI b1530, sI b1536, sI b1542, sI 2, sR b1674, sI 0]) rfl ?_
          refine XS.iload X1674.here hx rfl (hb hby at_347) rfl ?_
          refine XS.ifNo X1674.here hx rfl (hb hby at_349) rfl ((if0 _ _).trans (feq (show ¬ (b1530 = (0 : Int32)) from q1544)).1) ?_
          refine XS.aload X1674.here hx rfl (hb hby at_352) rfl rfl ?_
          refine XS.iload X1674.here hx rfl (hb hby at_354) rfl ?_
          refine XS.iload X1674.here hx rfl (hb hby at_356) rfl ?_
          show Sg p e below (T1674.setTop (mkF m 358 #[sI p0, sI p1, sI p2, sI p3, sI p4, sI p5, sI a, sI b, sI c, sI nn, sI r1368, sI r1371, sR f01375, sR b1380, sR b1407, sR b1447, sR R1520, sI b1530, sI b1536, sI b1542, sI 2, sR b1674, sI 0] [(.int a), (.int (0 : Int32)), (.ref b1674)])) _
          exact st1680 _ k)
        have N1683 := Fr.snoc X1680 N1521 g_b1674
        have Z1684 : n0 ≤ h1680.size := Nat.le_trans Z1676 (Keep.of_wr W1680).1
        have K1685 : Keep h0 h1680 [] := K1677.wr W1680 (Or.inr sz_b1674)
        have O1686 : Old Z n0 h1680 := O1678.wr W1680 g_b1674
        obtain ⟨cl1687, Ar1687, q1687, S1687, N1687, H1687, G1687⟩ := id v1681
        obtain ⟨T1687, h1687, X1687, e1687, W1687, st1687⟩ := stI X1680 hx hZ e1680 Ar1687 (j := (1 : Int32)) (inb_of S1687 ⟨by decide, by decide⟩) (g := (mkF m 373 #[sI p0, sI p1, sI p2, sI p3, sI p4, sI p5, sI a, sI b, sI c, sI nn, sI r1368, sI r1371, sR f01375, sR b1380, sR b1407, sR b1447, sR R1520, sI b1530, sI b1536, sI b1542, sI 2, sR b1674, sI 1] [(.int b), (.int (1 : Int32)), (.ref b1674)])) rfl rfl (hb hby at_373)
        have v1688 : Arv Z h1687 b1674 k1674 .int (3 : Int32) [(.int a), (.int b), (.int (0 : Int32))] (.int (0 : Int32)) := Arv.set Ar1687 q1687 S1687 N1687 H1687 G1687 rfl W1687 1 rfl (Nat.le_of_ble_eq_true rfl)
        have P1689 : Rg p e below (T1687.setTop (mkF m 374 #[sI p0, sI p1, sI p2, sI p3, sI p4, sI p5, sI a, sI b, sI c, sI nn, sI r1368, sI r1371, sR f01375, sR b1380, sR b1407, sR b1447, sR R1520, sI b1530, sI b1536, sI b1542, sI 2, sR b1674, sI 1] [])) B0 := fun t k => P1682 t (by
          refine XS.iinc X1680.here hx rfl (hb hby at_359) rfl (l' := #[sI p0, sI p1, sI p2, sI p3, sI p4, sI p5, sI a, sI b, sI c, sI nn, sI r1368, sI r1371, sR f01375, sR b1380, sR b1407, sR b1447, sR R1520, sI b1530, sI b1536, sI b1542, sI 2, sR b1674, sI 1]) rfl ?_
          refine XS.iload X1680.here hx rfl (hb hby at_362) rfl ?_
          refine XS.ifNo X1680.here hx rfl (hb hby at_364) rfl ((if0 _ _).trans (feq (show ¬ (b1536 = (0 : Int32)) from q1624)).1) ?_
          refine XS.aload X1680.here hx rfl (hb hby at_367) rfl rfl ?_
          refine XS.iload X1680.here hx rfl (hb hby at_369) rfl ?_
          refine XS.iload X1680.here hx rfl (hb hby at_371) rfl ?_
          show Sg p e below (T1680.setTop (mkF m 373 #[sI p0, sI p1, sI p2, sI p3, sI p4, sI p5, sI a, sI b, sI c, sI nn, sI r1368, sI r1371, sR f01375, sR b1380, sR b1407, sR b1447, sR R1520, sI b1530, sI b1536, sI b1542, sI 2, sR b1674, sI 1] [(.int b), (.int (1 : Int32)), (.ref b1674)])) _
          exact st1687 _ k)
        have N1690 := Fr.snoc X1687 N1683 g_b1674
        have Z1691 : n0 ≤ h1687.size := Nat.le_trans Z1684 (Keep.of_wr W1687).1
        have K1692 : Keep h0 h1687 [] := K1685.wr W1687 (Or.inr sz_b1674)
        have O1693 : Old Z n0 h1687 := O1686.wr W1687 g_b1674
        have f1694 := (((A1520.ext E1674).other W1680 (Nat.ne_of_lt (Nat.lt_of_lt_of_le A1520.lt (Nat.le_of_eq g1674.symm)))).other W1687 (Nat.ne_of_lt (Nat.lt_of_lt_of_le A1520.lt (Nat.le_of_eq g1674.symm))))
        obtain ⟨cl1695, Ar1695, -, S1695, N1695, -, -⟩ := id f1694
        obtain ⟨cl1696, Ar1696, -, S1696, N1696, H1696, -⟩ := id f1694
        have hin1696 : ¬ ((0 : Int32) < 0 ∨ cl1696.slots.size ≤ ((0 : Int32)).toNatClampNeg) := inb_of S1696 ⟨by decide, by decide⟩
        obtain ⟨cl1697, Ar1697, -, S1697, N1697, H1697, -⟩ := id v1688
        have hin1697 : ¬ ((0 : Int32) < 0 ∨ cl1697.slots.size ≤ ((0 : Int32)).toNatClampNeg) := inb_of S1697 ⟨by decide, by decide⟩
        obtain ⟨cl1698, Ar1698, -, S1698, N1698, H1698, -⟩ := id f1694
        have hin1698 : ¬ ((1 : Int32) < 0 ∨ cl1698.slots.size ≤ ((1 : Int32)).toNatClampNeg) := inb_of S1698 ⟨by decide, by decide⟩
        obtain ⟨cl1699, Ar1699, -, S1699, N1699, H1699, -⟩ := id v1688
        have hin1699 : ¬ ((1 : Int32) < 0 ∨ cl1699.slots.size ≤ ((1 : Int32)).toNatClampNeg) := inb_of S1699 ⟨by decide, by decide⟩
        obtain ⟨fs1700, hr1700, hrun1700, hended1700, hW1700, hsame1700⟩ := X1687.leave (v := some (.int (1 : Int32))) (fun h => by rw [Bd.returns] at h; cases h)
        refine ⟨_, _, pre0 _ (P1689 _ ?_), hrun1700, hended1700, _, _, rfl, ?_, ⟨⟨_, rfl⟩, hW1700, hsame1700.mono (Nat.le_of_ble_eq_true rfl) (Nat.le_of_ble_eq_true rfl)⟩⟩
        · show Sg p e below (T1687.setTop (mkF m 374 #[sI p0, sI p1, sI p2, sI p3, sI p4, sI p5, sI a, sI b, sI c, sI nn, sI r1368, sI r1371, sR f01375, sR b1380, sR b1407, sR b1447, sR R1520, sI b1530, sI b1536, sI b1542, sI 2, sR b1674, sI 1] [])) _
          refine XS.iinc X1687.here hx rfl (hb hby at_374) rfl (l' := #[sI p0, sI p1, sI p2, sI p3, sI p4, sI p5, sI a, sI b, sI c, sI nn, sI r1368, sI r1371, sR f01375, sR b1380, sR b1407, sR b1447, sR R1520, sI b1530, sI b1536, sI b1542, sI 2, sR b1674, sI 2]) rfl ?_
          refine XS.iload X1687.here hx rfl (hb hby at_377) rfl ?_
          refine XS.ifYes X1687.here hx rfl (pc0 := 379) (pc' := 392) rfl (hb hby at_379) rfl ((if0 _ _).trans (teq (show b1542 = (0 : Int32) from q1673)).1) (by decide) (by decide) ?_
          refine XS.aload X1687.here hx rfl (hb hby at_392) rfl rfl ?_
          show Sg p e below (T1687.setTop (mkF m 394 #[sI p0, sI p1, sI p2, sI p3, sI p4, sI p5, sI a, sI b, sI c, sI nn, sI r1368, sI r1371, sR f01375, sR b1380, sR b1407, sR b1447, sR R1520, sI b1530, sI b1536, sI b1542, sI 2, sR b1674, sI 2] [(.ref R1520)])) _
          refine X1687.arraylength hx (by rw [e1687]; exact Ar1695.1) (State.isArrayOf_alike hZ.alike Ar1695.2.1) (g := (mkF m 394 #[sI p0, sI p1, sI p2, sI p3, sI p4, sI p5, sI a, sI b, sI c, sI nn, sI r1368, sI r1371, sR f01375, sR b1380, sR b1407, sR b1447, sR R1520, sI b1530, sI b1536, sI b1542, sI 2, sR b1674, sI 2] [(.ref R1520)])) rfl rfl (hb hby at_394) _ ?_
          rw [len_of S1695 N1695]
          show Sg p e below (T1687.setTop (mkF m 395 #[sI p0, sI p1, sI p2, sI p3, sI p4, sI p5, sI a, sI b, sI c, sI nn, sI r1368, sI r1371, sR f01375, sR b1380, sR b1407, sR b1447, sR R1520, sI b1530, sI b1536, sI b1542, sI 2, sR b1674, sI 2] [(.int (2 : Int32))])) _
          refine XS.iload X1687.here hx rfl (hb hby at_395) rfl ?_
          refine XS.icmpYes X1687.here hx rfl (pc0 := 397) (pc' := 402) rfl (hb hby at_397) rfl (teq (show (2 : Int32) = (2 : Int32) from (by decide))).1 (by decide) (by decide) ?_
          refine XS.iload X1687.here hx rfl (hb hby at_402) rfl ?_
          refine XS.iconst X1687.here hx rfl (hb hby at_404) ?_
          refine XS.icmpNo X1687.here hx rfl (hb hby at_405) rfl (flt (show ¬ ((2 : Int32) < (1 : Int32)) from (by decide))).1 ?_
          refine XS.aload X1687.here hx rfl (hb hby at_408) rfl rfl ?_
          refine XS.iconst X1687.here hx rfl (hb hby at_410) ?_
          show Sg p e below (T1687.setTop (mkF m 411 #[sI p0, sI p1, sI p2, sI p3, sI p4, sI p5, sI a, sI b, sI c, sI nn, sI r1368, sI r1371, sR f01375, sR b1380, sR b1407, sR b1447, sR R1520, sI b1530, sI b1536, sI b1542, sI 2, sR b1674, sI 2] [(.int (0 : Int32)), (.ref R1520)])) _
          refine X1687.iaload hx (j := (0 : Int32)) (v := (.int a)) (by rw [e1687]; exact Ar1696.1) (State.isArrayOf_alike hZ.alike Ar1696.2.1) Ar1696.2.2 hin1696 (H1696.at hin1696 rfl) (g := (mkF m 411 #[sI p0, sI p1, sI p2, sI p3, sI p4, sI p5, sI a, sI b, sI c, sI nn, sI r1368, sI r1371, sR f01375, sR b1380, sR b1407, sR b1447, sR R1520, sI b1530, sI b1536, sI b1542, sI 2, sR b1674, sI 2] [(.int (0 : Int32)), (.ref R1520)])) rfl rfl (hb hby at_411) _ ?_
          show Sg p e below (T1687.setTop (mkF m 412 #[sI p0, sI p1, sI p2, sI p3, sI p4, sI p5, sI a, sI b, sI c, sI nn, sI r1368, sI r1371, sR f01375, sR b1380, sR b1407, sR b1447, sR R1520, sI b1530, sI b1536, sI b1542, sI 2, sR b1674, sI 2] [(.int a)])) _
          refine XS.aload X1687.here hx rfl (hb hby at_412) rfl rfl ?_
          refine XS.iconst X1687.here hx rfl (hb hby at_414) ?_
          show Sg p e below (T1687.setTop (mkF m 415 #[sI p0, sI p1, sI p2, sI p3, sI p4, sI p5, sI a, sI b, sI c, sI nn, sI r1368, sI r1371, sR f01375, sR b1380, sR b1407, sR b1447, sR R1520, sI b1530, sI b1536, sI b1542, sI 2, sR b1674, sI 2] [(.int (0 : Int32)), (.ref b1674), (.int a)])) _
          refine X1687.iaload hx (j := (0 : Int32)) (v := (.int a)) (by rw [e1687]; exact Ar1697.1) (State.isArrayOf_alike hZ.alike Ar1697.2.1) Ar1697.2.2 hin1697 (H1697.at hin1697 rfl) (g := (mkF m 415 #[sI p0, sI p1, sI p2, sI p3, sI p4, sI p5, sI a, sI b, sI c, sI nn, sI r1368, sI r1371, sR f01375, sR b1380, sR b1407, sR b1447, sR R1520, sI b1530, sI b1536, sI b1542, sI 2, sR b1674, sI 2] [(.int (0 : Int32)), (.ref b1674), (.int a)])) rfl rfl (hb hby at_415) _ ?_
          show Sg p e below (T1687.setTop (mkF m 416 #[sI p0, sI p1, sI p2, sI p3, sI p4, sI p5, sI a, sI b, sI c, sI nn, sI r1368, sI r1371, sR f01375, sR b1380, sR b1407, sR b1447, sR R1520, sI b1530, sI b1536, sI b1542, sI 2, sR b1674, sI 2] [(.int a), (.int a)])) _
          refine XS.icmpNo X1687.here hx rfl (hb hby at_416) rfl (teq (show a = a from (rfl : a = a))).2 ?_
          refine XS.iload X1687.here hx rfl (hb hby at_419) rfl ?_
          refine XS.iconst X1687.here hx rfl (hb hby at_421) ?_
          refine XS.icmpNo X1687.here hx rfl (hb hby at_422) rfl (flt (show ¬ ((2 : Int32) < (2 : Int32)) from (by decide))).1 ?_
          refine XS.aload X1687.here hx rfl (hb hby at_425) rfl rfl ?_
          refine XS.iconst X1687.here hx rfl (hb hby at_427) ?_
          show Sg p e below (T1687.setTop (mkF m 428 #[sI p0, sI p1, sI p2, sI p3, sI p4, sI p5, sI a, sI b, sI c, sI nn, sI r1368, sI r1371, sR f01375, sR b1380, sR b1407, sR b1447, sR R1520, sI b1530, sI b1536, sI b1542, sI 2, sR b1674, sI 2] [(.int (1 : Int32)), (.ref R1520)])) _
          refine X1687.iaload hx (j := (1 : Int32)) (v := (.int b)) (by rw [e1687]; exact Ar1698.1) (State.isArrayOf_alike hZ.alike Ar1698.2.1) Ar1698.2.2 hin1698 (H1698.at hin1698 rfl) (g := (mkF m 428 #[sI p0, sI p1, sI p2, sI p3, sI p4, sI p5, sI a, sI b, sI c, sI nn, sI r1368, sI r1371, sR f01375, sR b1380, sR b1407, sR b1447, sR R1520, sI b1530, sI b1536, sI b1542, sI 2, sR b1674, sI 2] [(.int (1 : Int32)), (.ref R1520)])) rfl rfl (hb hby at_428) _ ?_
          show Sg p e below (T1687.setTop (mkF m 429 #[sI p0, sI p1, sI p2, sI p3, sI p4, sI p5, sI a, sI b, sI c, sI nn, sI r1368, sI r1371, sR f01375, sR b1380, sR b1407, sR b1447, sR R1520, sI b1530, sI b1536, sI b1542, sI 2, sR b1674, sI 2] [(.int b)])) _
          refine XS.aload X1687.here hx rfl (hb hby at_429) rfl rfl ?_
          refine XS.iconst X1687.here hx rfl (hb hby at_431) ?_
          show Sg p e below (T1687.setTop (mkF m 432 #[sI p0, sI p1, sI p2, sI p3, sI p4, sI p5, sI a, sI b, sI c, sI nn, sI r1368, sI r1371, sR f01375, sR b1380, sR b1407, sR b1447, sR R1520, sI b1530, sI b1536, sI b1542, sI 2, sR b1674, sI 2] [(.int (1 : Int32)), (.ref b1674), (.int b)])) _
          refine X1687.iaload hx (j := (1 : Int32)) (v := (.int b)) (by rw [e1687]; exact Ar1699.1) (State.isArrayOf_alike hZ.alike Ar1699.2.1) Ar1699.2.2 hin1699 (H1699.at hin1699 rfl) (g := (mkF m 432 #[sI p0, sI p1, sI p2, sI p3, sI p4, sI p5, sI a, sI b, sI c, sI nn, sI r1368, sI r1371, sR f01375, sR b1380, sR b1407, sR b1447, sR R1520, sI b1530, sI b1536, sI b1542, sI 2, sR b1674, sI 2] [(.int (1 : Int32)), (.ref b1674), (.int b)])) rfl rfl (hb hby at_432) _ ?_
          show Sg p e below (T1687.setTop (mkF m 433 #[sI p0, sI p1, sI p2, sI p3, sI p4, sI p5, sI a, sI b, sI c, sI nn, sI r1368, sI r1371, sR f01375, sR b1380, sR b1407, sR b1447, sR R1520, sI b1530, sI b1536, sI b1542, sI 2, sR b1674, sI 2] [(.int b), (.int b)])) _
          refine XS.icmpNo X1687.here hx rfl (hb hby at_433) rfl (teq (show b = b from (rfl : b = b))).2 ?_
          refine XS.iload X1687.here hx rfl (hb hby at_436) rfl ?_
          refine XS.iconst X1687.here hx rfl (hb hby at_438) ?_
          refine XS.icmpYes X1687.here hx rfl (pc0 := 439) (pc' := 453) rfl (hb hby at_439) rfl (tlt (show (2 : Int32) < (3 : Int32) from (by decide))).1 (by decide) (by decide) ?_
          refine XS.iconst X1687.here hx rfl (hb hby at_453) ?_
          refine XS.goto X1687.here hx rfl (pc0 := 454) (pc' := 458) rfl (hb hby at_454) (by decide) (by decide) ?_
          show Sg p e below (T1687.setTop (mkF m 458 #[sI p0, sI p1, sI p2, sI p3, sI p4, sI p5, sI a, sI b, sI c, sI nn, sI r1368, sI r1371, sR f01375, sR b1380, sR b1407, sR b1447, sR R1520, sI b1530, sI b1536, sI b1542, sI 2, sR b1674, sI 2] [(.int (1 : Int32))])) _
          exact retN X1687 hx (t := .boolean) Bd.returns (by simp) (hb hby at_458) hr1700
        · show Q_law  h0 n0 _ T1687.heap _
          rw [e1687]
          exact ⟨rfl, N1690⟩
      · skip
        have kc := (own_k3f hb1542).1 q1673
        have hfl : gs.flatten = [a, b, c] := by rw [hfin, if_pos ka, if_pos kb, if_pos kc]; rfl
        rw [hfl] at hN1520 A1520
        have hN8 : N1520 = (3 : Int32) := hN1520
        subst hN8
        obtain ⟨T1701, h1701, k1701, X1701, e1701, E1701, A1701, B1701, st1701⟩ := newPE X1520 hx hZ (own_hw hw 9 rfl) rfl (g := (mkF m 340 #[sI p0, sI p1, sI p2, sI p3, sI p4, sI p5, sI a, sI b, sI c, sI nn, sI r1368, sI r1371, sR f01375, sR b1380, sR b1407, sR b1447, sR R1520, sI b1530, sI b1536, sI b1542, sI 3, sU, sU] [(.int (3 : Int32))])) rfl (hb hby at_340) rfl (by decide) (cap := 3) (by decide) (by decide) (by decide) (by decide) (ad := "[I") (by decide)
        obtain ⟨b1701, g1701⟩ : ∃ z, z = T1520.heap.size := ⟨_, rfl⟩
        rw [← g1701] at A1701 B1701 st1701
        have g_b1701 : n0 ≤ b1701 := Nat.le_trans Z1523 (Nat.le_of_eq g1701.symm)
        have sz_b1701 : h0.size ≤ b1701 := Nat.le_trans K1524.1 (Nat.le_of_eq g1701.symm)
        have P1702 : Rg p e below (T1701.setTop (mkF m 342 #[sI p0, sI p1, sI p2, sI p3, sI p4, sI p5, sI a, sI b, sI c, sI nn, sI r1368, sI r1371, sR f01375, sR b1380, sR b1407, sR b1447, sR R1520, sI b1530, sI b1536, sI b1542, sI 3, sU, sU] [(.ref b1701)])) B0 := fun t k => P1672 t (by
          refine XS.ifNo X1520.here hx rfl (hb hby at_328) rfl ((if0 _ _).trans (feq (show ¬ (b1542 = (0 : Int32)) from q1673)).1) ?_
          refine XS.iconst X1520.here hx rfl (hb hby at_331) ?_
          refine XS.goto X1520.here hx rfl (pc0 := 332) (pc' := 336) rfl (hb hby at_332) (by decide) (by decide) ?_
          refine XS.iadd X1520.here hx rfl (hb hby at_336) rfl ?_
          refine XS.istore X1520.here hx rfl (hb hby at_337) rfl (l' := #[sI p0, sI p1, sI p2, sI p3, sI p4, sI p5, sI a, sI b, sI c, sI nn, sI r1368, sI r1371, sR f01375, sR b1380, sR b1407, sR b1447, sR R1520, sI b1530, sI b1536, sI b1542, sI 3, sU, sU]) rfl ?_
          refine XS.iconst X1520.here hx rfl (hb hby at_339) ?_
          show Sg p e below (T1520.setTop (mkF m 340 #[sI p0, sI p1, sI p2, sI p3, sI p4, sI p5, sI a, sI b, sI c, sI nn, sI r1368, sI r1371, sR f01375, sR b1380, sR b1407, sR b1447, sR R1520, sI b1530, sI b1536, sI b1542, sI 3, sU, sU] [(.int (3 : Int32))])) _
          exact st1701 _ k)
        have Z1703 : n0 ≤ h1701.size := Nat.le_trans Z1523 E1701.1
        have K1704 : Keep h0 h1701 [] := K1524.ext E1701
        have O1705 : Old Z n0 h1701 := O1525.ext E1701
        have v1706 : Arv Z h1701 b1701 k1701 .int (3 : Int32) [(.int (0 : Int32)), (.int (0 : Int32)), (.int (0 : Int32))] (.int (0 : Int32)) := (Arv.new A1701 (by decide)).pad (pad_rep [] (.int (0 : Int32)) 3)
        obtain ⟨cl1707, Ar1707, q1707, S1707, N1707, H1707, G1707⟩ := id v1706
        obtain ⟨T1707, h1707, X1707, e1707, W1707, st1707⟩ := stI X1701 hx hZ e1701 Ar1707 (j := (0 : Int32)) (inb_of S1707 ⟨by decide, by decide⟩) (g := (mkF m 358 #[sI p0, sI p1, sI p2, sI p3, sI p4, sI p5, sI a, sI b, sI c, sI nn, sI r1368, sI r1371, sR f01375, sR b1380, sR b1407, sR b1447, sR R1520, sI b1530, sI b1536, sI b1542, sI 3, sR b1701, sI 0] [(.int a), (.int (0 : Int32)), (.ref b1701)])) rfl rfl (hb hby at_358)
        have v1708 : Arv Z h1707 b1701 k1701 .int (3 : Int32) [(.int a), (.int (0 : Int32)), (.int (0 : Int32))] (.int (0 : Int32)) := Arv.set Ar1707 q1707 S1707 N1707 H1707 G1707 rfl W1707 0 rfl (Nat.le_of_ble_eq_true rfl)
        have P1709 : Rg p e below (T1707.setTop (mkF m 359 #[sI p0, sI p1, sI p2, sI p3, sI p4, sI p5, sI a, sI b, sI c, sI nn, sI r1368, sI r1371, sR f01375, sR b1380, sR b1407, sR b1447, sR R1520, sI b1530, sI b1536, sI b1542, sI 3, sR b1701, sI 0] [])) B0 := fun t k => P1702 t (by
          refine XS.astore X1701.here hx rfl (hb hby at_342) rfl rfl (l' := #[sI p0, sI p1, sI p2, sI p3, sI p4, sI p5, sI a, sI b, sI c, sI nn, sI r1368, sI r1371, sR f01375, sR b1380, sR b1407, sR b1447, sR R1520, sI b1530, sI b1536, sI b1542, sI 3, sR b1701, sU]) rfl ?_
          refine XS.iconst X1701.here hx rfl (hb hby at_344) ?_
          refine XS.istore X1701.here hx rfl (hb hby at_345) rfl (l' := #[sI p0, sI p1, sI p2, sI p3, sI p4, sI p5, sI a, sI b, sI c, sI nn, sI r1368, sI r1371, sR f01375, sR b1380, sR b1407, sR b1447, sR R1520, sI b1530, sI b1536, sI b1542, sI 3, sR b1701, sI 0]) rfl ?_
          refine XS.iload X1701.here hx rfl (hb hby at_347) rfl ?_
          refine XS.ifNo X1701.here hx rfl (hb hby at_349) rfl ((if0 _ _).trans (feq (show ¬ (b1530 = (0 : Int32)) from q1544)).1) ?_
          refine XS.aload X1701.here hx rfl (hb hby at_352) rfl rfl ?_
          refine XS.iload X1701.here hx rfl (hb hby at_354) rfl ?_
          refine XS.iload X1701.here hx rfl (hb hby at_356) rfl ?_
          show Sg p e below (T1701.setTop (mkF m 358 #[sI p0, sI p1, sI p2, sI p3, sI p4, sI p5, sI a, sI b, sI c, sI nn, sI r1368, sI r1371, sR f01375, sR b1380, sR b1407, sR b1447, sR R1520, sI b1530, sI b1536, sI b1542, sI 3, sR b1701, sI 0] [(.int a), (.int (0 : Int32)), (.ref b1701)])) _
          exact st1707 _ k)
        have N1710 := Fr.snoc X1707 N1521 g_b1701
        have Z1711 : n0 ≤ h1707.size := Nat.le_trans Z1703 (Keep.of_wr W1707).1
        have K1712 : Keep h0 h1707 [] := K1704.wr W1707 (Or.inr sz_b1701)
        have O1713 : Old Z n0 h1707 := O1705.wr W1707 g_b1701
        obtain ⟨cl1714, Ar1714, q1714, S1714, N1714, H1714, G1714⟩ := id v1708
        obtain ⟨T1714, h1714, X1714, e1714, W1714, st1714⟩ := stI X1707 hx hZ e1707 Ar1714 (j := (1 : Int32)) (inb_of S1714 ⟨by decide, by decide⟩) (g := (mkF m 373 #[sI p0, sI p1, sI p2, sI p3, sI p4, sI p5, sI a, sI b, sI c, sI nn, sI r1368, sI r1371, sR f01375, sR b1380, sR b1407, sR b1447, sR R1520, sI b1530, sI b1536, sI b1542, sI 3, sR b1701, sI 1] [(.int b), (.int (1 : Int32)), (.ref b1701)])) rfl rfl (hb hby at_373)
        have v1715 : Arv Z h1714 b1701 k1701 .int (3 : Int32) [(.int a), (.int b), (.int (0 : Int32))] (.int (0 : Int32)) := Arv.set Ar1714 q1714 S1714 N1714 H1714 G1714 rfl W1714 1 rfl (Nat.le_of_ble_eq_true rfl)
        have P1716 : Rg p e below (T1714.setTop (mkF m 374 #[sI p0, sI p1, sI p2, sI p3, sI p4, sI p5, sI a, sI b, sI c, sI nn, sI r1368, sI r1371, sR f01375, sR b1380, sR b1407, sR b1447, sR R1520, sI b1530, sI b1536, sI b1542, sI 3, sR b1701, sI 1] [])) B0 := fun t k => P1709 t (by
          refine XS.iinc X1707.here hx rfl (hb hby at_359) rfl (l' := #[sI p0, sI p1, sI p2, sI p3, sI p4, sI p5, sI a, sI b, sI c, sI nn, sI r1368, sI r1371, sR f01375, sR b1380, sR b1407, sR b1447, sR R1520, sI b1530, sI b1536, sI b1542, sI 3, sR b1701, sI 1]) rfl ?_
          refine XS.iload X1707.here hx rfl (hb hby at_362) rfl ?_
          refine XS.ifNo X1707.here hx rfl (hb hby at_364) rfl ((if0 _ _).trans (feq (show ¬ (b1536 = (0 : Int32)) from q1624)).1) ?_
          refine XS.aload X1707.here hx rfl (hb hby at_367) rfl rfl ?_
          refine XS.iload X1707.here hx rfl (hb hby at_369) rfl ?_
          refine XS.iload X1707.here hx rfl (hb hby at_371) rfl ?_
          show Sg p e below (T1707.setTop (mkF m 373 #[sI p0, sI p1, sI p2, sI p3, sI p4, sI p5, sI a, sI b, sI c, sI nn, sI r1368, sI r1371, sR f01375, sR b1380, sR b1407, sR b1447, sR R1520, sI b1530, sI b1536, sI b1542, sI 3, sR b1701, sI 1] [(.int b), (.int (1 : Int32)), (.ref b1701)])) _
          exact st1714 _ k)
        have N1717 := Fr.snoc X1714 N1710 g_b1701
        have Z1718 : n0 ≤ h1714.size := Nat.le_trans Z1711 (Keep.of_wr W1714).1
        have K1719 : Keep h0 h1714 [] := K1712.wr W1714 (Or.inr sz_b1701)
        have O1720 : Old Z n0 h1714 := O1713.wr W1714 g_b1701
        obtain ⟨cl1721, Ar1721, q1721, S1721, N1721, H1721, G1721⟩ := id v1715
        obtain ⟨T1721, h1721, X1721, e1721, W1721, st1721⟩ := stI X1714 hx hZ e1714 Ar1721 (j := (2 : Int32)) (inb_of S1721 ⟨by decide, by decide⟩) (g := (mkF m 388 #[sI p0, sI p1, sI p2, sI p3, sI p4, sI p5, sI a, sI b, sI c, sI nn, sI r1368, sI r1371, sR f01375, sR b1380, sR b1407, sR b1447, sR R1520, sI b1530, sI b1536, sI b1542, sI 3, sR b1701, sI 2] [(.int c), (.int (2 : Int32)), (.ref b1701)])) rfl rfl (hb hby at_388)
        have v1722 : Arv Z h1721 b1701 k1701 .int (3 : Int32) [(.int a), (.int b), (.int c)] (.int (0 : Int32)) := Arv.set Ar1721 q1721 S1721 N1721 H1721 G1721 rfl W1721 2 rfl (Nat.le_of_ble_eq_true rfl)
        have P1723 : Rg p e below (T1721.setTop (mkF m 389 #[sI p0, sI p1, sI p2, sI p3, sI p4, sI p5, sI a, sI b, sI c, sI nn, sI r1368, sI r1371, sR f01375, sR b1380, sR b1407, sR b1447, sR R1520, sI b1530, sI b1536, sI b1542, sI 3, sR b1701, sI 2] [])) B0 := fun t k => P1716 t (by
          refine XS.iinc X1714.here hx rfl (hb hby at_374) rfl (l' := #[sI p0, sI p1, sI p2, sI p3, sI p4, sI p5, sI a, sI b, sI c, sI nn, sI r1368, sI r1371, sR f01375, sR b1380, sR b1407, sR b1447, sR R1520, sI b1530, sI b1536, sI b1542, sI 3, sR b1701, sI 2]) rfl ?_
          refine XS.iload X1714.here hx rfl (hb hby at_377) rfl ?_
          refine XS.ifNo X1714.here hx rfl (hb hby at_379) rfl ((if0 _ _).trans (feq (show ¬ (b1542 = (0 : Int32)) from q1673)).1) ?_
          refine XS.aload X1714.here hx rfl (hb hby at_382) rfl rfl ?_
          refine XS.iload X1714.here hx rfl (hb hby at_384) rfl ?_
          refine XS.iload X1714.here hx rfl (hb hby at_386) rfl ?_
          show Sg p e below (T1714.setTop (mkF m 388 #[sI p0, sI p1, sI p2, sI p3, sI p4, sI p5, sI a, sI b, sI c, sI nn, sI r1368, sI r1371, sR f01375, sR b1380, sR b1407, sR b1447, sR R1520, sI b1530, sI b1536, sI b1542, sI 3, sR b1701, sI 2] [(.int c), (.int (2 : Int32)), (.ref b1701)])) _
          exact st1721 _ k)
        have N1724 := Fr.snoc X1721 N1717 g_b1701
        have Z1725 : n0 ≤ h1721.size := Nat.le_trans Z1718 (Keep.of_wr W1721).1
        have K1726 : Keep h0 h1721 [] := K1719.wr W1721 (Or.inr sz_b1701)
        have O1727 : Old Z n0 h1721 := O1720.wr W1721 g_b1701
        have f1728 := ((((A1520.ext E1701).other W1707 (Nat.ne_of_lt (Nat.lt_of_lt_of_le A1520.lt (Nat.le_of_eq g1701.symm)))).other W1714 (Nat.ne_of_lt (Nat.lt_of_lt_of_le A1520.lt (Nat.le_of_eq g1701.symm)))).other W1721 (Nat.ne_of_lt (Nat.lt_of_lt_of_le A1520.lt (Nat.le_of_eq g1701.symm))))
        obtain ⟨cl1729, Ar1729, -, S1729, N1729, -, -⟩ := id f1728
        obtain ⟨cl1730, Ar1730, -, S1730, N1730, H1730, -⟩ := id f1728
        have hin1730 : ¬ ((0 : Int32) < 0 ∨ cl1730.slots.size ≤ ((0 : Int32)).toNatClampNeg) := inb_of S1730 ⟨by decide, by decide⟩
        obtain ⟨cl1731, Ar1731, -, S1731, N1731, H1731, -⟩ := id v1722
        have hin1731 : ¬ ((0 : Int32) < 0 ∨ cl1731.slots.size ≤ ((0 : Int32)).toNatClampNeg) := inb_of S1731 ⟨by decide, by decide⟩
        obtain ⟨cl1732, Ar1732, -, S1732, N1732, H1732, -⟩ := id f1728
        have hin1732 : ¬ ((1 : Int32) < 0 ∨ cl1732.slots.size ≤ ((1 : Int32)).toNatClampNeg) := inb_of S1732 ⟨by decide, by decide⟩
        obtain ⟨cl1733, Ar1733, -, S1733, N1733, H1733, -⟩ := id v1722
        have hin1733 : ¬ ((1 : Int32) < 0 ∨ cl1733.slots.size ≤ ((1 : Int32)).toNatClampNeg) := inb_of S1733 ⟨by decide, by decide⟩
        obtain ⟨cl1734, Ar1734, -, S1734, N1734, H1734, -⟩ := id f1728
        have hin1734 : ¬ ((2 : Int32) < 0 ∨ cl1734.slots.size ≤ ((2 : Int32)).toNatClampNeg) := inb_of S1734 ⟨by decide, by decide⟩
        obtain ⟨cl1735, Ar1735, -, S1735, N1735, H1735, -⟩ := id v1722
        have hin1735 : ¬ ((2 : Int32) < 0 ∨ cl1735.slots.size ≤ ((2 : Int32)).toNatClampNeg) := inb_of S1735 ⟨by decide, by decide⟩
        obtain ⟨fs1736, hr1736, hrun1736, hended1736, hW1736, hsame1736⟩ := X1721.leave (v := some (.int (1 : Int32))) (fun h => by rw [Bd.returns] at h; cases h)
        refine ⟨_, _, pre0 _ (P1723 _ ?_), hrun1736, hended1736, _, _, rfl, ?_, ⟨⟨_, rfl⟩, hW1736, hsame1736.mono (Nat.le_of_ble_eq_true rfl) (Nat.le_of_ble_eq_true rfl)⟩⟩
        · show Sg p e below (T1721.setTop (mkF m 389 #[sI p0, sI p1, sI p2, sI p3, sI p4, sI p5, sI a, sI b, sI c, sI nn, sI r1368, sI r1371, sR f01375, sR b1380, sR b1407, sR b1447, sR R1520, sI b1530, sI b1536, sI b1542, sI 3, sR b1701, sI 2] [])) _
          refine XS.iinc X1721.here hx rfl (hb hby at_389) rfl (l' := #[sI p0, sI p1, sI p2, sI p3, sI p4, sI p5, sI a, sI b, sI c, sI nn, sI r1368, sI r1371, sR f01375, sR b1380, sR b1407, sR b1447, sR R1520, sI b1530, sI b1536, sI b1542, sI 3, sR b1701, sI 3]) rfl ?_
          refine XS.aload X1721.here hx rfl (hb hby at_392) rfl rfl ?_
          show Sg p e below (T1721.setTop (mkF m 394 #[sI p0, sI p1, sI p2, sI p3, sI p4, sI p5, sI a, sI b, sI c, sI nn, sI r1368, sI r1371, sR f01375, sR b1380, sR b1407, sR b1447, sR R1520, sI b1530, sI b1536, sI b1542, sI 3, sR b1701, sI 3] [(.ref R1520)])) _
          refine X1721.arraylength hx (by rw [e1721]; exact Ar1729.1) (State.isArrayOf_alike hZ.alike Ar1729.2.1) (g := (mkF m 394 #[sI p0, sI p1, sI p2, sI p3, sI p4, sI p5, sI a, sI b, sI c, sI nn, sI r1368, sI r1371, sR f01375, sR b1380, sR b1407, sR b1447, sR R1520, sI b1530, sI b1536, sI b1542, sI 3, sR b1701, sI 3] [(.ref R1520)])) rfl rfl (hb hby at_394) _ ?_
          rw [len_of S1729 N1729]
          show Sg p e below (T1721.setTop (mkF m 395 #[sI p0, sI p1, sI p2, sI p3, sI p4, sI p5, sI a, sI b, sI c, sI nn, sI r1368, sI r1371, sR f01375, sR b1380, sR b1407, sR b1447, sR R1520, sI b1530, sI b1536, sI b1542, sI 3, sR b1701, sI 3] [(.int (3 : Int32))])) _
          refine XS.iload X1721.here hx rfl (hb hby at_395) rfl ?_
          refine XS.icmpYes X1721.here hx rfl (pc0 := 397) (pc' := 402) rfl (hb hby at_397) rfl (teq (show (3 : Int32) = (3 : Int32) from (by decide))).1 (by decide) (by decide) ?_
          refine XS.iload X1721.here hx rfl (hb hby at_402) rfl ?_
          refine XS.iconst X1721.here hx rfl (hb hby at_404) ?_
          refine XS.icmpNo X1721.here hx rfl (hb hby at_405) rfl (flt (show ¬ ((3 : Int32) < (1 : Int32)) from (by decide))).1 ?_
          refine XS.aload X1721.here hx rfl (hb hby at_408) rfl rfl ?_
          refine XS.iconst X1721.here hx rfl (hb hby at_410) ?_
          show Sg p e below (T1721.setTop (mkF m 411 #[sI p0, sI p1, sI p2, sI p3, sI p4, sI p5, sI a, sI b, sI c, sI nn, sI r1368, sI r1371, sR f01375, sR b1380, sR b1407, sR b1447, sR R1520, sI b1530, sI b1536, sI b1542, sI 3, sR b1701, sI 3] [(.int (0 : Int32)), (.ref R1520)])) _
          refine X1721.iaload hx (j := (0 : Int32)) (v := (.int a)) (by rw [e1721]; exact Ar1730.1) (State.isArrayOf_alike hZ.alike Ar1730.2.1) Ar1730.2.2 hin1730 (H1730.at hin1730 rfl) (g := (mkF m 411 #[sI p0, sI p1, sI p2, sI p3, sI p4, sI p5, sI a, sI b, sI c, sI nn, sI r1368, sI r1371, sR f01375, sR b1380, sR b1407, sR b1447, sR R1520, sI b1530, sI b1536, sI b1542, sI 3, sR b1701, sI 3] [(.int (0 : Int32)), (.ref R1520)])) rfl rfl (hb hby at_411) _ ?_
          show Sg p e below (T1721.setTop (mkF m 412 #[sI p0, sI p1, sI p2, sI p3, sI p4, sI p5, sI a, sI b, sI c, sI nn, sI r1368, sI r1371, sR f01375, sR b1380, sR b1407, sR b1447, sR R1520, sI b1530, sI b1536, sI b1542, sI 3, sR b1701, sI 3] [(.int a)])) _
          refine XS.aload X1721.here hx rfl (hb hby at_412) rfl rfl ?_
          refine XS.iconst X1721.here hx rfl (hb hby at_414) ?_
          show Sg p e below (T1721.setTop (mkF m 415 #[sI p0, sI p1, sI p2, sI p3, sI p4, sI p5, sI a, sI b, sI c, sI nn, sI r1368, sI r1371, sR f01375, sR b1380, sR b1407, sR b1447, sR R1520, sI b1530, sI b1536, sI b1542, sI 3, sR b1701, sI 3] [(.int (0 : Int32)), (.ref b1701), (.int a)])) _
          refine X1721.iaload hx (j := (0 : Int32)) (v := (.int a)) (by rw [e1721]; exact Ar1731.1) (State.isArrayOf_alike hZ.alike Ar1731.2.1) Ar1731.2.2 hin1731 (H1731.at hin1731 rfl) (g := (mkF m 415 #[sI p0, sI p1, sI p2, sI p3, sI p4, sI p5, sI a, sI b, sI c, sI nn, sI r1368, sI r1371, sR f01375, sR b1380, sR b1407, sR b1447, sR R1520, sI b1530, sI b1536, sI b1542, sI 3, sR b1701, sI 3] [(.int (0 : Int32)), (.ref b1701), (.int a)])) rfl rfl (hb hby at_415) _ ?_
          show Sg p e below (T1721.setTop (mkF m 416 #[sI p0, sI p1, sI p2, sI p3, sI p4, sI p5, sI a, sI b, sI c, sI nn, sI r1368, sI r1371, sR f01375, sR b1380, sR b1407, sR b1447, sR R1520, sI b1530, sI b1536, sI b1542, sI 3, sR b1701, sI 3] [(.int a), (.int a)])) _
          refine XS.icmpNo X1721.here hx rfl (hb hby at_416) rfl (teq (show a = a from (rfl : a = a))).2 ?_
          refine XS.iload X1721.here hx rfl (hb hby at_419) rfl ?_
          refine XS.iconst X1721.here hx rfl (hb hby at_421) ?_
          refine XS.icmpNo X1721.here hx rfl (hb hby at_422) rfl (flt (show ¬ ((3 : Int32) < (2 : Int32)) from (by decide))).1 ?_
          refine XS.aload X1721.here hx rfl (hb hby at_425) rfl rfl ?_
          refine XS.iconst X1721.here hx rfl (hb hby at_427) ?_
          show Sg p e below (T1721.setTop (mkF m 428 #[sI p0, sI p1, sI p2, sI p3, sI p4, sI p5, sI a, sI b, sI c, sI nn, sI r1368, sI r1371, sR f01375, sR b1380, sR b1407, sR b1447, sR R1520, sI b1530, sI b1536, sI b1542, sI 3, sR b1701, sI 3] [(.int (1 : Int32)), (.ref R1520)])) _
          refine X1721.iaload hx (j := (1 : Int32)) (v := (.int b)) (by rw [e1721]; exact Ar1732.1) (State.isArrayOf_alike hZ.alike Ar1732.2.1) Ar1732.2.2 hin1732 (H1732.at hin1732 rfl) (g := (mkF m 428 #[sI p0, sI p1, sI p2, sI p3, sI p4, sI p5, sI a, sI b, sI c, sI nn, sI r1368, sI r1371, sR f01375, sR b1380, sR b1407, sR b1447, sR R1520, sI b1530, sI b1536, sI b1542, sI 3, sR b1701, sI 3] [(.int (1 : Int32)), (.ref R1520)])) rfl rfl (hb hby at_428) _ ?_
          show Sg p e below (T1721.setTop (mkF m 429 #[sI p0, sI p1, sI p2, sI p3, sI p4, sI p5, sI a, sI b, sI c, sI nn, sI r1368, sI r1371, sR f01375, sR b1380, sR b1407, sR b1447, sR R1520, sI b1530, sI b1536, sI b1542, sI 3, sR b1701, sI 3] [(.int b)])) _
          refine XS.aload X1721.here hx rfl (hb hby at_429) rfl rfl ?_
          refine XS.iconst X1721.here hx rfl (hb hby at_431) ?_
          show Sg p e below (T1721.setTop (mkF m 432 #[sI p0, sI p1, sI p2, sI p3, sI p4, sI p5, sI a, sI b, sI c, sI nn, sI r1368, sI r1371, sR f01375, sR b1380, sR b1407, sR b1447, sR R1520, sI b1530, sI b1536, sI b1542, sI 3, sR b1701, sI 3] [(.int (1 : Int32)), (.ref b1701), (.int b)])) _
          refine X1721.iaload hx (j := (1 : Int32)) (v := (.int b)) (by rw [e1721]; exact Ar1733.1) (State.isArrayOf_alike hZ.alike Ar1733.2.1) Ar1733.2.2 hin1733 (H1733.at hin1733 rfl) (g := (mkF m 432 #[sI p0, sI p1, sI p2, sI p3, sI p4, sI p5, sI a, sI b, sI c, sI nn, sI r1368, sI r1371, sR f01375, sR b1380, sR b1407, sR b1447, sR R1520, sI b1530, sI b1536, sI b1542, sI 3, sR b1701, sI 3] [(.int (1 : Int32)), (.ref b1701), (.int b)])) rfl rfl (hb hby at_432) _ ?_
          show Sg p e below (T1721.setTop (mkF m 433 #[sI p0, sI p1, sI p2, sI p3, sI p4, sI p5, sI a, sI b, sI c, sI nn, sI r1368, sI r1371, sR f01375, sR b1380, sR b1407, sR b1447, sR R1520, sI b1530, sI b1536, sI b1542, sI 3, sR b1701, sI 3] [(.int b), (.int b)])) _
          refine XS.icmpNo X1721.here hx rfl (hb hby at_433) rfl (teq (show b = b from (rfl : b = b))).2 ?_
          refine XS.iload X1721.here hx rfl (hb hby at_436) rfl ?_
          refine XS.iconst X1721.here hx rfl (hb hby at_438) ?_
          refine XS.icmpNo X1721.here hx rfl (hb hby at_439) rfl (flt (show ¬ ((3 : Int32) < (3 : Int32)) from (by decide))).1 ?_
          refine XS.aload X1721.here hx rfl (hb hby at_442) rfl rfl ?_
          refine XS.iconst X1721.here hx rfl (hb hby at_444) ?_
          show Sg p e below (T1721.setTop (mkF m 445 #[sI p0, sI p1, sI p2, sI p3, sI p4, sI p5, sI a, sI b, sI c, sI nn, sI r1368, sI r1371, sR f01375, sR b1380, sR b1407, sR b1447, sR R1520, sI b1530, sI b1536, sI b1542, sI 3, sR b1701, sI 3] [(.int (2 : Int32)), (.ref R1520)])) _
          refine X1721.iaload hx (j := (2 : Int32)) (v := (.int c)) (by rw [e1721]; exact Ar1734.1) (State.isArrayOf_alike hZ.alike Ar1734.2.1) Ar1734.2.2 hin1734 (H1734.at hin1734 rfl) (g := (mkF m 445 #[sI p0, sI p1, sI p2, sI p3, sI p4, sI p5, sI a, sI b, sI c, sI nn, sI r1368, sI r1371, sR f01375, sR b1380, sR b1407, sR b1447, sR R1520, sI b1530, sI b1536, sI b1542, sI 3, sR b1701, sI 3] [(.int (2 : Int32)), (.ref R1520)])) rfl rfl (hb hby at_445) _ ?_
          show Sg p e below (T1721.setTop (mkF m 446 #[sI p0, sI p1, sI p2, sI p3, sI p4, sI p5, sI a, sI b, sI c, sI nn, sI r1368, sI r1371, sR f01375, sR b1380, sR b1407, sR b1447, sR R1520, sI b1530, sI b1536, sI b1542, sI 3, sR b1701, sI 3] [(.int c)])) _
          refine XS.aload X1721.here hx rfl (hb hby at_446) rfl rfl ?_
          refine XS.iconst X1721.here hx rfl (hb hby at_448) ?_
          show Sg p e below (T1721.setTop (mkF m 449 #[sI p0, sI p1, sI p2, sI p3, sI p4, sI p5, sI a, sI b, sI c, sI nn, sI r1368, sI r1371, sR f01375, sR b1380, sR b1407, sR b1447, sR R1520, sI b1530, sI b1536, sI b1542, sI 3, sR b1701, sI 3] [(.int (2 : Int32)), (.ref b1701), (.int c)])) _
          refine X1721.iaload hx (j := (2 : Int32)) (v := (.int c)) (by rw [e1721]; exact Ar1735.1) (State.isArrayOf_alike hZ.alike Ar1735.2.1) Ar1735.2.2 hin1735 (H1735.at hin1735 rfl) (g := (mkF m 449 #[sI p0, sI p1, sI p2, sI p3, sI p4, sI p5, sI a, sI b, sI c, sI nn, sI r1368, sI r1371, sR f01375, sR b1380, sR b1407, sR b1447, sR R1520, sI b1530, sI b1536, sI b1542, sI 3, sR b1701, sI 3] [(.int (2 : Int32)), (.ref b1701), (.int c)])) rfl rfl (hb hby at_449) _ ?_
          show Sg p e below (T1721.setTop (mkF m 450 #[sI p0, sI p1, sI p2, sI p3, sI p4, sI p5, sI a, sI b, sI c, sI nn, sI r1368, sI r1371, sR f01375, sR b1380, sR b1407, sR b1447, sR R1520, sI b1530, sI b1536, sI b1542, sI 3, sR b1701, sI 3] [(.int c), (.int c)])) _
          refine XS.icmpNo X1721.here hx rfl (hb hby at_450) rfl (teq (show c = c from (rfl : c = c))).2 ?_
          refine XS.iconst X1721.here hx rfl (hb hby at_453) ?_
          refine XS.goto X1721.here hx rfl (pc0 := 454) (pc' := 458) rfl (hb hby at_454) (by decide) (by decide) ?_
          show Sg p e below (T1721.setTop (mkF m 458 #[sI p0, sI p1, sI p2, sI p3, sI p4, sI p5, sI a, sI b, sI c, sI nn, sI r1368, sI r1371, sR f01375, sR b1380, sR b1407, sR b1447, sR R1520, sI b1530, sI b1536, sI b1542, sI 3, sR b1701, sI 3] [(.int (1 : Int32))])) _
          exact retN X1721 hx (t := .boolean) Bd.returns (by simp) (hb hby at_458) hr1736
        · show Q_law  h0 n0 _ T1721.heap _
          rw [e1721]
          exact ⟨rfl, N1724⟩
set_option maxRecDepth 65536 in
set_option maxHeartbeats 40000000 in
theorem comes_1 {Post : Tables → Env → Array Value → State → Outcome → State → Prop} (hpost : ∀ tb e args s v u, (limb_1_1.after args s (.returned v) u = true ∧ limb_1_2.after args s (.returned v) u = true ∧ True) → FrameEnd s (.returned v) u (Jvm.fieldLocs frame_1_writes args s ++ Jvm.arrayLocs frame_1_arrays args s ++ Jvm.staticLocs frame_1_statics s) 48 192 → Post tb e args s (.returned v) u) :
    ArmFor flags0 classFile x code maxLocals ret World_1 tables_1 room_1 Calls_1 rest_1 Pre_1 Post := by
  intro l hfl _ _ p e ha hc hk s m args below hf hA hF happ hP
  obtain ⟨hcalls, hrest, hpre⟩ := hP
  obtain ⟨-, -, -, hnamed, -, -, -, hat⟩ := (Spec.applies_iff hf).mp happ
  obtain ⟨hg, hn⟩ := and_e (Cond.before_iff.mp (show (Jvm.Cond.and given_1 narrow_1).before args s = true from hpre))
  obtain ⟨hcnt, hg0⟩ := and_e hg
  obtain ⟨ga0, hg1⟩ := and_e hg0
  obtain ⟨ga1, hg2⟩ := and_e hg1
  obtain ⟨ga2, hg3⟩ := and_e hg2
  obtain ⟨ga3, hg4⟩ := and_e hg3
  obtain ⟨ga4, hg5⟩ := and_e hg4
  obtain ⟨w0, w1, w2, w3, w4, w5, rfl⟩ : ∃ w0 w1 w2 w3 w4 w5 : Value, args = #[w0, w1, w2, w3, w4, w5] := by
    have hs : args.size = 6 := by simpa [Cond.value, given_1] using hcnt
    obtain ⟨L⟩ := args
    match L, hs with
    | [w0, w1, w2, w3, w4, w5], _ => exact ⟨w0, w1, w2, w3, w4, w5, rfl⟩
  have hw := fun d (hd : d ∈ tables_1) => atoms_spec (ws := Jvm.Cond.code x code maxLocals ret :: tables_1) hat d (List.mem_cons_of_mem _ hd)
  have hfit : Fit s := fun {y c} hc i hi => by
    obtain ⟨ha, rfl⟩ := Array.getElem?_eq_some_iff.mp hc
    have q := List.all_eq_true.mp ((Array.all_eq_true_iff_forall_mem.mp hF) _ (Array.getElem_mem ha)) i (List.mem_range.mpr hi)
    simpa [Array.getElem?_eq_getElem hi] using q
  obtain ⟨i0, ei0⟩ := is_v ga0
  obtain rfl : w0 = (.int i0) := Option.some.inj ei0
  obtain ⟨i1, ei1⟩ := is_v ga1
  obtain rfl : w1 = (.int i1) := Option.some.inj ei1
  obtain ⟨i2, ei2⟩ := is_v ga2
  obtain rfl : w2 = (.int i2) := Option.some.inj ei2
  obtain ⟨i3, ei3⟩ := is_v ga3
  obtain rfl : w3 = (.int i3) := Option.some.inj ei3
  obtain ⟨i4, ei4⟩ := is_v ga4
  obtain rfl : w4 = (.int i4) := Option.some.inj ei4
  obtain ⟨i5, ei5⟩ := is_v hg5
  obtain rfl : w5 = (.int i5) := Option.some.inj ei5
  obtain ⟨n, o, h1, h2, h3, _, L, rfl, ⟨rfl, N⟩, hq⟩ := rm_law l s _ hw tables_1 i0 i1 i2 i3 i4 i5  s.heap s.heap.size (Nat.le_refl _) (Old.start s)  p e ha hc hk s m _ below hf ((Spec.applies_iff_loose hf).mp happ).1 ⟨rfl, State.Warmed39.refl s, rfl⟩ trivial
  refine ⟨n, _, h1, h2, h3, hpost _ _ _ _ _ _ ⟨Cond.after_iff.mpr rfl, Cond.after_iff.mpr (eq_i res_at (Term.int_eval (1)) rfl), trivial⟩ ⟨hq.1, hq.2.1, (hq.2.2.sift fun y hy => Or.inr (N y hy)).mono (Nat.le_of_ble_eq_true rfl) (Nat.le_of_ble_eq_true rfl)⟩⟩
theorem main_1_1 : Claimed_1_1 := comes_1 fun _ _ _ _ _ _ h hF => ⟨h.1, hF⟩
theorem main_1_2 : Claimed_1_2 := comes_1 fun _ _ _ _ _ _ h hF => ⟨h.2.1, hF⟩
end Jvm.Pilot.@@N@@
namespace Jvm.Pilot.@@N@@
open Jvm Jvm.ClassFile Sem Op Lib Jvm.Free Jvm.Stand Jvm.Pilot.@@N@@.Jvm.D
/-! MADE BY PROGRAM (witnessworld.py) out of the Statement's table words and the real class files: 19 classes; the members and pool entries that the words name. The judged class is class 1, her method 3. -/
namespace start1
open Jvm.ClassFile
def u (s : String) : CpInfo := .utf8 (stringToUtf16 s)
/-- a pool by its gaps: so many unusable entries, then the entry; so many at the end -/
def gap : Nat → List CpInfo → List CpInfo
  | 0, r => r
  | n + 1, r => .unusable :: gap n r
def poolList (es : List (Nat × CpInfo)) (last : Nat) : List CpInfo := es.foldr (fun e r => gap e.1 (e.2 :: r)) (gap last [])
def pool (es : List (Nat × CpInfo)) (last : Nat) : Array CpInfo := ⟨poolList es last⟩
def fileOf (pool : Array CpInfo) (this : Nat) (attrs : Array Attribute := #[]) (ms : Array MethodInfo := #[]) (fl : Nat := 33) (sup : Nat := 0) (ifs : Array Nat := #[]) (fds : Array FieldInfo := #[]) : ClassFile where
  minorVersion := 0
  majorVersion := 65
  constantPool := pool
  accessFlags := fl
  thisClass := this
  superClass := sup
  interfaces := ifs
  fields := fds
  methods := ms
  attributes := attrs
def plain (name : String) (sup : Option ClassId) : Class where
  name := name
  kind := .ordinary
  loader := none
  accessFlags := 33
  super := sup
  interfaces := #[]
  cf := none
  fields := #[]
  methods := #[]
  instanceTypes := #[]
  staticTypes := #[]
  resolved := #[]
  callSites := []
  init := .initialized
  statics := none
  mirror := none

def pool0 : Array CpInfo := pool [(5, u "<init>"), (0, u "()V"), (1, .class_ 10), (1, u "java/lang/Object")] 113

def k0c0 : Code := { maxStack := 0, maxLocals := 1, code := object_method_1_code, exceptionTable := #[], attributes := #[] }
def k0m0 : Method := { name := "<init>", desc := "()V", sig := { parameters := [], returnType := none }, accessFlags := 1, code := some k0c0 }
/-- java/lang/Object -/
def k0 : Class := { plain "java/lang/Object" none with
  accessFlags := 33
  interfaces := #[]
  cf := some (fileOf pool0 8 #[] #[{ accessFlags := 1, nameIndex := 5, descriptorIndex := 6, attributes := #[] }] 33 0 #[] #[])
  fields := #[]
  methods := #[k0m0]
  instanceTypes := #[]
  staticTypes := #[]
  resolved := Array.replicate 124 none
  statics := none }

def pool1 : Array CpInfo := pool [(2, .class_ 4), (0, .nameAndType 5 6), (0, u "java/lang/Object"), (0, u "<init>"), (0, u "()V"), (0, .integer 268435455), (0, .integer 1073741823), (0, .methodref 10 11), (0, .class_ 12), (0, .nameAndType 13 14), (0, u "com/example/whittle/whittle/engine/MeetMembersPinLaw"), (0, u "gap"), (0, u "(I)I"), (0, .methodref 10 16), (0, .nameAndType 17 18), (0, u "pick"), (0, u "(IIII)I"), (0, .class_ 20), (0, u "com/example/whittle/whittle/engine/WordSets"), (0, .class_ 22), (0, u "[I"), (0, .methodref 19 24), (0, .nameAndType 5 25), (0, u "([[I)V"), (0, .class_ 27), (0, u "com/example/whittle/whittle/engine/WordSets$Meet"), (0, .methodref 26 3), (0, .methodref 26 30), (0, .nameAndType 31 32), (0, u "start"), (0, u "(Lcom/example/whittle/whittle/engine/WordSets;I)V"), (0, .methodref 26 34), (0, .nameAndType 35 36), (0, u "remove"), (0, u "(I)V"), (0, .methodref 26 38), (0, .nameAndType 39 40), (0, u "members"), (0, u "()[I"), (3, u "law"), (0, u "(IIIIII)Z")] 4

def k1m0 : Method := { name := "<init>", desc := "()V", sig := { parameters := [], returnType := none }, accessFlags := 1, code := none }
def k1c1 : Code := { maxStack := 2, maxLocals := 1, code := method_2_code, exceptionTable := #[], attributes := #[] }
def k1m1 : Method := { name := "gap", desc := "(I)I", sig := { parameters := [.int], returnType := some .int }, accessFlags := 10, code := some k1c1 }
def k1c2 : Code := { maxStack := 2, maxLocals := 5, code := method_3_code, exceptionTable := #[], attributes := #[] }
def k1m2 : Method := { name := "pick", desc := "(IIII)I", sig := { parameters := [.int, .int, .int, .int], returnType := some .int }, accessFlags := 10, code := some k1c2 }
def k1c3 : Code := { maxStack := 6, maxLocals := 23, code := code, exceptionTable := #[], attributes := #[] }
def k1m3 : Method := { name := "law", desc := "(IIIIII)Z", sig := { parameters := [.int, .int, .int, .int, .int, .int], returnType := some .boolean }, accessFlags := 9, code := some k1c3 }
/-- com/example/whittle/whittle/engine/MeetMembersPinLaw -/
def k1 : Class := { plain "com/example/whittle/whittle/engine/MeetMembersPinLaw" (some 0) with
  accessFlags := 49
  interfaces := #[]
  cf := some (fileOf pool1 10 #[] #[{ accessFlags := 1, nameIndex := 5, descriptorIndex := 6, attributes := #[] }, { accessFlags := 10, nameIndex := 13, descriptorIndex := 14, attributes := #[] }, { accessFlags := 10, nameIndex := 17, descriptorIndex := 18, attributes := #[] }, { accessFlags := 9, nameIndex := 44, descriptorIndex := 45, attributes := #[] }] 49 2 #[] #[])
  fields := #[]
  methods := #[k1m0, k1m1, k1m2, k1m3]
  instanceTypes := #[]
  staticTypes := #[]
  resolved := Array.replicate 50 none
  statics := none }

def pool2 : Array CpInfo := pool [(1, .methodref 2 3), (0, .class_ 4), (0, .nameAndType 5 6), (0, u "java/lang/Object"), (0, u "<init>"), (0, u "()V"), (0, .class_ 8), (0, u "[I"), (0, .fieldref 10 11), (0, .class_ 12), (0, .nameAndType 13 14), (0, u "com/example/whittle/whittle/engine/WordSets"), (0, u "places"), (0, u "[[I"), (0, .class_ 16), (0, u "[J"), (0, .fieldref 10 18), (0, .nameAndType 19 20), (0, u "words"), (0, u "[[J"), (10, u "members"), (0, u "([I[JI)[I"), (0, .methodref 34 35), (0, .class_ 36), (0, .nameAndType 37 38), (0, u "java/lang/Long"), (0, u "bitCount"), (0, u "(J)I"), (0, .methodref 34 40), (0, .nameAndType 41 38), (0, u "numberOfTrailingZeros"), (0, u "([[I)V"), (10, .class_ 54), (0, u "com/example/whittle/whittle/engine/WordSets$Meet")] 2

def k2c0 : Code := { maxStack := 8, maxLocals := 9, code := prog_22_method_1_code, exceptionTable := #[], attributes := #[] }
def k2m0 : Method := { name := "<init>", desc := "([[I)V", sig := { parameters := [(.array (.array .int))], returnType := none }, accessFlags := 0, code := some k2c0 }
def k2c1 : Code := { maxStack := 6, maxLocals := 9, code := prog_22_method_4_code, exceptionTable := #[], attributes := #[] }
def k2m1 : Method := { name := "members", desc := "([I[JI)[I", sig := { parameters := [(.array .int), (.array .long), .int], returnType := some (.array .int) }, accessFlags := 10, code := some k2c1 }
/-- com/example/whittle/whittle/engine/WordSets -/
def k2 : Class := { plain "com/example/whittle/whittle/engine/WordSets" (some 0) with
  accessFlags := 48
  interfaces := #[]
  cf := some (fileOf pool2 10 #[.nestMembers #[53]] #[{ accessFlags := 0, nameIndex := 5, descriptorIndex := 42, attributes := #[] }, { accessFlags := 10, nameIndex := 31, descriptorIndex := 32, attributes := #[] }] 48 2 #[] #[{ accessFlags := 18, nameIndex := 13, descriptorIndex := 14, attributes := #[] }, { accessFlags := 18, nameIndex := 19, descriptorIndex := 20, attributes := #[] }])
  fields := #[{ name := "places", type := (.array (.array .int)), accessFlags := 18, slot := 0, constantValue := 0 }, { name := "words", type := (.array (.array .long)), accessFlags := 18, slot := 1, constantValue := 0 }]
  methods := #[k2m0, k2m1]
  instanceTypes := #[(.array (.array .int)), (.array (.array .long))]
  staticTypes := #[]
  resolved := Array.replicate 57 none
  statics := none }

def pool3 : Array CpInfo := pool [(1, .methodref 2 3), (0, .class_ 4), (0, .nameAndType 5 6), (0, u "java/lang/Object"), (0, u "<init>"), (0, u "()V"), (0, .fieldref 8 9), (0, .class_ 10), (0, .nameAndType 11 12), (0, u "com/example/whittle/whittle/engine/WordSets$Meet"), (0, u "places"), (0, u "[I"), (0, .fieldref 8 14), (0, .nameAndType 15 16), (0, u "words"), (0, u "[J"), (0, .fieldref 18 19), (0, .class_ 20), (0, .nameAndType 11 21), (0, u "com/example/whittle/whittle/engine/WordSets"), (0, u "[[I"), (0, .fieldref 18 23), (0, .nameAndType 15 24), (0, u "[[J"), (0, .fieldref 8 26), (0, .nameAndType 27 28), (0, u "count"), (0, u "I"), (0, .methodref 30 31), (0, .class_ 32), (0, .nameAndType 33 34), (0, u "java/util/Arrays"), (0, u "binarySearch"), (0, u "([IIII)I"), (0, .long 18446744073709551615), (1, .methodref 18 38), (0, .nameAndType 39 40), (0, u "members"), (0, u "([I[JI)[I"), (2, u "start"), (0, u "(Lcom/example/whittle/whittle/engine/WordSets;I)V"), (4, u "remove"), (0, u "(I)V"), (2, u "()[I")] 5

def k3c0 : Code := { maxStack := 2, maxLocals := 1, code := prog_23_method_1_code, exceptionTable := #[], attributes := #[] }
def k3m0 : Method := { name := "<init>", desc := "()V", sig := { parameters := [], returnType := none }, accessFlags := 0, code := some k3c0 }
def k3c1 : Code := { maxStack := 5, maxLocals := 6, code := prog_23_method_2_code, exceptionTable := #[], attributes := #[] }
def k3m1 : Method := { name := "start", desc := "(Lcom/example/whittle/whittle/engine/WordSets;I)V", sig := { parameters := [(.object "com/example/whittle/whittle/engine/WordSets"), .int], returnType := none }, accessFlags := 0, code := some k3c1 }
def k3c2 : Code := { maxStack := 8, maxLocals := 3, code := prog_23_method_4_code, exceptionTable := #[], attributes := #[] }
def k3m2 : Method := { name := "remove", desc := "(I)V", sig := { parameters := [.int], returnType := none }, accessFlags := 0, code := some k3c2 }
def k3c3 : Code := { maxStack := 3, maxLocals := 1, code := prog_23_method_6_code, exceptionTable := #[], attributes := #[] }
def k3m3 : Method := { name := "members", desc := "()[I", sig := { parameters := [], returnType := some (.array .int) }, accessFlags := 0, code := some k3c3 }
/-- com/example/whittle/whittle/engine/WordSets$Meet -/
def k3 : Class := { plain "com/example/whittle/whittle/engine/WordSets$Meet" (some 0) with
  accessFlags := 48
  interfaces := #[]
  cf := some (fileOf pool3 8 #[.nestHost 18] #[{ accessFlags := 0, nameIndex := 5, descriptorIndex := 6, attributes := #[] }, { accessFlags := 0, nameIndex := 43, descriptorIndex := 44, attributes := #[] }, { accessFlags := 0, nameIndex := 49, descriptorIndex := 50, attributes := #[] }, { accessFlags := 0, nameIndex := 39, descriptorIndex := 53, attributes := #[] }] 48 2 #[] #[{ accessFlags := 2, nameIndex := 11, descriptorIndex := 12, attributes := #[] }, { accessFlags := 2, nameIndex := 15, descriptorIndex := 16, attributes := #[] }, { accessFlags := 2, nameIndex := 27, descriptorIndex := 28, attributes := #[] }])
  fields := #[{ name := "places", type := (.array .int), accessFlags := 2, slot := 0, constantValue := 0 }, { name := "words", type := (.array .long), accessFlags := 2, slot := 1, constantValue := 0 }, { name := "count", type := .int, accessFlags := 2, slot := 2, constantValue := 0 }]
  methods := #[k3m0, k3m1, k3m2, k3m3]
  instanceTypes := #[(.array .int), (.array .long), .int]
  staticTypes := #[]
  resolved := Array.replicate 59 none
  statics := none }

def pool4 : Array CpInfo := pool [(2, .class_ 4), (1, u "java/lang/Object"), (0, u "<init>"), (0, u "()V"), (6, .methodref 14 15), (0, .class_ 16), (0, .nameAndType 17 18), (0, u "java/util/Arrays"), (0, u "rangeCheck"), (0, u "(III)V"), (55, .class_ 76), (1, u "java/util/Arrays$NaturalOrder"), (36, .class_ 115), (1, u "java/util/Arrays$LegacyMergeSort"), (1, u "Z"), (89, u "binarySearch0"), (1, .methodref 14 210), (0, .nameAndType 207 211), (0, u "([IIII)I"), (163, .class_ 376), (0, u "java/util/Arrays$ArrayList"), (68, u "$assertionsDisabled"), (269, u "MIN_ARRAY_SORT_GRAN"), (0, u "I"), (2, u "INSERTIONSORT_THRESHOLD"), (74, u "binarySearch"), (180, .class_ 976), (0, u "java/util/Arrays$ArrayItr")] 52

def k4m0 : Method := { name := "<init>", desc := "()V", sig := { parameters := [], returnType := none }, accessFlags := 2, code := none }
def k4c1 : Code := { maxStack := 4, maxLocals := 3, code := jdk_65_method_30_code, exceptionTable := #[], attributes := #[] }
def k4m1 : Method := { name := "rangeCheck", desc := "(III)V", sig := { parameters := [.int, .int, .int], returnType := none }, accessFlags := 8, code := some k4c1 }
def k4c2 : Code := { maxStack := 4, maxLocals := 4, code := jdk_65_method_58_code, exceptionTable := #[], attributes := #[] }
def k4m2 : Method := { name := "binarySearch", desc := "([IIII)I", sig := { parameters := [(.array .int), .int, .int, .int], returnType := some .int }, accessFlags := 9, code := some k4c2 }
def k4c3 : Code := { maxStack := 2, maxLocals := 8, code := jdk_65_method_59_code, exceptionTable := #[], attributes := #[] }
def k4m3 : Method := { name := "binarySearch0", desc := "([IIII)I", sig := { parameters := [(.array .int), .int, .int, .int], returnType := some .int }, accessFlags := 10, code := some k4c3 }
/-- java/util/Arrays -/
def k4 : Class := { plain "java/util/Arrays" (some 0) with
  accessFlags := 49
  interfaces := #[]
  cf := some (fileOf pool4 14 #[.nestMembers #[975, 375, 113, 74]] #[{ accessFlags := 2, nameIndex := 5, descriptorIndex := 6, attributes := #[] }, { accessFlags := 8, nameIndex := 17, descriptorIndex := 18, attributes := #[] }, { accessFlags := 9, nameIndex := 794, descriptorIndex := 211, attributes := #[] }, { accessFlags := 10, nameIndex := 207, descriptorIndex := 211, attributes := #[] }] 49 2 #[] #[{ accessFlags := 26, nameIndex := 715, descriptorIndex := 716, attributes := #[] }, { accessFlags := 26, nameIndex := 719, descriptorIndex := 716, attributes := #[] }, { accessFlags := 4120, nameIndex := 445, descriptorIndex := 117, attributes := #[] }])
  fields := #[{ name := "MIN_ARRAY_SORT_GRAN", type := .int, accessFlags := 26, slot := 0, constantValue := 0 }, { name := "INSERTIONSORT_THRESHOLD", type := .int, accessFlags := 26, slot := 1, constantValue := 0 }, { name := "$assertionsDisabled", type := .boolean, accessFlags := 4120, slot := 2, constantValue := 0 }]
  methods := #[k4m0, k4m1, k4m2, k4m3]
  instanceTypes := #[]
  staticTypes := #[.int, .int, .boolean]
  resolved := Array.replicate 1029 none
  statics := none }

def pool5 : Array CpInfo := pool [(1, .class_ 2), (0, u "java/io/Serializable"), (0, .class_ 4), (0, u "java/lang/Object")] 2

/-- java/io/Serializable -/
def k5 : Class := { plain "java/io/Serializable" (some 0) with
  accessFlags := 1537
  interfaces := #[]
  cf := some (fileOf pool5 1 #[] #[] 1537 3 #[] #[])
  fields := #[]
  methods := #[]
  instanceTypes := #[]
  staticTypes := #[]
  resolved := Array.replicate 7 none
  statics := none }

def pool6 : Array CpInfo := pool [(2, .class_ 4), (1, u "java/lang/Object"), (0, u "<init>"), (0, u "()V"), (1, .class_ 10), (1, u "java/lang/Number"), (2, .class_ 14), (0, u "java/io/Serializable"), (0, u "serialVersionUID"), (0, u "J")] 20

def k6m0 : Method := { name := "<init>", desc := "()V", sig := { parameters := [], returnType := none }, accessFlags := 1, code := none }
/-- java/lang/Number -/
def k6 : Class := { plain "java/lang/Number" (some 0) with
  accessFlags := 1057
  interfaces := #[5]
  cf := some (fileOf pool6 8 #[] #[{ accessFlags := 1, nameIndex := 5, descriptorIndex := 6, attributes := #[] }] 1057 2 #[13] #[{ accessFlags := 26, nameIndex := 15, descriptorIndex := 16, attributes := #[] }])
  fields := #[{ name := "serialVersionUID", type := .long, accessFlags := 26, slot := 0, constantValue := 0 }]
  methods := #[k6m0]
  instanceTypes := #[]
  staticTypes := #[.long]
  resolved := Array.replicate 37 none
  statics := none }

def pool7 : Array CpInfo := pool [(1, .class_ 2), (0, u "java/lang/Comparable"), (0, .class_ 4), (0, u "java/lang/Object")] 7

/-- java/lang/Comparable -/
def k7 : Class := { plain "java/lang/Comparable" (some 0) with
  accessFlags := 1537
  interfaces := #[]
  cf := some (fileOf pool7 1 #[] #[] 1537 3 #[] #[])
  fields := #[]
  methods := #[]
  instanceTypes := #[]
  staticTypes := #[]
  resolved := Array.replicate 12 none
  statics := none }

def pool8 : Array CpInfo := pool [(1, .class_ 2), (0, u "java/lang/constant/Constable"), (0, .class_ 4), (0, u "java/lang/Object")] 6

/-- java/lang/constant/Constable -/
def k8 : Class := { plain "java/lang/constant/Constable" (some 0) with
  accessFlags := 1537
  interfaces := #[]
  cf := some (fileOf pool8 1 #[] #[] 1537 3 #[] #[])
  fields := #[]
  methods := #[]
  instanceTypes := #[]
  staticTypes := #[]
  resolved := Array.replicate 11 none
  statics := none }

def pool9 : Array CpInfo := pool [(1, .class_ 2), (0, u "java/lang/constant/ConstantDesc"), (0, .class_ 4), (0, u "java/lang/Object")] 32

/-- java/lang/constant/ConstantDesc -/
def k9 : Class := { plain "java/lang/constant/ConstantDesc" (some 0) with
  accessFlags := 1537
  interfaces := #[]
  cf := some (fileOf pool9 1 #[] #[] 1537 3 #[] #[])
  fields := #[]
  methods := #[]
  instanceTypes := #[]
  staticTypes := #[]
  resolved := Array.replicate 37 none
  statics := none }

def pool10 : Array CpInfo := pool [(1, .class_ 2), (0, u "java/lang/Long"), (15, .class_ 20), (1, u "java/lang/Integer"), (80, u "(J)I"), (133, .class_ 237), (1, u "java/lang/Long$LongCache"), (33, .class_ 272), (0, u "java/lang/Number"), (2, u "value"), (0, u "J"), (33, u "(I)I"), (0, .methodref 18 312), (0, .nameAndType 313 310), (0, u "numberOfTrailingZeros"), (0, .long 6148914691236517205), (1, .long 3689348814741910323), (1, .long 1085102592571150095), (42, u "TYPE"), (0, u "Ljava/lang/Class;"), (0, .class_ 364), (0, u "java/lang/Comparable"), (0, .class_ 366), (0, u "java/lang/constant/Constable"), (0, .class_ 368), (0, u "java/lang/constant/ConstantDesc"), (0, u "MIN_VALUE"), (1, u "MAX_VALUE"), (4, u "SIZE"), (0, u "I"), (1, u "BYTES"), (1, u "serialVersionUID"), (94, u "bitCount")] 47

def k10c0 : Code := { maxStack := 4, maxLocals := 3, code := jdk_35_method_49_code, exceptionTable := #[], attributes := #[] }
def k10m0 : Method := { name := "numberOfTrailingZeros", desc := "(J)I", sig := { parameters := [.long], returnType := some .int }, accessFlags := 9, code := some k10c0 }
def k10c1 : Code := { maxStack := 6, maxLocals := 2, code := jdk_35_method_50_code, exceptionTable := #[], attributes := #[] }
def k10m1 : Method := { name := "bitCount", desc := "(J)I", sig := { parameters := [.long], returnType := some .int }, accessFlags := 9, code := some k10c1 }
/-- java/lang/Long -/
def k10 : Class := { plain "java/lang/Long" (some 6) with
  accessFlags := 49
  interfaces := #[7, 8, 9]
  cf := some (fileOf pool10 1 #[.nestMembers #[235]] #[{ accessFlags := 9, nameIndex := 313, descriptorIndex := 101, attributes := #[] }, { accessFlags := 9, nameIndex := 476, descriptorIndex := 101, attributes := #[] }] 49 271 #[363, 365, 367] #[{ accessFlags := 25, nameIndex := 369, descriptorIndex := 276, attributes := #[] }, { accessFlags := 25, nameIndex := 371, descriptorIndex := 276, attributes := #[] }, { accessFlags := 25, nameIndex := 361, descriptorIndex := 362, attributes := #[] }, { accessFlags := 18, nameIndex := 275, descriptorIndex := 276, attributes := #[] }, { accessFlags := 25, nameIndex := 376, descriptorIndex := 377, attributes := #[] }, { accessFlags := 25, nameIndex := 379, descriptorIndex := 377, attributes := #[] }, { accessFlags := 26, nameIndex := 381, descriptorIndex := 276, attributes := #[] }])
  fields := #[{ name := "MIN_VALUE", type := .long, accessFlags := 25, slot := 0, constantValue := 0 }, { name := "MAX_VALUE", type := .long, accessFlags := 25, slot := 1, constantValue := 0 }, { name := "TYPE", type := (.object "java/lang/Class"), accessFlags := 25, slot := 2, constantValue := 0 }, { name := "value", type := .long, accessFlags := 18, slot := 0, constantValue := 0 }, { name := "SIZE", type := .int, accessFlags := 25, slot := 3, constantValue := 0 }, { name := "BYTES", type := .int, accessFlags := 25, slot := 4, constantValue := 0 }, { name := "serialVersionUID", type := .long, accessFlags := 26, slot := 5, constantValue := 0 }]
  methods := #[k10m0, k10m1]
  instanceTypes := #[.long]
  staticTypes := #[.long, .long, (.object "java/lang/Class"), .int, .int, .long]
  resolved := Array.replicate 524 none
  statics := none }

def pool11 : Array CpInfo := pool [(1, .class_ 2), (0, u "java/lang/Integer"), (16, u "digits"), (0, u "[C"), (33, u "(I)I"), (30, u "DigitOnes"), (0, u "[B"), (2, u "DigitTens"), (99, .class_ 190), (0, u "java/lang/Integer$IntegerCache"), (3, u "I"), (8, .class_ 204), (0, u "java/lang/Number"), (2, u "value"), (56, .integer 65536), (37, u "TYPE"), (0, u "Ljava/lang/Class;"), (0, .class_ 305), (0, u "java/lang/Comparable"), (0, .class_ 307), (0, u "java/lang/constant/Constable"), (0, .class_ 309), (0, u "java/lang/constant/ConstantDesc"), (0, u "MIN_VALUE"), (1, u "MAX_VALUE"), (3, u "SIZE"), (1, u "BYTES"), (1, u "serialVersionUID"), (0, u "J"), (84, u "numberOfTrailingZeros")] 46

def k11c0 : Code := { maxStack := 3, maxLocals := 2, code := jdk_33_method_48_code, exceptionTable := #[], attributes := #[] }
def k11m0 : Method := { name := "numberOfTrailingZeros", desc := "(I)I", sig := { parameters := [.int], returnType := some .int }, accessFlags := 9, code := some k11c0 }
/-- java/lang/Integer -/
def k11 : Class := { plain "java/lang/Integer" (some 6) with
  accessFlags := 49
  interfaces := #[7, 8, 9]
  cf := some (fileOf pool11 1 #[.nestMembers #[189]] #[{ accessFlags := 9, nameIndex := 406, descriptorIndex := 54, attributes := #[] }] 49 203 #[304, 306, 308] #[{ accessFlags := 25, nameIndex := 310, descriptorIndex := 194, attributes := #[] }, { accessFlags := 25, nameIndex := 312, descriptorIndex := 194, attributes := #[] }, { accessFlags := 25, nameIndex := 302, descriptorIndex := 303, attributes := #[] }, { accessFlags := 24, nameIndex := 19, descriptorIndex := 20, attributes := #[] }, { accessFlags := 24, nameIndex := 89, descriptorIndex := 86, attributes := #[] }, { accessFlags := 24, nameIndex := 85, descriptorIndex := 86, attributes := #[] }, { accessFlags := 18, nameIndex := 207, descriptorIndex := 194, attributes := #[] }, { accessFlags := 25, nameIndex := 316, descriptorIndex := 194, attributes := #[] }, { accessFlags := 25, nameIndex := 318, descriptorIndex := 194, attributes := #[] }, { accessFlags := 26, nameIndex := 320, descriptorIndex := 321, attributes := #[] }])
  fields := #[{ name := "MIN_VALUE", type := .int, accessFlags := 25, slot := 0, constantValue := 0 }, { name := "MAX_VALUE", type := .int, accessFlags := 25, slot := 1, constantValue := 0 }, { name := "TYPE", type := (.object "java/lang/Class"), accessFlags := 25, slot := 2, constantValue := 0 }, { name := "digits", type := (.array .char), accessFlags := 24, slot := 3, constantValue := 0 }, { name := "DigitTens", type := (.array .byte), accessFlags := 24, slot := 4, constantValue := 0 }, { name := "DigitOnes", type := (.array .byte), accessFlags := 24, slot := 5, constantValue := 0 }, { name := "value", type := .int, accessFlags := 18, slot := 0, constantValue := 0 }, { name := "SIZE", type := .int, accessFlags := 25, slot := 6, constantValue := 0 }, { name := "BYTES", type := .int, accessFlags := 25, slot := 7, constantValue := 0 }, { name := "serialVersionUID", type := .long, accessFlags := 26, slot := 8, constantValue := 0 }]
  methods := #[k11m0]
  instanceTypes := #[.int]
  staticTypes := #[.int, .int, (.object "java/lang/Class"), (.array .char), (.array .byte), (.array .byte), .int, .int, .long]
  resolved := Array.replicate 453 none
  statics := none }

def pool12 : Array CpInfo := pool [(1, u "java/lang/Cloneable"), (0, .class_ 1), (0, u "java/lang/Object"), (0, .class_ 3)] 3

/-- java/lang/Cloneable -/
def k12 : Class := { plain "java/lang/Cloneable" (some 0) with
  accessFlags := 1537
  interfaces := #[]
  cf := some (fileOf pool12 2 #[] #[] 1537 4 #[] #[])
  fields := #[]
  methods := #[]
  instanceTypes := #[]
  staticTypes := #[]
  resolved := Array.replicate 8 none
  statics := none }

/-- the primitive byte -/
def k13 : Class := { plain "byte" none with kind := .primitive 'B', accessFlags := 0x411 }
/-- [B -/
def k14 : Class := { plain "[B" (some 0) with kind := .array 13 .byte, interfaces := #[12, 5], accessFlags := 1041 }

/-- the primitive int -/
def k15 : Class := { plain "int" none with kind := .primitive 'I', accessFlags := 0x411 }
/-- [I -/
def k16 : Class := { plain "[I" (some 0) with kind := .array 15 .int, interfaces := #[12, 5], accessFlags := 1041 }

/-- the primitive long -/
def k17 : Class := { plain "long" none with kind := .primitive 'J', accessFlags := 0x411 }
/-- [J -/
def k18 : Class := { plain "[J" (some 0) with kind := .array 17 .long, interfaces := #[12, 5], accessFlags := 1041 }

/-- [[I -/
def k19 : Class := { plain "[[I" (some 0) with kind := .array 16 (.array .int), interfaces := #[12, 5], accessFlags := 1041 }
/-- [[J -/
def k20 : Class := { plain "[[J" (some 0) with kind := .array 18 (.array .long), interfaces := #[12, 5], accessFlags := 1041 }
def heap : Heap := #[]
def classes : Array Class := #[k0, k1, k2, k3, k4, k5, k6, k7, k8, k9, k10, k11, k12, k13, k14, k15, k16, k17, k18, k19, k20]
def interned : List (Array UInt16 × Addr) := []
def slotsUsed : Nat := 0
def theMethod : MethodId := ⟨1, 3⟩
def args0 : Array Value := #[.int 1, .int 2, .int 3, .int 4, .int 5, .int 6]
def aboutOver (below : List Frame) : State where
  vm := { classes := classes, interned := interned.toArray }
  heap := heap
  slotsUsed := slotsUsed
  threads := #[{ frames := .invoking theMethod args0 :: below }]
def below0 : List Frame := [.native { method := ⟨0, 0⟩, args := #[] }]
def about1 : State := aboutOver below0
def p0 : Program := .bare "" "" ""
def e0 : Env := launch0.env 0 0 0
theorem w_frames : about1.frames = Frame.invoking theMethod args0 :: below0 := rfl
set_option maxRecDepth 65536 in
theorem w_args : argsFit about1.vm theMethod args0 = true := by decide +kernel
set_option maxRecDepth 65536 in
theorem w_heap : heapFits about1 = true := by decide +kernel
set_option maxRecDepth 65536 in
theorem w_runnable : about1.curStatus? = some .runnable := by decide +kernel
set_option maxRecDepth 65536 in
theorem w_alone : about1.alone = true := by decide +kernel
set_option maxRecDepth 65536 in
theorem w_named : about1.methodNamed? x = some theMethod := by decide +kernel
set_option maxRecDepth 65536 in
theorem w_hears : about1.hears theMethod below0 = true := by decide +kernel
set_option maxRecDepth 65536 in
theorem w_ripe : about1.ripe theMethod args0 below0 = true := by decide +kernel
theorem w_running : about1.status = .running := rfl
set_option maxRecDepth 65536 in
theorem w_room : about1.hasRoom e0.platform room_1 = true :=
  launch0.hasRoom_least _ room_1 (by decide +kernel) (by decide +kernel) (by decide +kernel) (by decide +kernel) (by decide +kernel) (by decide +kernel)
theorem allAtoms_all (ts : List Jvm.Cond) (a : Array Jvm.Value) (st : Jvm.State) : (allAtoms ts).before a st = ts.all (fun c => c.before a st) := by
  induction ts with
  | nil => rfl
  | cons c t ih =>
    show (Jvm.Cond.and c (allAtoms t)).before a st = _
    rw [Jvm.Cond.before_and, ih, List.all_cons]
def words1 : List Jvm.Cond := Jvm.Cond.code x code maxLocals ret :: tables_1
/-- a 'code' word, met by the world's own term for the bytes: nothing is compared byte by byte -/
theorem code_word {y : MethodName} {bytes : ByteArray} {mx : Nat} {rt : Option FieldType} {a : Array Value} {s : State} {m : MethodId} {meth : Method} {c : Code} (h1 : s.methodNamed? y = some m) (h2 : s.vm.method? m = some meth) (h3 : meth.code = some c) (h4 : c.code = bytes)
    (h5 : (c.maxLocals == mx && c.exceptionTable.isEmpty && decide (c.maxStack ≤ mostOperands) && decide (meth.sig.returnType = rt) && !meth.locks && decide (parseMethodDescriptor y.desc = some meth.sig)) = true) : (Jvm.Cond.code y bytes mx rt).before a s = true := by
  simp only [Bool.and_eq_true, beq_iff_eq, Bool.not_eq_true', decide_eq_true_eq] at h5
  obtain ⟨⟨⟨⟨⟨g1, g2⟩, g3⟩, g4⟩, g5⟩, g6⟩ := h5
  simp [Cond.before, Cond.holds, Cond.value, h1, h2, h3, h4, g1, g2, g3, g4, g5, g6]
def isCode : Jvm.Cond → Bool
  | .code _ _ _ _ => true
  | _ => false
theorem all_split {L : List Jvm.Cond} {P : Jvm.Cond → Bool} (h1 : L.all (fun c => isCode c || P c) = true) (h2 : ∀ c ∈ L.filter isCode, P c = true) : L.all P = true := by
  refine List.all_eq_true.mpr fun c hc => ?_
  have h := List.all_eq_true.mp h1 c hc
  rcases Bool.eq_false_or_eq_true (isCode c) with hi | hi
  · exact h2 c (List.mem_filter.mpr ⟨hc, hi⟩)
  · simpa [hi] using h
set_option maxRecDepth 65536 in
theorem w_c0 : (Jvm.Cond.code x code maxLocals ret).before args0 about1 = true := code_word (m := ⟨1, 3⟩) (meth := k1m3) (c := k1c3) (by decide +kernel) rfl rfl rfl (by decide +kernel)
set_option maxRecDepth 65536 in
theorem w_c1 : (Jvm.Cond.code ({ cls := "com/example/whittle/whittle/engine/MeetMembersPinLaw", name := "gap", desc := "(I)I" } : Jvm.MethodName) method_2_code (1 : Nat) (Option.some Jvm.ClassFile.FieldType.int)).before args0 about1 = true := code_word (m := ⟨1, 1⟩) (meth := k1m1) (c := k1c1) (by decide +kernel) rfl rfl rfl (by decide +kernel)
set_option maxRecDepth 65536 in
theorem w_c2 : (Jvm.Cond.code ({ cls := "com/example/whittle/whittle/engine/MeetMembersPinLaw", name := "pick", desc := "(IIII)I" } : Jvm.MethodName) method_3_code (5 : Nat) (Option.some Jvm.ClassFile.FieldType.int)).before args0 about1 = true := code_word (m := ⟨1, 2⟩) (meth := k1m2) (c := k1c2) (by decide +kernel) rfl rfl rfl (by decide +kernel)
set_option maxRecDepth 65536 in
theorem w_c3 : (Jvm.Cond.code ({ cls := "com/example/whittle/whittle/engine/WordSets", name := "<init>", desc := "([[I)V" } : Jvm.MethodName) prog_22_method_1_code (9 : Nat) (Option.none : Option Jvm.ClassFile.FieldType)).before args0 about1 = true := code_word (m := ⟨2, 0⟩) (meth := k2m0) (c := k2c0) (by decide +kernel) rfl rfl rfl (by decide +kernel)
set_option maxRecDepth 65536 in
theorem w_c4 : (Jvm.Cond.code ({ cls := "java/lang/Object", name := "<init>", desc := "()V" } : Jvm.MethodName) object_method_1_code (1 : Nat) (Option.none : Option Jvm.ClassFile.FieldType)).before args0 about1 = true := code_word (m := ⟨0, 0⟩) (meth := k0m0) (c := k0c0) (by decide +kernel) rfl rfl rfl (by decide +kernel)
set_option maxRecDepth 65536 in
theorem w_c5 : (Jvm.Cond.code ({ cls := "com/example/whittle/whittle/engine/WordSets$Meet", name := "<init>", desc := "()V" } : Jvm.MethodName) prog_23_method_1_code (1 : Nat) (Option.none : Option Jvm.ClassFile.FieldType)).before args0 about1 = true := code_word (m := ⟨3, 0⟩) (meth := k3m0) (c := k3c0) (by decide +kernel) rfl rfl rfl (by decide +kernel)
set_option maxRecDepth 65536 in
theorem w_c6 : (Jvm.Cond.code ({ cls := "com/example/whittle/whittle/engine/WordSets$Meet", name := "start", desc := "(Lcom/example/whittle/whittle/engine/WordSets;I)V" } : Jvm.MethodName) prog_23_method_2_code (6 : Nat) (Option.none : Option Jvm.ClassFile.FieldType)).before args0 about1 = true := code_word (m := ⟨3, 1⟩) (meth := k3m1) (c := k3c1) (by decide +kernel) rfl rfl rfl (by decide +kernel)
set_option maxRecDepth 65536 in
theorem w_c7 : (Jvm.Cond.code ({ cls := "com/example/whittle/whittle/engine/WordSets$Meet", name := "remove", desc := "(I)V" } : Jvm.MethodName) prog_23_method_4_code (3 : Nat) (Option.none : Option Jvm.ClassFile.FieldType)).before args0 about1 = true := code_word (m := ⟨3, 2⟩) (meth := k3m2) (c := k3c2) (by decide +kernel) rfl rfl rfl (by decide +kernel)
set_option maxRecDepth 65536 in
theorem w_c8 : (Jvm.Cond.code ({ cls := "java/util/Arrays", name := "binarySearch", desc := "([IIII)I" } : Jvm.MethodName) jdk_65_method_58_code (4 : Nat) (Option.some Jvm.ClassFile.FieldType.int)).before args0 about1 = true := code_word (m := ⟨4, 2⟩) (meth := k4m2) (c := k4c2) (by decide +kernel) rfl rfl rfl (by decide +kernel)
set_option maxRecDepth 65536 in
theorem w_c9 : (Jvm.Cond.code ({ cls := "java/util/Arrays", name := "rangeCheck", desc := "(III)V" } : Jvm.MethodName) jdk_65_method_30_code (3 : Nat) (Option.none : Option Jvm.ClassFile.FieldType)).before args0 about1 = true := code_word (m := ⟨4, 1⟩) (meth := k4m1) (c := k4c1) (by decide +kernel) rfl rfl rfl (by decide +kernel)
set_option maxRecDepth 65536 in
theorem w_c10 : (Jvm.Cond.code ({ cls := "java/util/Arrays", name := "binarySearch0", desc := "([IIII)I" } : Jvm.MethodName) jdk_65_method_59_code (8 : Nat) (Option.some Jvm.ClassFile.FieldType.int)).before args0 about1 = true := code_word (m := ⟨4, 3⟩) (meth := k4m3) (c := k4c3) (by decide +kernel) rfl rfl rfl (by decide +kernel)
set_option maxRecDepth 65536 in
theorem w_c11 : (Jvm.Cond.code ({ cls := "com/example/whittle/whittle/engine/WordSets$Meet", name := "members", desc := "()[I" } : Jvm.MethodName) prog_23_method_6_code (1 : Nat) (Option.some (Jvm.ClassFile.FieldType.array Jvm.ClassFile.FieldType.int))).before args0 about1 = true := code_word (m := ⟨3, 3⟩) (meth := k3m3) (c := k3c3) (by decide +kernel) rfl rfl rfl (by decide +kernel)
set_option maxRecDepth 65536 in
theorem w_c12 : (Jvm.Cond.code ({ cls := "com/example/whittle/whittle/engine/WordSets", name := "members", desc := "([I[JI)[I" } : Jvm.MethodName) prog_22_method_4_code (9 : Nat) (Option.some (Jvm.ClassFile.FieldType.array Jvm.ClassFile.FieldType.int))).before args0 about1 = true := code_word (m := ⟨2, 1⟩) (meth := k2m1) (c := k2c1) (by decide +kernel) rfl rfl rfl (by decide +kernel)
set_option maxRecDepth 65536 in
theorem w_c13 : (Jvm.Cond.code ({ cls := "java/lang/Long", name := "bitCount", desc := "(J)I" } : Jvm.MethodName) jdk_35_method_50_code (2 : Nat) (Option.some Jvm.ClassFile.FieldType.int)).before args0 about1 = true := code_word (m := ⟨10, 1⟩) (meth := k10m1) (c := k10c1) (by decide +kernel) rfl rfl rfl (by decide +kernel)
set_option maxRecDepth 65536 in
theorem w_c14 : (Jvm.Cond.code ({ cls := "java/lang/Long", name := "numberOfTrailingZeros", desc := "(J)I" } : Jvm.MethodName) jdk_35_method_49_code (3 : Nat) (Option.some Jvm.ClassFile.FieldType.int)).before args0 about1 = true := code_word (m := ⟨10, 0⟩) (meth := k10m0) (c := k10c0) (by decide +kernel) rfl rfl rfl (by decide +kernel)
set_option maxRecDepth 65536 in
theorem w_c15 : (Jvm.Cond.code ({ cls := "java/lang/Integer", name := "numberOfTrailingZeros", desc := "(I)I" } : Jvm.MethodName) jdk_33_method_48_code (2 : Nat) (Option.some Jvm.ClassFile.FieldType.int)).before args0 about1 = true := code_word (m := ⟨11, 0⟩) (meth := k11m0) (c := k11c0) (by decide +kernel) rfl rfl rfl (by decide +kernel)
def codes1 : List Jvm.Cond := [Jvm.Cond.code x code maxLocals ret, Jvm.Cond.code ({ cls := "com/example/whittle/whittle/engine/MeetMembersPinLaw", name := "gap", desc := "(I)I" } : Jvm.MethodName) method_2_code (1 : Nat) (Option.some Jvm.ClassFile.FieldType.int), Jvm.Cond.code ({ cls := "com/example/whittle/whittle/engine/MeetMembersPinLaw", name := "pick", desc := "(IIII)I" } : Jvm.MethodName) method_3_code (5 : Nat) (Option.some Jvm.ClassFile.FieldType.int), Jvm.Cond.code ({ cls := "com/example/whittle/whittle/engine/WordSets", name := "<init>", desc := "([[I)V" } : Jvm.MethodName) prog_22_method_1_code (9 : Nat) (Option.none : Option Jvm.ClassFile.FieldType), Jvm.Cond.code ({ cls := "java/lang/Object", name := "<init>", desc := "()V" } : Jvm.MethodName) object_method_1_code (1 : Nat) (Option.none : Option Jvm.ClassFile.FieldType), Jvm.Cond.code ({ cls := "com/example/whittle/whittle/engine/WordSets$Meet", name := "<init>", desc := "()V" } : Jvm.MethodName) prog_23_method_1_code (1 : Nat) (Option.none : Option Jvm.ClassFile.FieldType), Jvm.Cond.code ({ cls := "com/example/whittle/whittle/engine/WordSets$Meet", name := "start", desc := "(Lcom/example/whittle/whittle/engine/WordSets;I)V" } : Jvm.MethodName) prog_23_method_2_code (6 : Nat) (Option.none : Option Jvm.ClassFile.FieldType), Jvm.Cond.code ({ cls := "com/example/whittle/whittle/engine/WordSets$Meet", name := "remove", desc := "(I)V" } : Jvm.MethodName) prog_23_method_4_code (3 : Nat) (Option.none : Option Jvm.ClassFile.FieldType), Jvm.Cond.code ({ cls := "java/util/Arrays", name := "binarySearch", desc := "([IIII)I" } : Jvm.MethodName) jdk_65_method_58_code (4 : Nat) (Option.some Jvm.ClassFile.FieldType.int), Jvm.Cond.code ({ cls := "java/util/Arrays", name := "rangeCheck", desc := "(III)V" } : Jvm.MethodName) jdk_65_method_30_code (3 : Nat) (Option.none : Option Jvm.ClassFile.FieldType), Jvm.Cond.code ({ cls := "java/util/Arrays", name := "binarySearch0", desc := "([IIII)I" } : Jvm.MethodName) jdk_65_method_59_code (8 : Nat) (Option.some Jvm.ClassFile.FieldType.int), Jvm.Cond.code ({ cls := "com/example/whittle/whittle/engine/WordSets$Meet", name := "members", desc := "()[I" } : Jvm.MethodName) prog_23_method_6_code (1 : Nat) (Option.some (Jvm.ClassFile.FieldType.array Jvm.ClassFile.FieldType.int)), Jvm.Cond.code ({ cls := "com/example/whittle/whittle/engine/WordSets", name := "members", desc := "([I[JI)[I" } : Jvm.MethodName) prog_22_method_4_code (9 : Nat) (Option.some (Jvm.ClassFile.FieldType.array Jvm.ClassFile.FieldType.int)), Jvm.Cond.code ({ cls := "java/lang/Long", name := "bitCount", desc := "(J)I" } : Jvm.MethodName) jdk_35_method_50_code (2 : Nat) (Option.some Jvm.ClassFile.FieldType.int), Jvm.Cond.code ({ cls := "java/lang/Long", name := "numberOfTrailingZeros", desc := "(J)I" } : Jvm.MethodName) jdk_35_method_49_code (3 : Nat) (Option.some Jvm.ClassFile.FieldType.int), Jvm.Cond.code ({ cls := "java/lang/Integer", name := "numberOfTrailingZeros", desc := "(I)I" } : Jvm.MethodName) jdk_33_method_48_code (2 : Nat) (Option.some Jvm.ClassFile.FieldType.int)]
set_option maxRecDepth 65536 in
theorem codes_eq : words1.filter isCode = codes1 := rfl
theorem w_codes : ∀ c ∈ words1.filter isCode, c.before args0 about1 = true := by
  rw [codes_eq]
  intro c hc
  simp only [codes1, List.mem_cons, List.not_mem_nil, or_false] at hc
  rcases hc with rfl | rfl | rfl | rfl | rfl | rfl | rfl | rfl | rfl | rfl | rfl | rfl | rfl | rfl | rfl | rfl
  · exact w_c0
  · exact w_c1
  · exact w_c2
  · exact w_c3
  · exact w_c4
  · exact w_c5
  · exact w_c6
  · exact w_c7
  · exact w_c8
  · exact w_c9
  · exact w_c10
  · exact w_c11
  · exact w_c12
  · exact w_c13
  · exact w_c14
  · exact w_c15
set_option maxRecDepth 65536 in
theorem w_t1 : (words1.take 24).all (fun c => isCode c || c.before args0 about1) = true := by decide +kernel
set_option maxRecDepth 65536 in
theorem w_t2 : ((words1.drop 24).take 24).all (fun c => isCode c || c.before args0 about1) = true := by decide +kernel
set_option maxRecDepth 65536 in
theorem w_t3 : (((words1.drop 24).drop 24).take 24).all (fun c => isCode c || c.before args0 about1) = true := by decide +kernel
set_option maxRecDepth 65536 in
theorem w_t4 : (((words1.drop 24).drop 24).drop 24).all (fun c => isCode c || c.before args0 about1) = true := by decide +kernel
theorem w_tables : (allAtoms (Jvm.Cond.code x code maxLocals ret :: tables_1)).before args0 about1 = true := by
  rw [allAtoms_all]
  show words1.all (fun c => c.before args0 about1) = true
  refine all_split ?_ w_codes
  rw [← List.take_append_drop 24 words1, List.all_append, w_t1, ← List.take_append_drop 24 (words1.drop 24), List.all_append, w_t2, ← List.take_append_drop 24 ((words1.drop 24).drop 24), List.all_append, w_t3, w_t4]
  rfl
set_option maxRecDepth 65536 in
theorem w_case : (Jvm.Cond.and given_1 narrow_1).before args0 about1 = true := by decide +kernel
theorem w_applies : (headSpec (Jvm.Cond.code x code maxLocals ret :: tables_1) room_1).applies x e0.platform about1 = true :=
  (Spec.applies_iff w_frames).mpr ⟨w_running, w_runnable, w_alone, w_named, w_hears, w_ripe, w_room, w_tables⟩
theorem atStart : AtStart classFile x code maxLocals ret World_1 tables_1 room_1 Calls_1 rest_1 Pre_1 launch0 p0 e0 about1 theMethod args0 below0 :=
  ⟨lists_1, trivial, launch0.admits_env _ _ _, launch0.least_env, fairChoices_fair.cas, fairChoices_fair.clock, w_frames, w_args, w_heap, w_applies, trivial, trivial, w_case⟩
end start1
theorem witness_1 : WitnessClaimed_1 := ⟨start1.p0, start1.e0, start1.about1, start1.theMethod, start1.args0, start1.below0, start1.atStart⟩
end Jvm.Pilot.@@N@@
