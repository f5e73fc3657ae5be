import JvmDerived
import JvmDerived.Pilot.@@N@@Statement
import JvmDerived.Pilot.@@N@@Code
set_option linter.unusedVariables false
set_option linter.unusedSimpArgs false
namespace Jvm.RoadKit
open Sem ClassFile Op Lib Jvm.Stand Jvm.Free Jvm.LawKit
section New
variable {p : Program} {l : Launch} {e : Env} {R : Room} {s : State} {m : MethodId} {args : Array Value} {below : List Frame} {meth : Method} {c : Code} {T : State} {locs : List Loc} {cells slots : Nat}
theorem retI (X : Stand p l e R s m args below meth c T locs cells slots) (hx : p.tables.exec = Jvm.exec) {pc : Nat} {Ls : Array Slot} {z : Int32} {rest : List Value} (hret : meth.sig.returnType = some .int) (hd : decode c.code pc = .ok (.ireturn, 1)) {fs : List Frame}
    (hl : ∀ (f : JFrame) (acts : List Action), f.method = m → f.locked = none → f.entered = [] → (doReturn e (T.setTop f) acts (some (.int z))).1 = T.setFrames fs) : Steps p.tables e below (T.setTop (mkF m pc Ls (.int z :: rest))) (T.setFrames fs) :=
  retOut X hx hret rfl (Or.inl ⟨rfl, Or.inl rfl, _, rfl⟩) hd hl
theorem fitsRef {C : String} {v : Value} (h : v.isRef = true) : fits (.object C) v = true := by
  rcases ref_cases h with rfl | ⟨_, rfl⟩ <;> rfl
end New
end Jvm.RoadKit
namespace Jvm.Pilot.@@N@@
open Jvm Jvm.ClassFile Sem Op Lib Jvm.Free Jvm.Stand Jvm.LawKit Jvm.RoadKit Bundle Jvm.Pilot.@@N@@.Jvm.D
theorem own_hw {P : Jvm.Cond → Prop} (hw : ∀ d ∈ tables_1, P d) (i : Nat) {d : Jvm.Cond} (h : tables_1[i]? = some d) : P d := hw d (List.mem_of_getElem? h)
abbrev Sq (p : Program) (e : Env) (below : List Frame) (S T : State) : Prop := Steps p.tables e below S T
abbrev Rg (p : Program) (e : Env) (below : List Frame) (A B : State) : Prop := ∀ t, Steps p.tables e below A t → Steps p.tables e below B t
abbrev sI (x : Int32) : Slot := .val (.int x)
abbrev sR (a : Addr) : Slot := .val (.ref a)
abbrev sU : Slot := .unset
abbrev sM : String := "com/example/whittle/whittle/engine/WordSets$Meet"
abbrev sW : String := "com/example/whittle/whittle/engine/WordSets"
theorem own_sameM {Z : State} {a0 : Array Value} {C : String} {y y2 : MethodName} (h : (Cond.instanceMethod y).before a0 Z = true) (hs : (Cond.selects C y2 y2).before a0 Z = true) (hc : y.cls = y2.cls) (hy : y.cls ≠ "java/lang/invoke/MethodHandle" ∧ y.cls ≠ "java/lang/invoke/VarHandle") : (Cond.sameMethod y.cls y.cls y.name y.desc).before a0 Z = true := by
  obtain ⟨mk, methM, hn, -⟩ := Cond.instanceMethod_spec h
  obtain ⟨c2, r2, m2, -, -, q3, -, kP, hkP, hkPi⟩ := Cond.selects_spec hs
  have e := State.methodFound?_of_named hn hy
  have e1 := findClass_of_methodNamed hn
  have e2 := findClass_of_methodNamed q3
  rw [← hc, e1] at e2
  have e3 : mk.cls = m2.cls := Option.some.inj e2
  rw [← e3] at hkP
  have e4 : Z.methodNamed? ⟨y.cls, y.name, y.desc⟩ = some mk := hn
  simp [Cond.before, Cond.holds, Cond.value, e, e1, e4, hkP, hkPi]
def own_co : Bool → Int32
  | false => 0
  | true => 1
def own_cap : Bool → Int32
  | false => 16
  | true => 32
def own_by : Bool → List Int32 → List Int32
  | false, cs => cs.map (fun c => c.toInt8.toInt32)
  | true, cs => cs.flatMap (fun c => [c.toInt8.toInt32, (c >>> (8 : Int32)).toInt8.toInt32])
theorem own_padl (out : List Int32) : ∀ i, ((out ++ [0]).map Value.int).getD i (.int (0 : Int32)) = (out.map Value.int).getD i (.int (0 : Int32)) := by
  have e : (out ++ [0]).map Value.int = out.map Value.int ++ List.replicate 1 (.int (0 : Int32)) := by simp
  rw [e]; exact pad_rep _ _ 1
theorem own_setl (out : List Int32) (z : Int32) : ((out ++ [0]).map Value.int).set out.length (.int z) = (out ++ [z]).map Value.int := by simp
theorem own_ltl (out : List Int32) : out.length < ((out ++ [0]).map Value.int).length := by simp
theorem own_i8 (x : Int32) : x.toInt8.toInt32.toInt8.toInt32 = x.toInt8.toInt32 := by simp
theorem own_pc0 (c : Int32) : ((c >>> ((0 : Int32) &&& 31)).toInt8.toInt32).toInt8.toInt32 = c.toInt8.toInt32 := by
  have e : c >>> ((0 : Int32) &&& 31) = c := by simp
  rw [own_i8, e]
theorem own_pc1 (c : Int32) : ((c >>> ((8 : Int32) &&& 31)).toInt8.toInt32).toInt8.toInt32 = (c >>> (8 : Int32)).toInt8.toInt32 := by
  rw [own_i8]; rfl
theorem own_dp {m : Nat} {out : List Int32} (hm : m < 16) (ho : out.length = 2 * m) : (¬ (Int32.ofNat m <<< ((1 : Int32) &&& 31)) < 0 ∧ (Int32.ofNat m <<< ((1 : Int32) &&& 31)) < (32 : Int32)) ∧ (Int32.ofNat m <<< ((1 : Int32) &&& 31)).toNatClampNeg = out.length ∧ (¬ ((Int32.ofNat m <<< ((1 : Int32) &&& 31)) + (1 : Int32)) < 0 ∧ ((Int32.ofNat m <<< ((1 : Int32) &&& 31)) + (1 : Int32)) < (32 : Int32)) ∧ ((Int32.ofNat m <<< ((1 : Int32) &&& 31)) + (1 : Int32)).toNatClampNeg = out.length + 1 := by
  have t : ∀ k : Fin 16, (¬ (Int32.ofNat k.1 <<< ((1 : Int32) &&& 31)) < 0 ∧ (Int32.ofNat k.1 <<< ((1 : Int32) &&& 31)) < (32 : Int32)) ∧ (Int32.ofNat k.1 <<< ((1 : Int32) &&& 31)).toNatClampNeg = 2 * k.1 ∧ (¬ ((Int32.ofNat k.1 <<< ((1 : Int32) &&& 31)) + (1 : Int32)) < 0 ∧ ((Int32.ofNat k.1 <<< ((1 : Int32) &&& 31)) + (1 : Int32)) < (32 : Int32)) ∧ ((Int32.ofNat k.1 <<< ((1 : Int32) &&& 31)) + (1 : Int32)).toNatClampNeg = 2 * k.1 + 1 := by decide +kernel
  rw [ho]; exact t ⟨m, hm⟩
theorem own_b255 {c : Int32} (h : ¬ c < 0 ∧ ¬ (255 : Int32) < c) : c.toInt8.toInt32 &&& (255 : Int32) = c := by
  have t : ∀ k : Fin 256, (Int32.ofNat k.1).toInt8.toInt32 &&& (255 : Int32) = Int32.ofNat k.1 := by decide +kernel
  have z : (0 : Int32).toInt = 0 := rfl
  have s : (255 : Int32).toInt = 255 := rfl
  rw [Int32.lt_iff_toInt_lt, Int32.lt_iff_toInt_lt, z, s] at h
  have e : c = Int32.ofNat c.toInt.toNat := Int32.toInt_inj.mp (by rw [Int32.toInt_ofNat_of_lt (by omega)]; omega)
  rw [e]
  exact t ⟨c.toInt.toNat, by omega⟩
theorem own_ofs (m : Nat) : Int32.ofNat (m + 1) = Int32.ofNat m + (1 : Int32) := by rw [Int32.ofNat_add]; rfl
theorem own_bo {m n : Nat} (h : m + n ≤ 6) : ¬ ((((32 : Int32) >>> ((1 : Int32) &&& 31)) ||| Int32.ofNat m) ||| Int32.ofNat n) < (0 : Int32) ∧ ¬ (((32 : Int32) >>> ((1 : Int32) &&& 31)) - Int32.ofNat m) < Int32.ofNat n := by
  have t : ∀ a : Fin 7, ∀ b : Fin 7, ¬ ((((32 : Int32) >>> ((1 : Int32) &&& 31)) ||| Int32.ofNat a.1) ||| Int32.ofNat b.1) < (0 : Int32) ∧ ¬ (((32 : Int32) >>> ((1 : Int32) &&& 31)) - Int32.ofNat a.1) < Int32.ofNat b.1 := by decide +kernel
  exact t ⟨m, by omega⟩ ⟨n, by omega⟩
theorem own_byA (u : Bool) (a b : List Int32) : own_by u (a ++ b) = own_by u a ++ own_by u b := by cases u <;> simp [own_by]
theorem own_byL (cs : List Int32) : (own_by false cs).length = cs.length ∧ (own_by true cs).length = 2 * cs.length := by
  refine ⟨by simp [own_by], ?_⟩
  induction cs with
  | nil => rfl
  | cons c cs ih => simp only [own_by, List.flatMap_cons, List.length_append, List.length_cons, List.length_nil] at ih ⊢; omega
theorem own_lenL {N : Int32} {cs : List Int32} (h : N = Int32.ofNat (own_by false cs).length) (hc : cs.length ≤ 6) : N >>> ((0 : Int32) &&& 31) = Int32.ofNat cs.length := by
  rw [(own_byL cs).1] at h
  subst h
  have t : ∀ k : Fin 7, (Int32.ofNat k.1) >>> ((0 : Int32) &&& 31) = Int32.ofNat k.1 := by decide +kernel
  exact t ⟨_, by omega⟩
theorem own_lenU {N : Int32} {cs : List Int32} (h : N = Int32.ofNat (own_by true cs).length) (hc : cs.length ≤ 6) : N >>> ((1 : Int32) &&& 31) = Int32.ofNat cs.length := by
  rw [(own_byL cs).2] at h
  subst h
  have t : ∀ k : Fin 7, (Int32.ofNat (2 * k.1)) >>> ((1 : Int32) &&& 31) = Int32.ofNat k.1 := by decide +kernel
  exact t ⟨_, by omega⟩
theorem own_shL {n : Nat} (h : n ≤ 6) : (Int32.ofNat n) <<< ((0 : Int32) &&& 31) = Int32.ofNat n := by
  have t : ∀ k : Fin 7, (Int32.ofNat k.1) <<< ((0 : Int32) &&& 31) = Int32.ofNat k.1 := by decide +kernel
  exact t ⟨_, by omega⟩
theorem own_shU {n : Nat} (h : n ≤ 6) : (Int32.ofNat n) <<< ((1 : Int32) &&& 31) = Int32.ofNat (2 * n) := by
  have t : ∀ k : Fin 7, (Int32.ofNat k.1) <<< ((1 : Int32) &&& 31) = Int32.ofNat (2 * k.1) := by decide +kernel
  exact t ⟨_, by omega⟩
theorem own_inN {n j : Nat} {N : Int32} (hN : N = Int32.ofNat n) (hn : n ≤ 6) (hj : j < n) : ¬ (Int32.ofNat j) < 0 ∧ Int32.ofNat j < N := by
  subst hN
  have t : ∀ a : Fin 7, ∀ b : Fin 7, b.1 < a.1 → ¬ (Int32.ofNat b.1) < 0 ∧ Int32.ofNat b.1 < Int32.ofNat a.1 := by decide +kernel
  exact t ⟨n, by omega⟩ ⟨j, by omega⟩ hj
theorem own_in16 {j : Nat} (hj : j < 4) : ¬ (Int32.ofNat j) < 0 ∧ Int32.ofNat j < (16 : Int32) := by
  have t : ∀ b : Fin 4, ¬ (Int32.ofNat b.1) < 0 ∧ Int32.ofNat b.1 < (16 : Int32) := by decide +kernel
  exact t ⟨j, hj⟩
theorem own_clN {n : Nat} {N : Int32} (hN : N = Int32.ofNat n) (hn : n < 64) : N.toNatClampNeg = n := by
  subst hN
  have t : ∀ a : Fin 64, (Int32.ofNat a.1).toNatClampNeg = a.1 := by decide +kernel
  exact t ⟨n, hn⟩
theorem own_en {bc cs : List Int32} (h : bc.length ≤ 4) (h2 : cs.length ≤ 2) : ¬ (0 : Int32) < ((Int32.ofNat bc.length + Int32.ofNat cs.length) - (16 : Int32)) := by
  have t : ∀ a : Fin 5, ∀ b : Fin 3, ¬ (0 : Int32) < ((Int32.ofNat a.1 + Int32.ofNat b.1) - (16 : Int32)) := by decide +kernel
  exact t ⟨_, by omega⟩ ⟨_, by omega⟩
theorem own_cnt (bc cs : List Int32) : Int32.ofNat (bc ++ cs).length = (Int32.ofNat bc.length + Int32.ofNat cs.length) := by rw [List.length_append, Int32.ofNat_add]
theorem own_nfSel {s : State} {args : Array Value} {C : String} {y y2 : MethodName} (hc : y.cls = y2.cls) (h : (Cond.selects C y2 y2).before args s = true) : NotFace s y := fun r0 h0 => by
  obtain ⟨c2, r2, m2, -, -, q3, -, kP, hkP, hkPi⟩ := Cond.selects_spec h
  have e1 := findClass_of_methodNamed h0
  have e2 := findClass_of_methodNamed q3
  rw [← hc, e1] at e2
  have e3 : r0.cls = m2.cls := Option.some.inj e2
  exact ⟨kP, by rw [e3]; exact hkP, hkPi⟩
theorem own_to {n : Nat} (h : n ≤ 12) : ¬ (Int32.ofNat n) < (0 : Int32) ∧ ¬ (Int32.ofNat n) = (16 : Int32) ∧ ¬ (Int32.ofNat n) = (32 : Int32) ∧ (Int32.ofNat n) < (16 : Int32) ∧ (Int32.ofNat n) < (32 : Int32) ∧ (Int32.ofNat n).toNatClampNeg ≤ 12 := by
  have t : ∀ k : Fin 13, ¬ (Int32.ofNat k.1) < (0 : Int32) ∧ ¬ (Int32.ofNat k.1) = (16 : Int32) ∧ ¬ (Int32.ofNat k.1) = (32 : Int32) ∧ (Int32.ofNat k.1) < (16 : Int32) ∧ (Int32.ofNat k.1) < (32 : Int32) ∧ (Int32.ofNat k.1).toNatClampNeg ≤ 12 := by decide +kernel
  exact t ⟨n, by omega⟩
theorem own_sub0 (x : Int32) : x = x - (0 : Int32) := by simp
theorem own_byB (u : Bool) {cs : List Int32} (h : cs.length ≤ 6) : (own_by u cs).length ≤ 12 := by
  have := own_byL cs
  cases u
  · omega
  · omega
theorem own_b65 {c : Int32} (h : ¬ c < 0 ∧ ¬ (65535 : Int32) < c) : ∃ n : Nat, n < 65536 ∧ c = Int32.ofNat n := by
  have z : (0 : Int32).toInt = 0 := rfl
  have s : (65535 : Int32).toInt = 65535 := rfl
  rw [Int32.lt_iff_toInt_lt, Int32.lt_iff_toInt_lt, z, s] at h
  exact ⟨c.toInt.toNat, by omega, Int32.toInt_inj.mp (by rw [Int32.toInt_ofNat_of_lt (by omega)]; omega)⟩
theorem own_bitc {c : Int32} (h : ¬ c < 0 ∧ ¬ (65535 : Int32) < c) : ∃ b : BitVec 16, c.toBitVec = b.setWidth 32 := by
  obtain ⟨n, hn, rfl⟩ := own_b65 h
  refine ⟨BitVec.ofNat 16 n, ?_⟩
  show BitVec.ofNat 32 n = _
  apply BitVec.eq_of_toNat_eq
  simp only [BitVec.toNat_ofNat, BitVec.toNat_setWidth]
  omega
theorem own_nar {c : Int32} (h : ¬ c < 0 ∧ ¬ (65535 : Int32) < c) : nar .char c = c := by
  obtain ⟨n, hn, rfl⟩ := own_b65 h
  apply Int32.toBitVec_inj.mp
  show (((BitVec.ofNat 32 n).setWidth 16).setWidth 32) = BitVec.ofNat 32 n
  apply BitVec.eq_of_toNat_eq
  simp only [BitVec.toNat_ofNat, BitVec.toNat_setWidth]
  omega
theorem own_chB (x : Int32) : ¬ (x.toUInt32.toUInt16.toUInt32.toInt32) < 0 ∧ ¬ (65535 : Int32) < (x.toUInt32.toUInt16.toUInt32.toInt32) := by
  have e : x.toUInt32.toUInt16.toUInt32.toInt32.toInt = (x.toUInt32.toUInt16.toNat : Int) := by
    have : x.toUInt32.toUInt16.toNat < 65536 := x.toUInt32.toUInt16.toNat_lt
    show (BitVec.toInt (BitVec.setWidth 32 x.toUInt32.toUInt16.toBitVec)) = _
    rw [BitVec.toInt_eq_toNat_of_lt]
    · simp only [BitVec.toNat_setWidth]
      show ((x.toUInt32.toUInt16.toNat % 2 ^ 32 : Nat) : Int) = _
      rw [Nat.mod_eq_of_lt (by omega)]
    · simp only [BitVec.toNat_setWidth]
      show 2 * (x.toUInt32.toUInt16.toNat % 2 ^ 32) < 2 ^ 32
      omega
  have : x.toUInt32.toUInt16.toNat < 65536 := x.toUInt32.toUInt16.toNat_lt
  have z : (0 : Int32).toInt = 0 := rfl
  have s : (65535 : Int32).toInt = 65535 := rfl
  rw [Int32.lt_iff_toInt_lt, Int32.lt_iff_toInt_lt, z, s, e]
  omega
theorem own_gc {c : Int32} (h : ¬ c < 0 ∧ ¬ (65535 : Int32) < c) : nar .char ((((c.toInt8.toInt32 &&& (255 : Int32)) <<< ((0 : Int32) &&& 31)) ||| (((c >>> (8 : Int32)).toInt8.toInt32 &&& (255 : Int32)) <<< ((8 : Int32) &&& 31))).toUInt32.toUInt16.toUInt32.toInt32) = c := by
  rw [own_nar (own_chB _)]
  obtain ⟨b, hb⟩ := own_bitc h
  apply Int32.toBitVec_inj.mp
  show (BitVec.setWidth 32 (BitVec.setWidth 16 ((((c.toBitVec.signExtend 8).signExtend 32) &&& (255#32)) <<< (0 : Nat) ||| ((((c.toBitVec.sshiftRight 8).signExtend 8).signExtend 32) &&& (255#32)) <<< (8 : Nat)))) = _
  rw [hb]
  apply BitVec.eq_of_getLsbD_eq
  intro i hi
  have e255 : ∀ j, (255#32).getLsbD j = decide (j < 8) := by
    intro j
    by_cases q : j < 32
    · have t : ∀ k : Fin 32, (255#32).getLsbD k.1 = decide (k.1 < 8) := by decide +kernel
      exact t ⟨j, q⟩
    · rw [BitVec.getLsbD_of_ge _ _ (by omega)]; simp; omega
  have hi32 : i < 32 := hi
  simp only [BitVec.getLsbD_setWidth, BitVec.getLsbD_or, BitVec.getLsbD_shiftLeft, BitVec.getLsbD_and, e255, BitVec.getLsbD_signExtend, BitVec.getLsbD_sshiftRight]
  by_cases q1 : i < 8
  · have a1 : i < 16 := by omega
    have a2 : i - 0 = i := rfl
    simp [q1, a1, hi32]
  · by_cases q2 : i < 16
    · have a3 : i - 8 < 8 := by omega
      have a4 : i - 8 < 32 := by omega
      have a5 : 8 + (i - 8) = i := by omega
      have a6 : ¬ 32 ≤ i - 8 := by omega
      have a7 : i - 8 < 16 := by omega
      simp [q1, q2, hi32, a3, a4, a5, a6, a7]
    · simp [q1, q2, BitVec.getLsbD_of_ge b i (by omega)]
theorem own_lc {c : Int32} (h : ¬ c < 0 ∧ ¬ (255 : Int32) < c) (h2 : ¬ c < 0 ∧ ¬ (65535 : Int32) < c) : nar .char ((c.toInt8.toInt32 &&& (255 : Int32)).toUInt32.toUInt16.toUInt32.toInt32) = c := by
  rw [own_b255 h]
  have e := own_nar h2
  show nar .char (nar .char c) = c
  rw [e, e]
theorem own_byU (cs : List Int32) : ∀ (k : Nat) (c : Int32), cs[k]? = some c → (own_by true cs)[2 * k]? = some c.toInt8.toInt32 ∧ (own_by true cs)[2 * k + 1]? = some (c >>> (8 : Int32)).toInt8.toInt32 := by
  induction cs with
  | nil => intro k c h; simp at h
  | cons d cs ih =>
    intro k c h
    have e : own_by true (d :: cs) = d.toInt8.toInt32 :: (d >>> (8 : Int32)).toInt8.toInt32 :: own_by true cs := rfl
    rw [e]
    cases k with
    | zero => simp at h; subst h; exact ⟨rfl, rfl⟩
    | succ k =>
      have q := ih k c (by simpa using h)
      rw [show 2 * (k + 1) = 2 * k + 1 + 1 by omega, show 2 * k + 1 + 1 + 1 = (2 * k + 1) + 1 + 1 by omega]
      simpa only [List.getElem?_cons_succ] using q
theorem own_in12 {n j : Nat} {N : Int32} (hN : N = Int32.ofNat n) (hn : n ≤ 12) (hj : j < n) : ¬ (Int32.ofNat j) < 0 ∧ Int32.ofNat j < N := by
  subst hN
  have t : ∀ a : Fin 13, ∀ b : Fin 13, b.1 < a.1 → ¬ (Int32.ofNat b.1) < 0 ∧ Int32.ofNat b.1 < Int32.ofNat a.1 := by decide +kernel
  exact t ⟨n, by omega⟩ ⟨j, by omega⟩ hj
theorem own_atL {cs : List Int32} {k : Nat} {c N : Int32} (hN : N = Int32.ofNat (own_by false cs).length) (h6 : cs.length ≤ 6) (hk : cs[k]? = some c) : (¬ Int32.ofNat k < 0 ∧ Int32.ofNat k < N) ∧ ((own_by false cs).map Value.int).getD (Int32.ofNat k).toNatClampNeg (.int (0 : Int32)) = .int (c.toInt8.toInt32) := by
  have hlt := (List.getElem?_eq_some_iff.mp hk).1
  rw [(own_byL cs).1] at hN
  refine ⟨own_inN hN h6 hlt, ?_⟩
  rw [own_clN rfl (by omega), List.getD_eq_getElem?_getD]
  simp [own_by, hk]
theorem own_atU {cs : List Int32} {k : Nat} {c N : Int32} (hN : N = Int32.ofNat (own_by true cs).length) (h6 : cs.length ≤ 6) (hk : cs[k]? = some c) : ¬ Int32.ofNat k < 0 ∧ Int32.ofNat k < (N >>> ((1 : Int32) &&& 31)) ∧ (¬ (Int32.ofNat k <<< ((1 : Int32) &&& 31)) < 0 ∧ (Int32.ofNat k <<< ((1 : Int32) &&& 31)) < N) ∧ ((own_by true cs).map Value.int).getD (Int32.ofNat k <<< ((1 : Int32) &&& 31)).toNatClampNeg (.int (0 : Int32)) = .int (c.toInt8.toInt32) ∧ (¬ ((Int32.ofNat k <<< ((1 : Int32) &&& 31)) + (1 : Int32)) < 0 ∧ ((Int32.ofNat k <<< ((1 : Int32) &&& 31)) + (1 : Int32)) < N) ∧ ((own_by true cs).map Value.int).getD ((Int32.ofNat k <<< ((1 : Int32) &&& 31)) + (1 : Int32)).toNatClampNeg (.int (0 : Int32)) = .int ((c >>> (8 : Int32)).toInt8.toInt32) := by
  have hlt := (List.getElem?_eq_some_iff.mp hk).1
  have hl := own_lenU hN h6
  have q := own_byU cs k c hk
  rw [(own_byL cs).2] at hN
  rw [own_shU (by omega), hl, ← own_ofs, own_clN rfl (by omega), own_clN (n := 2 * k + 1) rfl (by omega), List.getD_eq_getElem?_getD, List.getD_eq_getElem?_getD]
  have b := own_in12 rfl (by omega : cs.length ≤ 12) hlt
  exact ⟨b.1, b.2, own_in12 hN (by omega) (by omega), by simp [q.1], own_in12 hN (by omega) (by omega), by simp [q.2]⟩
def own_mk : Nat → Int32 → Int32 → List Int32
  | 0, _, _ => []
  | 1, c, _ => [c]
  | _, c, d => [c, d]
theorem own_mkE {a : Nat} (ha : a ≤ 2) (c d : Int32) : (Int32.ofNat a = 0 → [] = own_mk a c d) ∧ (Int32.ofNat a = 1 → [c] = own_mk a c d) ∧ (¬ Int32.ofNat a = 0 → ¬ Int32.ofNat a = 1 → [c, d] = own_mk a c d) := by
  obtain rfl | rfl | rfl : a = 0 ∨ a = 1 ∨ a = 2 := by omega
  · exact ⟨fun _ => rfl, fun q => absurd q (by decide), fun q => absurd rfl q⟩
  · exact ⟨fun q => absurd q (by decide), fun _ => rfl, fun _ q => absurd rfl q⟩
  · exact ⟨fun q => absurd q (by decide), fun q => absurd q (by decide), fun _ _ => rfl⟩
theorem own_mkL {a : Nat} (ha : a ≤ 2) (c d : Int32) : (own_mk a c d).length = a := by
  obtain rfl | rfl | rfl : a = 0 ∨ a = 1 ∨ a = 2 := by omega
  · rfl
  · rfl
  · rfl
theorem own_mkM (a : Nat) (c d : Int32) {P : Int32 → Prop} (h1 : P c) (h2 : P d) : ∀ x ∈ own_mk a c d, P x := by
  intro x hx
  match a, hx with
  | 0, hx => cases hx
  | 1, hx => simp [own_mk] at hx; subst hx; exact h1
  | _ + 2, hx => simp [own_mk] at hx; rcases hx with rfl | rfl
                 · exact h1
                 · exact h2
def own_ex (ix lf f0 f1 m0 m1 : Int32) : Int32 := if ix < lf then (if ix = (0 : Int32) then f0 else f1) else if ix = lf then 58 else if ix = lf + (1 : Int32) then 32 else if ((ix - lf) - (2 : Int32)) = (0 : Int32) then m0 else m1
def own_all (a b : Nat) (f0 f1 m0 m1 : Int32) : List Int32 := ((([] : List Int32) ++ own_mk a f0 f1) ++ [(58 : Int32), (32 : Int32)]) ++ own_mk b m0 m1
theorem own_allL {a b : Nat} (ha : a ≤ 2) (hb : b ≤ 2) (f0 f1 m0 m1 : Int32) : (own_all a b f0 f1 m0 m1).length = a + 2 + b := by
  simp only [own_all, List.length_append, own_mkL ha, own_mkL hb, List.length_nil, List.length_cons]; omega
theorem own_allN {a b : Nat} (ha : a ≤ 2) (hb : b ≤ 2) (f0 f1 m0 m1 : Int32) : Int32.ofNat (own_all a b f0 f1 m0 m1).length = ((Int32.ofNat a + (2 : Int32)) + Int32.ofNat b) := by
  rw [own_allL ha hb, Int32.ofNat_add, Int32.ofNat_add]; rfl
theorem own_allX {a b k : Nat} (ha : a ≤ 2) (hb : b ≤ 2) (hk : k ≤ 5) (f0 f1 m0 m1 : Int32) (hlt : Int32.ofNat k < ((Int32.ofNat a + (2 : Int32)) + Int32.ofNat b)) : (own_all a b f0 f1 m0 m1)[k]? = some (own_ex (Int32.ofNat k) (Int32.ofNat a) f0 f1 m0 m1) := by
  obtain rfl | rfl | rfl : a = 0 ∨ a = 1 ∨ a = 2 := by omega
  all_goals obtain rfl | rfl | rfl : b = 0 ∨ b = 1 ∨ b = 2 := by omega
  all_goals obtain rfl | rfl | rfl | rfl | rfl | rfl : k = 0 ∨ k = 1 ∨ k = 2 ∨ k = 3 ∨ k = 4 ∨ k = 5 := by omega
  all_goals first | rfl | exact absurd hlt (by decide)
theorem own_mod3 {y : Int32} (h : ¬ y < 0) : ∃ a : Nat, a ≤ 2 ∧ Int32.ofNat a = y % (3 : Int32) := by
  have z : (0 : Int32).toInt = 0 := rfl
  have t : (3 : Int32).toInt = 3 := rfl
  rw [Int32.lt_iff_toInt_lt, z] at h
  refine ⟨(y.toInt % 3).toNat, by omega, Int32.toInt_inj.mp ?_⟩
  rw [Int32.toInt_ofNat_of_lt (by omega), Int32.toInt_mod, t, Int.tmod_eq_emod_of_nonneg (by omega)]
  omega
theorem own_nn {y : Int32} (h : y.toBitVec.toNat < 2147483648) : ¬ y < 0 := by
  rw [Int32.lt_iff_toInt_lt, show (0 : Int32).toInt = 0 from rfl]
  have : y.toInt = y.toBitVec.toNat := BitVec.toInt_eq_toNat_of_lt (by omega)
  omega
theorem own_lf (x : Int32) : ∃ a : Nat, a ≤ 2 ∧ Int32.ofNat a = ((x &&& (2147483647 : Int32)) % (3 : Int32)) := own_mod3 (own_nn (by
  simp only [Int32.toBitVec_and, BitVec.toNat_and]
  exact Nat.lt_succ_of_le Nat.and_le_right))
theorem own_lm (x : Int32) : ∃ a : Nat, a ≤ 2 ∧ Int32.ofNat a = (((x.toUInt32 >>> ((2 : Int32) &&& 31).toUInt32).toInt32) % (3 : Int32)) := own_mod3 (own_nn (by
  show (x.toBitVec >>> (2 : Nat)).toNat < _
  rw [BitVec.toNat_ushiftRight, Nat.shiftRight_eq_div_pow]
  have := x.toBitVec.isLt
  omega))
theorem own_allM {a b : Nat} {c0 c1 d0 d1 : Int32} {P : Int32 → Prop} (h0 : P c0) (h1 : P c1) (h2 : P d0) (h3 : P d1) (h4 : P 58) (h5 : P 32) : ∀ c ∈ own_all a b c0 c1 d0 d1, P c := by
  intro c hc
  unfold own_all at hc
  rcases List.mem_append.mp hc with q | q
  · rcases List.mem_append.mp q with q | q
    · exact own_mkM a c0 c1 h0 h1 c (by simpa using q)
    · simp only [List.mem_cons, List.not_mem_nil, or_false] at q
      rcases q with rfl | rfl
      · exact h4
      · exact h5
  · exact own_mkM b d0 d1 h2 h3 c q
theorem own_allC {a b : Nat} {c0 c1 d0 d1 : Int32} (hf : ∀ c ∈ own_mk a c0 c1, ¬ c < 0 ∧ ¬ (255 : Int32) < c) (hm : ∀ c ∈ own_mk b d0 d1, ¬ c < 0 ∧ ¬ (255 : Int32) < c) : ∀ c ∈ own_all a b c0 c1 d0 d1, ¬ c < 0 ∧ ¬ (255 : Int32) < c := by
  intro c hc
  unfold own_all at hc
  rcases List.mem_append.mp hc with q | q
  · rcases List.mem_append.mp q with q | q
    · exact hf c (by simpa using q)
    · have t : ∀ c ∈ [(58 : Int32), (32 : Int32)], ¬ c < 0 ∧ ¬ (255 : Int32) < c := by decide
      exact t c q
  · exact hm c q
theorem own_strAtoms : ∀ d ∈ Bundle.stringAtoms, d ∈ tables_1 := by decide +kernel
theorem own_wS {Z : State} {a0 : Array Value} (hw : ∀ d ∈ tables_1, d.before a0 Z = true) : ∀ d ∈ Bundle.stringAtoms, d.before a0 Z = true := fun d hd => hw d (own_strAtoms d hd)
abbrev own_EL : List (String × Nat) := consts_1
theorem own_EW {Z : State} {a0 : Array Value} (hw : ∀ d ∈ tables_1, d.before a0 Z = true) : EW Z a0 own_EL := (EW.cons (hw _ (List.mem_of_getElem? (i := 125) rfl)) (by decide) (EW.cons (hw _ (List.mem_of_getElem? (i := 36) rfl)) (by decide) EW.nil))
theorem own_safeNull {Z : State} {EL : List (String × Nat)} {vm : Vm} {h : Heap} {x : Addr} {a0 : Array Value} {n : Nat} (hal : Z.vm.Alike vm) (E : Exa Z h x "java/lang/String") (F : Fld Z h x "java/lang/String" "value" "[B" .null) (wi : (Cond.instantiable "java/lang/String" n).before a0 Z = true) : Safe Z EL vm h x := fun B => by
  obtain ⟨p, -, u, a, -, q, -, F', e⟩ := B
  obtain ⟨cS, ⟨⟨s1, s2, s3, ⟨cv, kv, iv, s4, s4'⟩, -, s6, -, s8, -, s10, s11, s12, -⟩, -, -⟩, -, hB, -⟩ := F'
  rcases e with rfl | rfl
  · obtain ⟨kv', z4⟩ := ff_back (U := Wst Z vm h) hal s4
    have G : Fld Z h q.sa "java/lang/String" "value" "[B" (.ref q.sd) := ⟨q.sC, cv, kv', iv, q.fSV, s1, z4, s6, s2, s3, by rw [← hal.assignable]; exact s4', s8⟩
    exact Fld.ne F G (by simp) rfl
  · have hA : Arr Z h q.sd q.SA .byte := ⟨s10, State.isArrayOf_alike (s := Wst Z vm h) hal.symm s11, s12⟩
    exact ne_arr E wi hA rfl
theorem own_selPriv2 {s : State} {args args' : Array Value} {C : String} {y y2 : MethodName} (hcl : y.cls = y2.cls) (hi : (Cond.instanceMethod y).before args s = true) (hp : s.PrivateAt y) (h2 : (Cond.selects C y2 y2).before args' s = true) (hy : y.cls ≠ "java/lang/invoke/MethodHandle" ∧ y.cls ≠ "java/lang/invoke/VarHandle") : (Cond.selects y.cls y y).before args s = true := by
  obtain ⟨mk, methM, hn, hm, hst, hab⟩ := Cond.instanceMethod_spec hi
  obtain ⟨c2, r2, m2, q1, q2, q3, q4, kP, hkP, hkPi⟩ := Cond.selects_spec h2
  have e1 := findClass_of_methodNamed hn
  have e2 := findClass_of_methodNamed q3
  rw [← hcl] at e2
  have e3 : m2.cls = mk.cls := Option.some.inj (e2.symm.trans e1)
  rw [e3] at hkP
  have e4 := State.methodFound?_of_named hn hy
  have e5 := selectMethod_private (p := {}) (c := mk.cls) hm (hp mk methM hn hm)
  simp [Cond.before, Cond.holds, Cond.value, e1, e4, hn, e5, hkP, hkPi]
theorem own_copy {p : Program} {l : Launch} {e : Env} {R : Room} {s : State} {m : MethodId} {args : Array Value} {below : List Frame} {meth : Method} {c : Code} {T : State} {locs : List Loc} {cells slots : Nat} {Z : State} {a0 : Array Value} {h : Heap} {n0 W : Nat}
    (X : Stand p l e R s m args below meth c T locs cells slots) (hx : p.tables.exec = Jvm.exec) (hZ : Z.Warmed39 s.vm) {own : String} {index : Nat} (hown : s.vm.findClass own = some m.cls) (w1 : (Cond.methodLink own index (⟨"java/lang/System", "arraycopy", "(Ljava/lang/Object;ILjava/lang/Object;II)V"⟩ : MethodName)).before a0 Z = true) (w2 : (Cond.native (⟨"java/lang/System", "arraycopy", "(Ljava/lang/Object;ILjava/lang/Object;II)V"⟩ : MethodName)).before a0 Z = true) (w3 : (Cond.static (⟨"java/lang/System", "arraycopy", "(Ljava/lang/Object;ILjava/lang/Object;II)V"⟩ : MethodName)).before a0 Z = true) (w4 : (Cond.initialized "java/lang/System").before a0 Z = true)
    (eT : T.heap = h) {src dst : Addr} {ks kd : ClassId} {ls ld n dp : Int32} {ss ds : List Int32} (S : Arv Z h src ks .byte ls (ss.map Value.int) (.int (0 : Int32))) (D : Arv Z h dst kd .byte ld (ds.map Value.int) (.int (0 : Int32))) (hn : n = Int32.ofNat ss.length) (hdp : dp = Int32.ofNat ds.length) (hb1 : ss.length ≤ ls.toNatClampNeg) (hb2 : ds.length + ss.length ≤ ld.toNatClampNeg) (hsm : ds.length + ss.length < 64) (gd : n0 ≤ dst)
    {g : JFrame} (hg : g.method = m) (hsize : g.locals.size = c.maxLocals) {rest : List Value} (hs : g.stack = .int n :: .int dp :: .ref dst :: .int (0 : Int32) :: .ref src :: rest) (hd : decode c.code g.pc = .ok (.invokestatic index, 3)) (hfr : 1 ≤ R.frames) (hW : 2 * g.monitorRoom + (rest.map fun v => v.category).sum ≤ W) (hlo : W + 18 ≤ R.locals) :
    ∃ T' h' L', Stand p l e R s m args below meth c T' (locs ++ L') cells slots ∧ T'.heap = h' ∧ Fr n0 L' ∧ Keep h h' [dst] ∧ Arv Z h' dst kd .byte ld ((ds ++ ss).map Value.int) (.int (0 : Int32)) ∧ ∀ t, Steps p.tables e below (T'.setTop { g with pc := g.pc + 3, stack := rest }) t → Steps p.tables e below (T.setTop g) t := by
  obtain ⟨cs, As, -, Ss, -, Hs, Gs⟩ := S
  obtain ⟨cd, Ad, qd, Sd, Nd, Hd, Gd⟩ := D
  obtain ⟨vs, kS, hkS, compS, hkindS⟩ := As.2.1
  obtain ⟨vd, kD, hkD, compD, hkindD⟩ := Ad.2.1
  obtain ⟨kS', z1, z2⟩ := hZ.alike.2.2 _ _ hkS
  obtain ⟨kD', y1, y2⟩ := hZ.alike.2.2 _ _ hkD
  have t64 : ∀ k : Fin 64, (Int32.ofNat k.1).toNatClampNeg = k.1 ∧ ¬ (Int32.ofNat k.1) < 0 ∧ (Int32.ofNat k.1).toInt = (k.1 : Int) := by decide +kernel
  have tn := t64 ⟨ss.length, by omega⟩
  have td := t64 ⟨ds.length, by omega⟩
  rw [← hn] at tn
  rw [← hdp] at td
  dsimp only at tn td
  have hat : ∀ i, i < ss.length → cs.slots.getD (0 + i) .null = .int (ss.getD i 0) := fun i hi => by
    have q := Hs i (by rw [Ss]; omega)
    rw [Nat.zero_add, Array.getD_eq_getD_getElem?, q, Option.getD_some, List.getD_eq_getElem?_getD, List.getElem?_map, List.getElem?_eq_getElem hi, List.getD_eq_getElem?_getD, List.getElem?_eq_getElem hi]
    rfl
  obtain ⟨vm', X', st⟩ := X.arraycopy hx hown (mvT hZ w1) (mvT hZ w2) (mvT hZ w3) (mvT hZ w4) (srcPos := 0) (destPos := dp) (n := n) (by rw [eT]; exact As.1) (by rw [eT]; exact Ad.1) vs vd As.2.2 Ad.2.2 z1 y1 (by rw [z2]; exact hkindS) (by rw [y2]; exact hkindD) rfl (by decide) td.2.1 tn.2.1
    (by rw [tn.2.2, Ss, show (0 : Int32).toInt = 0 from rfl]; omega) (by rw [tn.2.2, td.2.2, Sd]; omega)
    (fun vm₁ _ i hi => by
      rw [tn.1] at hi
      have e0 : (0 : Int32).toNatClampNeg = 0 := rfl
      rw [e0, hat i hi]
      refine ⟨?_, trivial⟩
      have q := Gs i (by rw [Ss]; omega)
      rw [List.getD_eq_getElem?_getD, List.getElem?_map, List.getElem?_eq_getElem hi] at q
      rw [List.getD_eq_getElem?_getD, List.getElem?_eq_getElem hi]
      exact q)
    hg hsize hs hd hfr (by rw [nativeFrameWords_plain 5 (by decide)]; omega)
  refine ⟨_, _, _, X', rfl, ?_, ?_, ?_, st⟩
  · intro y hy
    obtain ⟨q, -, rfl⟩ := List.mem_map.mp hy
    exact gd
  · refine ⟨by show h.size ≤ (T.heap.setIfInBounds dst _).size; rw [eT]; simp, fun x cx hc hx => ?_, fun x cx hc => ?_⟩
    · rw [State.heap_setCell_other (fun q => hx (by rw [q]; exact List.mem_singleton.mpr rfl))]
      show T.heap[x]? = _
      rw [eT]; exact hc
    · by_cases q : dst = x
      · subst q
        cases Ad.1.symm.trans hc
        have f := Cell.storeRun_facts cd dp.toNatClampNeg (cs.stretch (0 : Int32).toNatClampNeg n.toNatClampNeg)
        exact ⟨_, State.heap_setCell_self (show (T.setVm vm').heap[dst]? = some cd from by show T.heap[dst]? = _; rw [eT]; exact Ad.1), f.1, f.2.1, f.2.2.1⟩
      · exact ⟨cx, by rw [State.heap_setCell_other q]; show T.heap[x]? = _; rw [eT]; exact hc, rfl, rfl, rfl⟩
  · have f := Cell.storeRun_facts cd dp.toNatClampNeg (cs.stretch (0 : Int32).toNatClampNeg n.toNatClampNeg)
    have hget : ∀ j, j < cd.slots.size → (copied cs cd 0 dp n).slots[j]? = some (((ds ++ ss).map Value.int).getD j (.int (0 : Int32))) := fun j hj => by
      rw [show (copied cs cd 0 dp n).slots[j]? = _ from Cell.storeRun_get cd dp.toNatClampNeg _ j (by rw [Cell.stretch_length, tn.1, td.1, Sd]; exact hb2), Cell.stretch_length, tn.1, td.1]
      by_cases q : ds.length ≤ j ∧ j < ds.length + ss.length
      · rw [if_pos q]
        have hi : j - ds.length < ss.length := by omega
        have e0 : (0 : Int32).toNatClampNeg = 0 := rfl
        rw [Cell.stretch, List.getElem?_map, List.getElem?_range hi, Option.map_some, e0, hat _ hi, List.getD_eq_getElem?_getD, List.getD_eq_getElem?_getD, List.getElem?_map, List.getElem?_append_right q.1, List.getElem?_eq_getElem hi]
        rfl
      · rw [if_neg q, Hd j hj]
        congr 1
        rw [List.getD_eq_getElem?_getD, List.getD_eq_getElem?_getD, List.getElem?_map, List.getElem?_map]
        by_cases r : j < ds.length
        · rw [List.getElem?_append_left r]
        · rw [List.getElem?_eq_none (by omega), List.getElem?_eq_none (by rw [List.length_append]; omega)]
    refine ⟨_, ⟨State.heap_setCell_self (show (T.setVm vm').heap[dst]? = some cd from by show T.heap[dst]? = _; rw [eT]; exact Ad.1), ⟨fun k q => vd k (f.2.1.symm.trans q), kD, by rw [show (copied cs cd 0 dp n).cls = cd.cls from f.1]; exact hkD, compD, hkindD⟩, fun q => Ad.2.2 (f.2.1.symm.trans q)⟩, f.1.trans qd, f.2.2.1.trans Sd, Nd, fun j hj => hget j (by rw [← f.2.2.1]; exact hj), fun j hj => ?_⟩
    have hj' : j < cd.slots.size := by rw [← f.2.2.1]; exact hj
    by_cases q : ds.length ≤ j ∧ j < ds.length + ss.length
    · have hi : j - ds.length < ss.length := by omega
      have z := Gs (j - ds.length) (by rw [Ss]; omega)
      rw [List.getD_eq_getElem?_getD, List.getElem?_map, List.getElem?_eq_getElem hi] at z
      rw [List.getD_eq_getElem?_getD, List.getElem?_map, List.getElem?_append_right q.1, List.getElem?_eq_getElem hi]
      exact z
    · have z := Gd j hj'
      rw [List.getD_eq_getElem?_getD, List.getElem?_map] at z ⊢
      by_cases r : j < ds.length
      · rw [List.getElem?_append_left r]; exact z
      · rw [List.getElem?_eq_none (by rw [List.length_append]; omega)]
        rw [List.getElem?_eq_none (by omega)] at z
        exact z
abbrev oSg (Z : State) (G1 : Int32) : Prop := Sta Z Z.heap "java/lang/String" "COMPACT_STRINGS" "Z" (.int G1)
abbrev oSf (Z : State) (G2 : Value) : Prop := Sta Z Z.heap "jdk/internal/util/Preconditions" "SIOOBE_FORMATTER" "Ljava/util/function/BiFunction;" G2
abbrev oSa (Z : State) : Prop := Sta Z Z.heap "java/lang/StringUTF16" "$assertionsDisabled" "Z" (.int (1 : Int32))
abbrev oSh (Z : State) : Prop := Sta Z Z.heap "java/lang/StringUTF16" "HI_BYTE_SHIFT" "I" (.int (0 : Int32))
abbrev oSl (Z : State) : Prop := Sta Z Z.heap "java/lang/StringUTF16" "LO_BYTE_SHIFT" "I" (.int (8 : Int32))
abbrev rM (f c s l : Nat) : Room := { frames := f, cells := c, slots := s, locals := l }
abbrev MF (l : Launch) (Z : State) (h0 : Heap) (y : MethodName) (cd : ByteArray) (n : Nat) (rt : Option FieldType) (ws : List Jvm.Cond) (R : Room) (A : Array Value) (Q : Option Value → Heap → List Loc → Prop) : Prop := MetFree l y (head1 (Jvm.Cond.code y cd n rt :: ws) R) (fun a U => a = A ∧ Z.Warmed39 U.vm ∧ U.heap = h0) (fun _ _ _ _ _ => True) (fun _ U o U' => ∃ v L, o = .returned v ∧ Q v U'.heap L ∧ FrameEnd U o U' L R.cells R.slots)
abbrev MH (l : Launch) (Z : State) (h0 : Heap) (y : MethodName) (cd : ByteArray) (n : Nat) (rt : Option FieldType) (ws : List Jvm.Cond) (R : Room) (A : Array Value) (Q : Option Value → Heap → List Loc → Prop) : Prop := MetFree l y (head1 (Jvm.Cond.code y cd n rt :: ws) R) (fun a U => a = A ∧ Z.Warmed39 U.vm ∧ U.heap = h0 ∧ CHv Z own_EL U.vm h0) (fun _ _ _ _ _ => True) (fun _ U o U' => ∃ v L, o = .returned v ∧ Q v U'.heap L ∧ CHr Z own_EL U.vm U.heap U'.vm U'.heap ∧ ReturnedEndW U o U' L R.cells R.slots)
abbrev nA : String := "java/lang/AbstractStringBuilder"
abbrev nS : String := "java/lang/String"
abbrev nB : String := "java/lang/StringBuilder"
abbrev vI (x : Int32) : Value := .int x
abbrev Tb (a0 : Array Value) (Z : State) : Prop := ∀ d ∈ tables_1, d.before a0 Z = true
theorem oW {x w : Nat} (h : 2 * 0 + x = w) : 2 * 0 + x ≤ w := Nat.le_of_eq h
theorem oB {n m : Nat} (h : Nat.ble n m = true) : n ≤ m := Nat.le_of_ble_eq_true h
theorem oH {P : Jvm.Cond → Prop} (hw : ∀ d ∈ tables_1, P d) (i : Nat) {d : Jvm.Cond} (h : tables_1[i]? = some d) : P d := hw d (List.mem_of_getElem? h)
set_option maxRecDepth 65536
set_option maxHeartbeats 40000000
abbrev y_1 : MethodName := ⟨"java/lang/StringUTF16", "putChar", "([BII)V"⟩
abbrev y_2 : MethodName := ⟨"java/lang/StringUTF16", "length", "([B)I"⟩
abbrev y_3 : MethodName := ⟨"jdk/internal/util/Preconditions", "checkFromIndexSize", "(IIILjava/util/function/BiFunction;)I"⟩
abbrev y_4 : MethodName := ⟨"java/lang/String", "checkBoundsOffCount", "(III)I"⟩
abbrev y_5 : MethodName := ⟨"java/lang/StringUTF16", "checkBoundsOffCount", "(II[B)V"⟩
abbrev y_6 : MethodName := ⟨"jdk/internal/util/Preconditions", "checkIndex", "(IILjava/util/function/BiFunction;)I"⟩
abbrev y_7 : MethodName := ⟨"java/lang/String", "checkIndex", "(II)V"⟩
abbrev y_8 : MethodName := ⟨"java/lang/StringUTF16", "checkIndex", "(I[B)V"⟩
abbrev y_9 : MethodName := ⟨"java/lang/StringUTF16", "newBytesLength", "(I)I"⟩
abbrev y_10 : MethodName := ⟨"java/lang/StringUTF16", "newBytesFor", "(I)[B"⟩
abbrev y_11 : MethodName := ⟨"java/lang/StringUTF16", "inflate", "([BI[BII)V"⟩
abbrev y_12 : MethodName := ⟨"java/lang/StringLatin1", "inflate", "([BI[BII)V"⟩
abbrev y_13 : MethodName := ⟨"java/lang/String", "coder", "()B"⟩
abbrev y_14 : MethodName := ⟨"java/lang/String", "length", "()I"⟩
abbrev y_15 : MethodName := ⟨"java/lang/String", "isLatin1", "()Z"⟩
abbrev y_16 : MethodName := ⟨"java/lang/String", "getBytes", "([BIB)V"⟩
abbrev y_17 : MethodName := ⟨"java/lang/AbstractStringBuilder", "isLatin1", "()Z"⟩
abbrev y_18 : MethodName := ⟨"java/lang/AbstractStringBuilder", "inflate", "()V"⟩
abbrev y_19 : MethodName := ⟨"java/lang/AbstractStringBuilder", "inflateIfNeededFor", "(Ljava/lang/String;)V"⟩
abbrev y_20 : MethodName := ⟨"java/lang/AbstractStringBuilder", "putStringAt", "(ILjava/lang/String;)V"⟩
abbrev y_21 : MethodName := ⟨"java/lang/AbstractStringBuilder", "ensureCapacityInternal", "(I)V"⟩
abbrev y_22 : MethodName := ⟨"java/lang/AbstractStringBuilder", "append", "(Ljava/lang/String;)Ljava/lang/AbstractStringBuilder;"⟩
abbrev y_23 : MethodName := ⟨"java/lang/StringBuilder", "append", "(Ljava/lang/String;)Ljava/lang/StringBuilder;"⟩
abbrev y_24 : MethodName := ⟨"java/lang/AbstractStringBuilder", "<init>", "(I)V"⟩
abbrev y_25 : MethodName := ⟨"java/lang/StringBuilder", "<init>", "()V"⟩
abbrev y_26 : MethodName := ⟨"java/lang/AbstractStringBuilder", "getValue", "()[B"⟩
abbrev y_27 : MethodName := ⟨"java/lang/AbstractStringBuilder", "length", "()I"⟩
abbrev y_28 : MethodName := ⟨"java/lang/StringBuilder", "length", "()I"⟩
abbrev y_29 : MethodName := ⟨"java/lang/Math", "min", "(II)I"⟩
abbrev y_30 : MethodName := ⟨"java/util/Arrays", "checkLength", "(II)V"⟩
abbrev y_31 : MethodName := ⟨"java/util/Arrays", "copyOfRangeByte", "([BII)[B"⟩
abbrev y_32 : MethodName := ⟨"java/util/Arrays", "copyOfRange", "([BII)[B"⟩
abbrev y_33 : MethodName := ⟨"java/lang/String", "<init>", "(Ljava/lang/AbstractStringBuilder;Ljava/lang/Void;)V"⟩
abbrev y_34 : MethodName := ⟨"java/lang/String", "<init>", "(Ljava/lang/StringBuilder;)V"⟩
abbrev y_35 : MethodName := ⟨"java/lang/StringBuilder", "toString", "()Ljava/lang/String;"⟩
abbrev y_36 : MethodName := ⟨"java/lang/StringUTF16", "getChar", "([BI)C"⟩
abbrev y_37 : MethodName := ⟨"java/lang/StringLatin1", "charAt", "([BI)C"⟩
abbrev y_38 : MethodName := ⟨"java/lang/StringUTF16", "charAt", "([BI)C"⟩
abbrev y_39 : MethodName := ⟨"java/lang/String", "charAt", "(I)C"⟩
abbrev y_40 : MethodName := ⟨"java/lang/StringUTF16", "compress", "([CI[BII)I"⟩
abbrev y_41 : MethodName := ⟨"java/lang/StringUTF16", "toBytes", "([CII)[B"⟩
abbrev y_42 : MethodName := ⟨"java/lang/StringUTF16", "compress", "([CII)[B"⟩
abbrev y_43 : MethodName := ⟨"java/lang/StringUTF16", "coderFromArrayLen", "([BI)B"⟩
abbrev y_44 : MethodName := ⟨"java/lang/String", "<init>", "([CIILjava/lang/Void;)V"⟩
abbrev y_45 : MethodName := ⟨"java/lang/String", "<init>", "([C)V"⟩
abbrev y_46 : MethodName := ⟨"java/lang/StringLatin1", "canEncode", "(C)Z"⟩
abbrev y_47 : MethodName := ⟨"java/lang/StringLatin1", "toBytes", "(C)[B"⟩
abbrev y_48 : MethodName := ⟨"java/lang/String", "<init>", "([BB)V"⟩
abbrev y_49 : MethodName := ⟨"java/lang/String", "valueOf", "(C)Ljava/lang/String;"⟩
abbrev y_50 : MethodName := ⟨"java/lang/StringUTF16", "toBytes", "(C)[B"⟩
abbrev y_51 : MethodName := ⟨"com/example/tallyline/tallyline/core/FieldErrorToStringPinLaw", "make", "(ICC)Ljava/lang/String;"⟩
abbrev y_52 : MethodName := ⟨"java/util/Objects", "requireNonNull", "(Ljava/lang/Object;)Ljava/lang/Object;"⟩
abbrev y_53 : MethodName := ⟨"com/example/tallyline/tallyline/core/FieldError", "<init>", "(Ljava/lang/String;Ljava/lang/String;)V"⟩
abbrev y_54 : MethodName := ⟨"com/example/tallyline/tallyline/core/FieldError", "toString", "()Ljava/lang/String;"⟩
abbrev y_55 : MethodName := ⟨"com/example/tallyline/tallyline/core/FieldErrorToStringPinLaw", "expect", "(IICCCC)C"⟩
abbrev y_56 : MethodName := ⟨"com/example/tallyline/tallyline/core/FieldErrorToStringPinLaw", "ok", "(Ljava/lang/String;IIICCCC)Z"⟩
abbrev j29_69 : ByteArray := jdk_29_method_69_code
abbrev j31_10 : ByteArray := jdk_31_method_10_code
abbrev j41_11 : ByteArray := jdk_41_method_11_code
abbrev j41_13 : ByteArray := jdk_41_method_13_code
abbrev j42_139 : ByteArray := jdk_42_method_139_code
abbrev j42_147 : ByteArray := jdk_42_method_147_code
abbrev j42_149 : ByteArray := jdk_42_method_149_code
abbrev j42_150 : ByteArray := jdk_42_method_150_code
abbrev j42_151 : ByteArray := jdk_42_method_151_code
abbrev j42_152 : ByteArray := jdk_42_method_152_code
abbrev j42_154 : ByteArray := jdk_42_method_154_code
abbrev j42_155 : ByteArray := jdk_42_method_155_code
abbrev j42_157 : ByteArray := jdk_42_method_157_code
abbrev j42_3 : ByteArray := jdk_42_method_3_code
abbrev j42_53 : ByteArray := jdk_42_method_53_code
abbrev j42_54 : ByteArray := jdk_42_method_54_code
abbrev j42_56 : ByteArray := jdk_42_method_56_code
abbrev j43_2 : ByteArray := jdk_43_method_2_code
abbrev j43_3 : ByteArray := jdk_43_method_3_code
abbrev j43_46 : ByteArray := jdk_43_method_46_code
abbrev j43_50 : ByteArray := jdk_43_method_50_code
abbrev j52_14 : ByteArray := jdk_52_method_14_code
abbrev j52_15 : ByteArray := jdk_52_method_15_code
abbrev j52_16 : ByteArray := jdk_52_method_16_code
abbrev j52_21 : ByteArray := jdk_52_method_21_code
abbrev j52_24 : ByteArray := jdk_52_method_24_code
abbrev j52_2 : ByteArray := jdk_52_method_2_code
abbrev j52_3 : ByteArray := jdk_52_method_3_code
abbrev j52_4 : ByteArray := jdk_52_method_4_code
abbrev j52_5 : ByteArray := jdk_52_method_5_code
abbrev j52_6 : ByteArray := jdk_52_method_6_code
abbrev j52_83 : ByteArray := jdk_52_method_83_code
abbrev j52_86 : ByteArray := jdk_52_method_86_code
abbrev j52_91 : ByteArray := jdk_52_method_91_code
abbrev j52_94 : ByteArray := jdk_52_method_94_code
abbrev j65_131 : ByteArray := jdk_65_method_131_code
abbrev j65_132 : ByteArray := jdk_65_method_132_code
abbrev j65_133 : ByteArray := jdk_65_method_133_code
abbrev j67_1 : ByteArray := jdk_67_method_1_code
abbrev j67_42 : ByteArray := jdk_67_method_42_code
abbrev j67_7 : ByteArray := jdk_67_method_7_code
abbrev j67_93 : ByteArray := jdk_67_method_93_code
abbrev j68_11 : ByteArray := jdk_68_method_11_code
abbrev j68_22 : ByteArray := jdk_68_method_22_code
abbrev j68_2 : ByteArray := jdk_68_method_2_code
abbrev j68_64 : ByteArray := jdk_68_method_64_code
abbrev j68_68 : ByteArray := jdk_68_method_68_code
abbrev j68_6 : ByteArray := jdk_68_method_6_code
abbrev j68_71 : ByteArray := jdk_68_method_71_code
abbrev j68_73 : ByteArray := jdk_68_method_73_code
abbrev j68_9 : ByteArray := jdk_68_method_9_code
abbrev p7_1 : ByteArray := prog_7_method_1_code
abbrev p7_4 : ByteArray := prog_7_method_4_code
theorem dj52_4_0 : decode j52_4 0 = .ok (.getstatic 44, 3) := by decide +kernel
theorem dj52_4_3 : decode j52_4 3 = .ok (.ifCond .ne 25, 3) := by decide +kernel
theorem dj52_4_28 : decode j52_4 28 = .ok (.iload_n 1, 1) := by decide +kernel
theorem dj52_4_29 : decode j52_4 29 = .ok (.iconst 1, 1) := by decide +kernel
theorem dj52_4_30 : decode j52_4 30 = .ok (.ishl, 1) := by decide +kernel
theorem dj52_4_31 : decode j52_4 31 = .ok (.istore_n 1, 1) := by decide +kernel
theorem dj52_4_32 : decode j52_4 32 = .ok (.aload_n 0, 1) := by decide +kernel
theorem dj52_4_33 : decode j52_4 33 = .ok (.iload_n 1, 1) := by decide +kernel
theorem dj52_4_34 : decode j52_4 34 = .ok (.iinc 1 1, 3) := by decide +kernel
theorem dj52_4_37 : decode j52_4 37 = .ok (.iload_n 2, 1) := by decide +kernel
theorem dj52_4_38 : decode j52_4 38 = .ok (.getstatic 59, 3) := by decide +kernel
theorem dj52_4_41 : decode j52_4 41 = .ok (.ishr, 1) := by decide +kernel
theorem dj52_4_42 : decode j52_4 42 = .ok (.i2b, 1) := by decide +kernel
theorem dj52_4_43 : decode j52_4 43 = .ok (.bastore, 1) := by decide +kernel
theorem dj52_4_44 : decode j52_4 44 = .ok (.aload_n 0, 1) := by decide +kernel
theorem dj52_4_45 : decode j52_4 45 = .ok (.iload_n 1, 1) := by decide +kernel
theorem dj52_4_46 : decode j52_4 46 = .ok (.iload_n 2, 1) := by decide +kernel
theorem dj52_4_47 : decode j52_4 47 = .ok (.getstatic 63, 3) := by decide +kernel
theorem dj52_4_50 : decode j52_4 50 = .ok (.ishr, 1) := by decide +kernel
theorem dj52_4_51 : decode j52_4 51 = .ok (.i2b, 1) := by decide +kernel
theorem dj52_4_52 : decode j52_4 52 = .ok (.bastore, 1) := by decide +kernel
theorem dj52_4_53 : decode j52_4 53 = .ok (.return_, 1) := by decide +kernel
theorem pn_java_lang_StringUTF16 : plainName "java/lang/StringUTF16" = true := by first | (simp [plainName, overriddenIn]; done) | decide +kernel
theorem ef_ptc (m : MethodId) (x0 : Addr) (x1 : Int32) (x2 : Int32) : entryFrame m #[(.ref x0), (.int x1), (.int x2)] 3 = mkF m 0 #[sR x0, sI x1, sI x2] [] := by (first | (simp [entryFrame, mkF, argsToLocals, Value.category]; done) | rfl)
def Q_ptc (Z : State) (v1 : Addr) (kv : ClassId) (M cc : Int32) (out : List Int32) (h0 : Heap) (n0 : Nat) (v : Option Value) (h : Heap) (L : List Loc) : Prop := v = none ∧ Fr n0 L ∧ Keep h0 h [v1] ∧ Arv Z h v1 kv .byte M ((out ++ [cc.toInt8.toInt32, (cc >>> (8 : Int32)).toInt8.toInt32]).map Value.int) (vI 0)
theorem rm_ptc (l : Launch) (Z : State) (a0 : Array Value) (hw : Tb a0 Z) (ws : List Jvm.Cond) (v1 : Addr) (kv : ClassId) (M ix cc : Int32) (out : List Int32) (G1 : Int32) (G2 : Value) (h0 : Heap) (n0 : Nat) (Z0 : n0 ≤ h0.size) (g_v1 : n0 ≤ v1) (A1 : Arv Z h0 v1 kv .byte M (out.map Value.int) (vI 0)) (i1 : ¬ (ix <<< ((1 : Int32) &&& 31)) < 0 ∧ (ix <<< ((1 : Int32) &&& 31)) < M) (k1 : (ix <<< ((1 : Int32) &&& 31)).toNatClampNeg = out.length) (i2 : ¬ ((ix <<< ((1 : Int32) &&& 31)) + (1 : Int32)) < 0 ∧ ((ix <<< ((1 : Int32) &&& 31)) + (1 : Int32)) < M) (k2 : ((ix <<< ((1 : Int32) &&& 31)) + (1 : Int32)).toNatClampNeg = out.length + 1) (Sg : oSg Z G1) (P5 : ¬ (G1 = (0 : Int32))) (Sf : oSf Z G2) (hG2 : G2.isRef = true) (Sa : oSa Z) (Sh : oSh Z) (Sl : oSl Z) (Ol : Old Z n0 h0) :
    MF l Z h0 y_1 j52_4 3 none ws (rM 0 0 0 0) #[(.ref v1), (.int ix), (.int cc)] (Q_ptc Z v1 kv M cc out h0 n0) := by
  refine MetFree.of_bodySF (plainFor_of_name pn_java_lang_StringUTF16) hisR ?_
  intro p e s m args below meth c s₁ Bd hml hP hK
  obtain ⟨rfl, hZ, hh⟩ := hP
  have hx := Bd.exec
  have hby := Bd.bytes
  have hown : s.vm.findClass "java/lang/StringUTF16" = some m.cls := findClass_of_methodNamed Bd.named
  have X0 : Stand p l e (rM 0 0 0 0) s m #[(.ref v1), (.int ix), (.int cc)] below meth c s₁ [] 0 0 := Stand.of_body Bd
  have e0 : s₁.heap = h0 := by rw [← hh, Bd.state]; rfl
  have N0 := Fr.nil n0
  obtain ⟨B0, pre0, P0⟩ : ∃ B, Rg p e below B (s₁.setTop (entryFrame m #[(.ref v1), (.int ix), (.int cc)] 3)) ∧ Rg p e below (s₁.setTop (mkF m 0 #[sR v1, sI ix, sI cc] [])) B := ⟨_, fun t k => castTop (ef_ptc m v1 ix cc) k, fun t k => k⟩
  obtain ⟨T1, X1, e1, st1⟩ := getS2 X0 hx hZ hown (host := "") (Or.inl (oH hw 219 rfl)) Via.refl e0 (Sa.ext Ol.2) (g := (mkF m 0 #[sR v1, sI ix, sI cc] [])) rfl (hb hby dj52_4_0)
  have P2 : Rg p e below (T1.setTop (mkF m 3 #[sR v1, sI ix, sI cc] [(vI 1)])) B0 := fun t k => P0 t (by
    exact st1 _ k)
  obtain ⟨T3, X3, e3, st3⟩ := getS2 X1 hx hZ hown (host := "") (Or.inl (oH hw 220 rfl)) Via.refl e1 (Sh.ext Ol.2) (g := (mkF m 38 #[sR v1, .val (.int ((ix <<< ((1 : Int32) &&& 31)) + (1 : Int32))), sI cc] [(.int cc), (.int (ix <<< ((1 : Int32) &&& 31))), (.ref v1)])) rfl (hb hby dj52_4_38)
  have P4 : Rg p e below (T3.setTop (mkF m 41 #[sR v1, .val (.int ((ix <<< ((1 : Int32) &&& 31)) + (1 : Int32))), sI cc] [(vI 0), (.int cc), (.int (ix <<< ((1 : Int32) &&& 31))), (.ref v1)])) B0 := fun t k => P2 t (by
    refine XS.ifYes X1.here hx rfl (pc0 := 3) (pc' := 28) rfl (hb hby dj52_4_3) rfl ((if0 _ _).trans (feq (show ¬ ((1 : Int32) = (0 : Int32)) from (by decide))).2) (by decide) (by decide) ?_
    refine XS.iloadN X1.here hx rfl (hb hby dj52_4_28) rfl ?_
    refine XS.iconst X1.here hx rfl (hb hby dj52_4_29) ?_
    refine XS.ishl X1.here hx rfl (hb hby dj52_4_30) rfl ?_
    refine XS.istoreN X1.here hx rfl (hb hby dj52_4_31) rfl (l' := #[sR v1, .val (.int (ix <<< ((1 : Int32) &&& 31))), sI cc]) rfl ?_
    refine XS.aloadN X1.here hx rfl (hb hby dj52_4_32) rfl rfl ?_
    refine XS.iloadN X1.here hx rfl (hb hby dj52_4_33) rfl ?_
    refine XS.iinc X1.here hx rfl (hb hby dj52_4_34) rfl (l' := #[sR v1, .val (.int ((ix <<< ((1 : Int32) &&& 31)) + (1 : Int32))), sI cc]) rfl ?_
    refine XS.iloadN X1.here hx rfl (hb hby dj52_4_37) rfl ?_
    exact st3 _ k)
  obtain ⟨cl5, Ar5, q5, S5, N5, H5, G5⟩ := Arv.pad A1 (own_padl out)
  obtain ⟨T5, h5, X5, e5, W5, st5⟩ := stB X3 hx hZ e3 Ar5 (j := (ix <<< ((1 : Int32) &&& 31))) (inb_of S5 i1) (g := (mkF m 43 #[sR v1, .val (.int ((ix <<< ((1 : Int32) &&& 31)) + (1 : Int32))), sI cc] [(.int ((cc >>> ((0 : Int32) &&& 31)).toInt8.toInt32)), (.int (ix <<< ((1 : Int32) &&& 31))), (.ref v1)])) rfl rfl (hb hby dj52_4_43)
  have v6 : Arv Z h5 v1 kv .byte M ((out ++ [(((cc >>> ((0 : Int32) &&& 31)).toInt8.toInt32).toInt8.toInt32)]).map Value.int) (vI 0) := own_setl out (((cc >>> ((0 : Int32) &&& 31)).toInt8.toInt32).toInt8.toInt32) ▸ Arv.set Ar5 q5 S5 N5 H5 G5 (fits_nar_byte _) W5 out.length k1 (own_ltl out)
  have P7 : Rg p e below (T5.setTop (mkF m 44 #[sR v1, .val (.int ((ix <<< ((1 : Int32) &&& 31)) + (1 : Int32))), sI cc] [])) B0 := fun t k => P4 t (by
    refine XS.ishr X3.here hx rfl (hb hby dj52_4_41) rfl ?_
    refine XS.i2b X3.here hx rfl (hb hby dj52_4_42) rfl ?_
    exact st5 _ k)
  have N8 := Fr.snoc X5 N0 g_v1
  have Z9 : n0 ≤ h5.size := Nat.le_trans Z0 (Keep.of_wr W5).1
  have K10 : Keep h0 h5 [v1] := (Keep.refl h0 [v1]).wr W5 (Or.inl (List.mem_of_getElem? (i := 0) rfl))
  have O11 : Old Z n0 h5 := Ol.wr W5 g_v1
  obtain ⟨T12, X12, e12, st12⟩ := getS2 X5 hx hZ hown (host := "") (Or.inl (oH hw 221 rfl)) Via.refl e5 (Sl.ext O11.2) (g := (mkF m 47 #[sR v1, .val (.int ((ix <<< ((1 : Int32) &&& 31)) + (1 : Int32))), sI cc] [(.int cc), (.int ((ix <<< ((1 : Int32) &&& 31)) + (1 : Int32))), (.ref v1)])) rfl (hb hby dj52_4_47)
  have P13 : Rg p e below (T12.setTop (mkF m 50 #[sR v1, .val (.int ((ix <<< ((1 : Int32) &&& 31)) + (1 : Int32))), sI cc] [(vI 8), (.int cc), (.int ((ix <<< ((1 : Int32) &&& 31)) + (1 : Int32))), (.ref v1)])) B0 := fun t k => P7 t (by
    refine XS.aloadN X5.here hx rfl (hb hby dj52_4_44) rfl rfl ?_
    refine XS.iloadN X5.here hx rfl (hb hby dj52_4_45) rfl ?_
    refine XS.iloadN X5.here hx rfl (hb hby dj52_4_46) rfl ?_
    exact st12 _ k)
  obtain ⟨cl14, Ar14, q14, S14, N14, H14, G14⟩ := Arv.pad v6 (own_padl (out ++ [(((cc >>> ((0 : Int32) &&& 31)).toInt8.toInt32).toInt8.toInt32)]))
  obtain ⟨T14, h14, X14, e14, W14, st14⟩ := stB X12 hx hZ e12 Ar14 (j := ((ix <<< ((1 : Int32) &&& 31)) + (1 : Int32))) (inb_of S14 i2) (g := (mkF m 52 #[sR v1, .val (.int ((ix <<< ((1 : Int32) &&& 31)) + (1 : Int32))), sI cc] [(.int ((cc >>> ((8 : Int32) &&& 31)).toInt8.toInt32)), (.int ((ix <<< ((1 : Int32) &&& 31)) + (1 : Int32))), (.ref v1)])) rfl rfl (hb hby dj52_4_52)
  have v15 : Arv Z h14 v1 kv .byte M (((out ++ [(((cc >>> ((0 : Int32) &&& 31)).toInt8.toInt32).toInt8.toInt32)]) ++ [(((cc >>> ((8 : Int32) &&& 31)).toInt8.toInt32).toInt8.toInt32)]).map Value.int) (vI 0) := own_setl (out ++ [(((cc >>> ((0 : Int32) &&& 31)).toInt8.toInt32).toInt8.toInt32)]) (((cc >>> ((8 : Int32) &&& 31)).toInt8.toInt32).toInt8.toInt32) ▸ Arv.set Ar14 q14 S14 N14 H14 G14 (fits_nar_byte _) W14 (out ++ [(((cc >>> ((0 : Int32) &&& 31)).toInt8.toInt32).toInt8.toInt32)]).length (k2.trans (by simp)) (own_ltl (out ++ [(((cc >>> ((0 : Int32) &&& 31)).toInt8.toInt32).toInt8.toInt32)]))
  have P16 : Rg p e below (T14.setTop (mkF m 53 #[sR v1, .val (.int ((ix <<< ((1 : Int32) &&& 31)) + (1 : Int32))), sI cc] [])) B0 := fun t k => P13 t (by
    refine XS.ishr X12.here hx rfl (hb hby dj52_4_50) rfl ?_
    refine XS.i2b X12.here hx rfl (hb hby dj52_4_51) rfl ?_
    exact st14 _ k)
  have N17 := Fr.snoc X14 N8 g_v1
  have Z18 : n0 ≤ h14.size := Nat.le_trans Z9 (Keep.of_wr W14).1
  have K19 : Keep h0 h14 [v1] := K10.wr W14 (Or.inl (List.mem_of_getElem? (i := 0) rfl))
  have O20 : Old Z n0 h14 := O11.wr W14 g_v1
  have A9 := v15
  rw [own_pc0, own_pc1, List.append_assoc] at A9
  obtain ⟨fs21, hr21, hrun21, hended21, hW21, hsame21⟩ := X14.leave (v := none) (fun _ => rfl)
  refine ⟨_, _, pre0 _ (P16 _ ?_), hrun21, hended21, _, _, rfl, ?_, ⟨⟨_, rfl⟩, hW21, hsame21.mono (oB rfl) (oB rfl)⟩⟩
  · exact X14.returnOut hx Bd.returns (hb hby dj52_4_53) hr21
  · show Q_ptc Z v1 kv M cc out h0 n0 _ T14.heap _
    rw [e14]
    exact ⟨rfl, N17, K19, A9⟩
theorem dj52_6_0 : decode j52_6 0 = .ok (.aload_n 0, 1) := by decide +kernel
theorem dj52_6_1 : decode j52_6 1 = .ok (.arraylength, 1) := by decide +kernel
theorem dj52_6_2 : decode j52_6 2 = .ok (.iconst 1, 1) := by decide +kernel
theorem dj52_6_3 : decode j52_6 3 = .ok (.ishr, 1) := by decide +kernel
theorem dj52_6_4 : decode j52_6 4 = .ok (.ireturn, 1) := by decide +kernel
theorem ef_uln (m : MethodId) (x0 : Addr) : entryFrame m #[(.ref x0)] 1 = mkF m 0 #[sR x0] [] := by (first | (simp [entryFrame, mkF, argsToLocals, Value.category]; done) | rfl)
def Q_uln (M : Int32) (h0 : Heap) (n0 : Nat) (v : Option Value) (h : Heap) (L : List Loc) : Prop := v = some (.int (M >>> ((1 : Int32) &&& 31))) ∧ Fr n0 L ∧ h = h0
theorem rm_uln (l : Launch) (Z : State) (a0 : Array Value) (hw : Tb a0 Z) (ws : List Jvm.Cond) (v1 : Addr) (kv : ClassId) (M : Int32) (vs : List Value) (h0 : Heap) (n0 : Nat) (Z0 : n0 ≤ h0.size) (A1 : Arv Z h0 v1 kv .byte M vs (vI 0)) :
    MF l Z h0 y_2 j52_6 1 (some .int) ws (rM 0 0 0 0) #[(.ref v1)] (Q_uln M h0 n0) := by
  refine MetFree.of_bodySF (plainFor_of_name pn_java_lang_StringUTF16) hisR ?_
  intro p e s m args below meth c s₁ Bd hml hP hK
  obtain ⟨rfl, hZ, hh⟩ := hP
  have hx := Bd.exec
  have hby := Bd.bytes
  have hown : s.vm.findClass "java/lang/StringUTF16" = some m.cls := findClass_of_methodNamed Bd.named
  have X0 : Stand p l e (rM 0 0 0 0) s m #[(.ref v1)] below meth c s₁ [] 0 0 := Stand.of_body Bd
  have e0 : s₁.heap = h0 := by rw [← hh, Bd.state]; rfl
  have N0 := Fr.nil n0
  obtain ⟨B0, pre0, P0⟩ : ∃ B, Rg p e below B (s₁.setTop (entryFrame m #[(.ref v1)] 1)) ∧ Rg p e below (s₁.setTop (mkF m 0 #[sR v1] [])) B := ⟨_, fun t k => castTop (ef_uln m v1) k, fun t k => k⟩
  obtain ⟨cl22, Ar22, -, S22, N22, -, -⟩ := id A1
  obtain ⟨fs23, hr23, hrun23, hended23, hW23, hsame23⟩ := X0.leave (v := some (.int (M >>> ((1 : Int32) &&& 31)))) (fun h => by rw [Bd.returns] at h; cases h)
  refine ⟨_, _, pre0 _ (P0 _ ?_), hrun23, hended23, _, _, rfl, ?_, ⟨⟨_, rfl⟩, hW23, hsame23.mono (oB rfl) (oB rfl)⟩⟩
  · refine XS.aloadN X0.here hx rfl (hb hby dj52_6_0) rfl rfl ?_
    show Sq p e below (s₁.setTop (mkF m 1 #[sR v1] [(.ref v1)])) _
    refine X0.arraylength hx (by rw [e0]; exact Ar22.1) (State.isArrayOf_alike hZ.alike Ar22.2.1) (g := (mkF m 1 #[sR v1] [(.ref v1)])) rfl rfl (hb hby dj52_6_1) _ ?_
    rw [len_of S22 N22]
    show Sq p e below (s₁.setTop (mkF m 2 #[sR v1] [(.int M)])) _
    refine XS.iconst X0.here hx rfl (hb hby dj52_6_2) ?_
    refine XS.ishr X0.here hx rfl (hb hby dj52_6_3) rfl ?_
    exact retI X0 hx Bd.returns (hb hby dj52_6_4) hr23
  · show Q_uln M h0 n0 _ s₁.heap _
    rw [e0]
    exact ⟨rfl, N0, rfl⟩
theorem dj41_13_0 : decode j41_13 0 = .ok (.iload_n 2, 1) := by decide +kernel
theorem dj41_13_1 : decode j41_13 1 = .ok (.iload_n 0, 1) := by decide +kernel
theorem dj41_13_2 : decode j41_13 2 = .ok (.ior, 1) := by decide +kernel
theorem dj41_13_3 : decode j41_13 3 = .ok (.iload_n 1, 1) := by decide +kernel
theorem dj41_13_4 : decode j41_13 4 = .ok (.ior, 1) := by decide +kernel
theorem dj41_13_5 : decode j41_13 5 = .ok (.ifCond .lt 10, 3) := by decide +kernel
theorem dj41_13_8 : decode j41_13 8 = .ok (.iload_n 1, 1) := by decide +kernel
theorem dj41_13_9 : decode j41_13 9 = .ok (.iload_n 2, 1) := by decide +kernel
theorem dj41_13_10 : decode j41_13 10 = .ok (.iload_n 0, 1) := by decide +kernel
theorem dj41_13_11 : decode j41_13 11 = .ok (.isub, 1) := by decide +kernel
theorem dj41_13_12 : decode j41_13 12 = .ok (.if_icmp .le 11, 3) := by decide +kernel
theorem dj41_13_23 : decode j41_13 23 = .ok (.iload_n 0, 1) := by decide +kernel
theorem dj41_13_24 : decode j41_13 24 = .ok (.ireturn, 1) := by decide +kernel
theorem pn_jdk_internal_util_Preconditions : plainName "jdk/internal/util/Preconditions" = true := by first | (simp [plainName, overriddenIn]; done) | decide +kernel
theorem ef_cfi (m : MethodId) (x0 : Int32) (x1 : Int32) (x2 : Int32) (x3 : Value) (r3 : x3.isRef = true) : entryFrame m #[(.int x0), (.int x1), (.int x2), x3] 4 = mkF m 0 #[sI x0, sI x1, sI x2, .val x3] [] := by rcases ref_cases r3 with rfl | ⟨_, rfl⟩ <;> (first | (simp [entryFrame, mkF, argsToLocals, Value.category]; done) | rfl)
def Q_cfi (p0 : Int32) (h0 : Heap) (n0 : Nat) (v : Option Value) (h : Heap) (L : List Loc) : Prop := v = some (.int p0) ∧ Fr n0 L ∧ h = h0
theorem rm_cfi (l : Launch) (Z : State) (a0 : Array Value) (hw : Tb a0 Z) (ws : List Jvm.Cond) (p0 p1 p2 : Int32) (G2 : Value) (h0 : Heap) (n0 : Nat) (Z0 : n0 ≤ h0.size) (hG2 : G2.isRef = true) (q1 : ¬ ((p2 ||| p0) ||| p1) < (0 : Int32)) (q2 : ¬ (p2 - p0) < p1) :
    MF l Z h0 y_3 j41_13 4 (some .int) ws (rM 0 0 0 0) #[(.int p0), (.int p1), (.int p2), G2] (Q_cfi p0 h0 n0) := by
  refine MetFree.of_bodySF (plainFor_of_name pn_jdk_internal_util_Preconditions) hisR ?_
  intro p e s m args below meth c s₁ Bd hml hP hK
  obtain ⟨rfl, hZ, hh⟩ := hP
  have hx := Bd.exec
  have hby := Bd.bytes
  have hown : s.vm.findClass "jdk/internal/util/Preconditions" = some m.cls := findClass_of_methodNamed Bd.named
  have X0 : Stand p l e (rM 0 0 0 0) s m #[(.int p0), (.int p1), (.int p2), G2] below meth c s₁ [] 0 0 := Stand.of_body Bd
  have e0 : s₁.heap = h0 := by rw [← hh, Bd.state]; rfl
  have N0 := Fr.nil n0
  obtain ⟨B0, pre0, P0⟩ : ∃ B, Rg p e below B (s₁.setTop (entryFrame m #[(.int p0), (.int p1), (.int p2), G2] 4)) ∧ Rg p e below (s₁.setTop (mkF m 0 #[sI p0, sI p1, sI p2, .val G2] [])) B := ⟨_, fun t k => castTop (ef_cfi m p0 p1 p2 G2 hG2) k, fun t k => k⟩
  obtain ⟨fs24, hr24, hrun24, hended24, hW24, hsame24⟩ := X0.leave (v := some (.int p0)) (fun h => by rw [Bd.returns] at h; cases h)
  refine ⟨_, _, pre0 _ (P0 _ ?_), hrun24, hended24, _, _, rfl, ?_, ⟨⟨_, rfl⟩, hW24, hsame24.mono (oB rfl) (oB rfl)⟩⟩
  · refine XS.iloadN X0.here hx rfl (hb hby dj41_13_0) rfl ?_
    show Sq p e below (s₁.setTop (mkF m 1 #[sI p0, sI p1, sI p2, .val G2] [(.int p2)])) _
    refine XS.iloadN X0.here hx rfl (hb hby dj41_13_1) rfl ?_
    refine XS.ior X0.here hx rfl (hb hby dj41_13_2) rfl ?_
    refine XS.iloadN X0.here hx rfl (hb hby dj41_13_3) rfl ?_
    refine XS.ior X0.here hx rfl (hb hby dj41_13_4) rfl ?_
    refine XS.ifNo X0.here hx rfl (hb hby dj41_13_5) rfl ((if0 _ _).trans (flt (show ¬ (((p2 ||| p0) ||| p1) < (0 : Int32)) from q1)).1) ?_
    refine XS.iloadN X0.here hx rfl (hb hby dj41_13_8) rfl ?_
    refine XS.iloadN X0.here hx rfl (hb hby dj41_13_9) rfl ?_
    refine XS.iloadN X0.here hx rfl (hb hby dj41_13_10) rfl ?_
    refine XS.isub X0.here hx rfl (hb hby dj41_13_11) rfl ?_
    refine XS.icmpYes X0.here hx rfl (pc0 := 12) (pc' := 23) rfl (hb hby dj41_13_12) rfl (flt (show ¬ ((p2 - p0) < p1) from q2)).2.2.2 (by decide) (by decide) ?_
    refine XS.iloadN X0.here hx rfl (hb hby dj41_13_23) rfl ?_
    exact retI X0 hx Bd.returns (hb hby dj41_13_24) hr24
  · show Q_cfi p0 h0 n0 _ s₁.heap _
    rw [e0]
    exact ⟨rfl, N0, rfl⟩
theorem dj42_157_0 : decode j42_157 0 = .ok (.iload_n 0, 1) := by decide +kernel
theorem dj42_157_1 : decode j42_157 1 = .ok (.iload_n 1, 1) := by decide +kernel
theorem dj42_157_2 : decode j42_157 2 = .ok (.iload_n 2, 1) := by decide +kernel
theorem dj42_157_3 : decode j42_157 3 = .ok (.getstatic 1053, 3) := by decide +kernel
theorem dj42_157_6 : decode j42_157 6 = .ok (.invokestatic 1065, 3) := by decide +kernel
theorem pd1 : parseMethodDescriptor "(IIILjava/util/function/BiFunction;)I" = some ⟨[.int, .int, .int, (.object "java/util/function/BiFunction")], some .int⟩ := by decide +kernel
theorem dj42_157_9 : decode j42_157 9 = .ok (.ireturn, 1) := by decide +kernel
theorem pn_java_lang_String : plainName "java/lang/String" = true := by first | (simp [plainName, overriddenIn]; done) | decide +kernel
theorem ef_sbo (m : MethodId) (x0 : Int32) (x1 : Int32) (x2 : Int32) : entryFrame m #[(.int x0), (.int x1), (.int x2)] 3 = mkF m 0 #[sI x0, sI x1, sI x2] [] := by (first | (simp [entryFrame, mkF, argsToLocals, Value.category]; done) | rfl)
def Q_sbo (p0 : Int32) (h0 : Heap) (n0 : Nat) (v : Option Value) (h : Heap) (L : List Loc) : Prop := v = some (.int p0) ∧ Fr n0 L ∧ h = h0
theorem rm_sbo (l : Launch) (Z : State) (a0 : Array Value) (hw : Tb a0 Z) (ws : List Jvm.Cond) (p0 p1 p2 : Int32) (G1 : Int32) (G2 : Value) (h0 : Heap) (n0 : Nat) (Z0 : n0 ≤ h0.size) (q1 : ¬ ((p2 ||| p0) ||| p1) < (0 : Int32)) (q2 : ¬ (p2 - p0) < p1) (Sg : oSg Z G1) (P5 : ¬ (G1 = (0 : Int32))) (Sf : oSf Z G2) (hG2 : G2.isRef = true) (Sa : oSa Z) (Sh : oSh Z) (Sl : oSl Z) (Ol : Old Z n0 h0) :
    MF l Z h0 y_4 j42_157 3 (some .int) ws (rM 1 0 0 15) #[(.int p0), (.int p1), (.int p2)] (Q_sbo p0 h0 n0) := by
  refine MetFree.of_bodySF (plainFor_of_name pn_java_lang_String) hisR ?_
  intro p e s m args below meth c s₁ Bd hml hP hK
  obtain ⟨rfl, hZ, hh⟩ := hP
  have hx := Bd.exec
  have hby := Bd.bytes
  have hown : s.vm.findClass "java/lang/String" = some m.cls := findClass_of_methodNamed Bd.named
  have X0 : Stand p l e (rM 1 0 0 15) s m #[(.int p0), (.int p1), (.int p2)] below meth c s₁ [] 0 0 := Stand.of_body Bd
  have e0 : s₁.heap = h0 := by rw [← hh, Bd.state]; rfl
  have N0 := Fr.nil n0
  obtain ⟨B0, pre0, P0⟩ : ∃ B, Rg p e below B (s₁.setTop (entryFrame m #[(.int p0), (.int p1), (.int p2)] 3)) ∧ Rg p e below (s₁.setTop (mkF m 0 #[sI p0, sI p1, sI p2] [])) B := ⟨_, fun t k => castTop (ef_sbo m p0 p1 p2) k, fun t k => k⟩
  obtain ⟨T25, X25, e25, st25⟩ := getS2 X0 hx hZ hown (host := "") (Or.inl (oH hw 192 rfl)) Via.refl e0 (Sf.ext Ol.2) (g := (mkF m 3 #[sI p0, sI p1, sI p2] [(.int p2), (.int p1), (.int p0)])) rfl (hb hby dj42_157_3)
  have P26 : Rg p e below (T25.setTop (mkF m 6 #[sI p0, sI p1, sI p2] [G2, (.int p2), (.int p1), (.int p0)])) B0 := fun t k => P0 t (by
    refine XS.iloadN X0.here hx rfl (hb hby dj42_157_0) rfl ?_
    refine XS.iloadN X0.here hx rfl (hb hby dj42_157_1) rfl ?_
    refine XS.iloadN X0.here hx rfl (hb hby dj42_157_2) rfl ?_
    exact st25 _ k)
  obtain ⟨_, _, ⟨T27, L27, k27, n27⟩, -, X27, ⟨Lc27, hQ27, l27, y27, z27⟩, st27⟩ := Jvm.LawKit.callS X25 hx (y := y_3) hown (mvT hZ (oH hw 250 rfl)) (mvT hZ (oH hw 251 rfl)) (mvT hZ (oH hw 193 rfl)) (mvT hZ (oH hw 252 rfl)) (by decide) (backOf (W := 0) (rm_cfi l Z a0 hw [] p0 p1 p2 G2 h0 n0 Z0 hG2 q1 q2) hZ (oH hw 252 rfl) (oH hw 193 rfl) (by decide) (by decide)) (g := (mkF m 6 #[sI p0, sI p1, sI p2] [G2, (.int p2), (.int p1), (.int p0)])) rfl (by rw [hml]; rfl) (argsL := [(.int p0), (.int p1), (.int p2), G2]) (rest := []) (lenOf pd1 rfl) rfl (oW rfl) (hb hby dj42_157_6) (fun _ _ => ⟨rfl, e25, (oB rfl : 0 + 0 ≤ _), (oB rfl : 0 + 0 ≤ _)⟩)
  dsimp only [Pt.U, Pt.locs, Pt.cells, Pt.slots] at X27 l27 y27 z27 st27 hQ27
  subst l27 y27 z27
  obtain ⟨rfl, Nq27, e27⟩ := hQ27
  have N28 := Fr.app N0 Nq27
  have P29 : Rg p e below (T27.setTop (mkF m 9 #[sI p0, sI p1, sI p2] [(.int p0)])) B0 := fun t k => P26 t (by
    exact st27 _ k)
  obtain ⟨fs30, hr30, hrun30, hended30, hW30, hsame30⟩ := X27.leave (v := some (.int p0)) (fun h => by rw [Bd.returns] at h; cases h)
  refine ⟨_, _, pre0 _ (P29 _ ?_), hrun30, hended30, _, _, rfl, ?_, ⟨⟨_, rfl⟩, hW30, hsame30.mono (oB rfl) (oB rfl)⟩⟩
  · exact retI X27 hx Bd.returns (hb hby dj42_157_9) hr30
  · show Q_sbo p0 h0 n0 _ T27.heap _
    rw [e27]
    exact ⟨rfl, N28, rfl⟩
theorem dj52_94_0 : decode j52_94 0 = .ok (.iload_n 0, 1) := by decide +kernel
theorem dj52_94_1 : decode j52_94 1 = .ok (.iload_n 1, 1) := by decide +kernel
theorem dj52_94_2 : decode j52_94 2 = .ok (.aload_n 2, 1) := by decide +kernel
theorem dj52_94_3 : decode j52_94 3 = .ok (.invokestatic 48, 3) := by decide +kernel
theorem pd2 : parseMethodDescriptor "([B)I" = some ⟨[(.array .byte)], some .int⟩ := by decide +kernel
theorem dj52_94_6 : decode j52_94 6 = .ok (.invokestatic 419, 3) := by decide +kernel
theorem pd3 : parseMethodDescriptor "(III)I" = some ⟨[.int, .int, .int], some .int⟩ := by decide +kernel
theorem dj52_94_9 : decode j52_94 9 = .ok (.pop, 1) := by decide +kernel
theorem dj52_94_10 : decode j52_94 10 = .ok (.return_, 1) := by decide +kernel
theorem ef_ubo (m : MethodId) (x0 : Int32) (x1 : Int32) (x2 : Addr) : entryFrame m #[(.int x0), (.int x1), (.ref x2)] 3 = mkF m 0 #[sI x0, sI x1, sR x2] [] := by (first | (simp [entryFrame, mkF, argsToLocals, Value.category]; done) | rfl)
def Q_ubo  (h0 : Heap) (n0 : Nat) (v : Option Value) (h : Heap) (L : List Loc) : Prop := v = none ∧ Fr n0 L ∧ h = h0
theorem rm_ubo (l : Launch) (Z : State) (a0 : Array Value) (hw : Tb a0 Z) (ws : List Jvm.Cond) (p0 p1 : Int32) (v1 : Addr) (kv : ClassId) (M : Int32) (vs : List Value) (G1 : Int32) (G2 : Value) (h0 : Heap) (n0 : Nat) (Z0 : n0 ≤ h0.size) (A1 : Arv Z h0 v1 kv .byte M vs (vI 0)) (q1 : ¬ (((M >>> ((1 : Int32) &&& 31)) ||| p0) ||| p1) < (0 : Int32)) (q2 : ¬ ((M >>> ((1 : Int32) &&& 31)) - p0) < p1) (Sg : oSg Z G1) (P5 : ¬ (G1 = (0 : Int32))) (Sf : oSf Z G2) (hG2 : G2.isRef = true) (Sa : oSa Z) (Sh : oSh Z) (Sl : oSl Z) (Ol : Old Z n0 h0) :
    MF l Z h0 y_5 j52_94 3 none ws (rM 2 0 0 29) #[(.int p0), (.int p1), (.ref v1)] (Q_ubo  h0 n0) := by
  refine MetFree.of_bodySF (plainFor_of_name pn_java_lang_StringUTF16) hisR ?_
  intro p e s m args below meth c s₁ Bd hml hP hK
  obtain ⟨rfl, hZ, hh⟩ := hP
  have hx := Bd.exec
  have hby := Bd.bytes
  have hown : s.vm.findClass "java/lang/StringUTF16" = some m.cls := findClass_of_methodNamed Bd.named
  have X0 : Stand p l e (rM 2 0 0 29) s m #[(.int p0), (.int p1), (.ref v1)] below meth c s₁ [] 0 0 := Stand.of_body Bd
  have e0 : s₁.heap = h0 := by rw [← hh, Bd.state]; rfl
  have N0 := Fr.nil n0
  obtain ⟨B0, pre0, P0⟩ : ∃ B, Rg p e below B (s₁.setTop (entryFrame m #[(.int p0), (.int p1), (.ref v1)] 3)) ∧ Rg p e below (s₁.setTop (mkF m 0 #[sI p0, sI p1, sR v1] [])) B := ⟨_, fun t k => castTop (ef_ubo m p0 p1 v1) k, fun t k => k⟩
  obtain ⟨_, _, ⟨T31, L31, k31, n31⟩, -, X31, ⟨Lc31, hQ31, l31, y31, z31⟩, st31⟩ := Jvm.LawKit.callS X0 hx (y := y_2) hown (mvT hZ (oH hw 244 rfl)) (mvT hZ (oH hw 245 rfl)) (mvT hZ (oH hw 23 rfl)) (mvT hZ (oH hw 246 rfl)) (by decide) (backOf (W := 2) (rm_uln l Z a0 hw [] v1 kv M vs h0 n0 Z0 A1) hZ (oH hw 246 rfl) (oH hw 23 rfl) (by decide) (by decide)) (g := (mkF m 3 #[sI p0, sI p1, sR v1] [(.ref v1), (.int p1), (.int p0)])) rfl (by rw [hml]; rfl) (argsL := [(.ref v1)]) (rest := [(.int p1), (.int p0)]) (lenOf pd2 rfl) rfl (oW rfl) (hb hby dj52_94_3) (fun _ _ => ⟨rfl, e0, (oB rfl : 0 + 0 ≤ _), (oB rfl : 0 + 0 ≤ _)⟩)
  dsimp only [Pt.U, Pt.locs, Pt.cells, Pt.slots] at X31 l31 y31 z31 st31 hQ31
  subst l31 y31 z31
  obtain ⟨rfl, Nq31, e31⟩ := hQ31
  have N32 := Fr.app N0 Nq31
  have P33 : Rg p e below (T31.setTop (mkF m 6 #[sI p0, sI p1, sR v1] [(.int (M >>> ((1 : Int32) &&& 31))), (.int p1), (.int p0)])) B0 := fun t k => P0 t (by
    refine XS.iloadN X0.here hx rfl (hb hby dj52_94_0) rfl ?_
    refine XS.iloadN X0.here hx rfl (hb hby dj52_94_1) rfl ?_
    refine XS.aloadN X0.here hx rfl (hb hby dj52_94_2) rfl rfl ?_
    exact st31 _ k)
  obtain ⟨_, _, ⟨T34, L34, k34, n34⟩, -, X34, ⟨Lc34, hQ34, l34, y34, z34⟩, st34⟩ := Jvm.LawKit.callS X31 hx (y := y_4) hown (mvT hZ (oH hw 247 rfl)) (mvT hZ (oH hw 248 rfl)) (mvT hZ (oH hw 8 rfl)) (mvT hZ (oH hw 249 rfl)) (by decide) (backOf (W := 0) (rm_sbo l Z a0 hw [] p0 p1 (M >>> ((1 : Int32) &&& 31)) G1 G2 h0 n0 Z0 q1 q2 Sg P5 Sf hG2 Sa Sh Sl Ol) hZ (oH hw 249 rfl) (oH hw 8 rfl) (by decide) (by decide)) (g := (mkF m 6 #[sI p0, sI p1, sR v1] [(.int (M >>> ((1 : Int32) &&& 31))), (.int p1), (.int p0)])) rfl (by rw [hml]; rfl) (argsL := [(.int p0), (.int p1), (.int (M >>> ((1 : Int32) &&& 31)))]) (rest := []) (lenOf pd3 rfl) rfl (oW rfl) (hb hby dj52_94_6) (fun _ _ => ⟨rfl, e31, (oB rfl : 0 + 0 ≤ _), (oB rfl : 0 + 0 ≤ _)⟩)
  dsimp only [Pt.U, Pt.locs, Pt.cells, Pt.slots] at X34 l34 y34 z34 st34 hQ34
  subst l34 y34 z34
  obtain ⟨rfl, Nq34, e34⟩ := hQ34
  have N35 := Fr.app N32 Nq34
  have P36 : Rg p e below (T34.setTop (mkF m 9 #[sI p0, sI p1, sR v1] [(.int p0)])) B0 := fun t k => P33 t (by
    exact st34 _ k)
  obtain ⟨fs37, hr37, hrun37, hended37, hW37, hsame37⟩ := X34.leave (v := none) (fun _ => rfl)
  refine ⟨_, _, pre0 _ (P36 _ ?_), hrun37, hended37, _, _, rfl, ?_, ⟨⟨_, rfl⟩, hW37, hsame37.mono (oB rfl) (oB rfl)⟩⟩
  · show Sq p e below (T34.setTop (mkF m 9 #[sI p0, sI p1, sR v1] [(.int p0)])) _
    refine XS.pop X34.here hx rfl (hb hby dj52_94_9) rfl rfl ?_
    exact X34.returnOut hx Bd.returns (hb hby dj52_94_10) hr37
  · show Q_ubo  h0 n0 _ T34.heap _
    rw [e34]
    exact ⟨rfl, N35, rfl⟩
theorem dj41_11_0 : decode j41_11 0 = .ok (.iload_n 0, 1) := by decide +kernel
theorem dj41_11_1 : decode j41_11 1 = .ok (.ifCond .lt 8, 3) := by decide +kernel
theorem dj41_11_4 : decode j41_11 4 = .ok (.iload_n 0, 1) := by decide +kernel
theorem dj41_11_5 : decode j41_11 5 = .ok (.iload_n 1, 1) := by decide +kernel
theorem dj41_11_6 : decode j41_11 6 = .ok (.if_icmp .lt 10, 3) := by decide +kernel
theorem dj41_11_16 : decode j41_11 16 = .ok (.iload_n 0, 1) := by decide +kernel
theorem dj41_11_17 : decode j41_11 17 = .ok (.ireturn, 1) := by decide +kernel
theorem ef_cix (m : MethodId) (x0 : Int32) (x1 : Int32) (x2 : Value) (r2 : x2.isRef = true) : entryFrame m #[(.int x0), (.int x1), x2] 3 = mkF m 0 #[sI x0, sI x1, .val x2] [] := by rcases ref_cases r2 with rfl | ⟨_, rfl⟩ <;> (first | (simp [entryFrame, mkF, argsToLocals, Value.category]; done) | rfl)
def Q_cix (p0 : Int32) (h0 : Heap) (n0 : Nat) (v : Option Value) (h : Heap) (L : List Loc) : Prop := v = some (.int p0) ∧ Fr n0 L ∧ h = h0
theorem rm_cix (l : Launch) (Z : State) (a0 : Array Value) (hw : Tb a0 Z) (ws : List Jvm.Cond) (p0 p1 : Int32) (G2 : Value) (h0 : Heap) (n0 : Nat) (Z0 : n0 ≤ h0.size) (hG2 : G2.isRef = true) (q1 : ¬ p0 < (0 : Int32)) (q2 : p0 < p1) :
    MF l Z h0 y_6 j41_11 3 (some .int) ws (rM 0 0 0 0) #[(.int p0), (.int p1), G2] (Q_cix p0 h0 n0) := by
  refine MetFree.of_bodySF (plainFor_of_name pn_jdk_internal_util_Preconditions) hisR ?_
  intro p e s m args below meth c s₁ Bd hml hP hK
  obtain ⟨rfl, hZ, hh⟩ := hP
  have hx := Bd.exec
  have hby := Bd.bytes
  have hown : s.vm.findClass "jdk/internal/util/Preconditions" = some m.cls := findClass_of_methodNamed Bd.named
  have X0 : Stand p l e (rM 0 0 0 0) s m #[(.int p0), (.int p1), G2] below meth c s₁ [] 0 0 := Stand.of_body Bd
  have e0 : s₁.heap = h0 := by rw [← hh, Bd.state]; rfl
  have N0 := Fr.nil n0
  obtain ⟨B0, pre0, P0⟩ : ∃ B, Rg p e below B (s₁.setTop (entryFrame m #[(.int p0), (.int p1), G2] 3)) ∧ Rg p e below (s₁.setTop (mkF m 0 #[sI p0, sI p1, .val G2] [])) B := ⟨_, fun t k => castTop (ef_cix m p0 p1 G2 hG2) k, fun t k => k⟩
  obtain ⟨fs38, hr38, hrun38, hended38, hW38, hsame38⟩ := X0.leave (v := some (.int p0)) (fun h => by rw [Bd.returns] at h; cases h)
  refine ⟨_, _, pre0 _ (P0 _ ?_), hrun38, hended38, _, _, rfl, ?_, ⟨⟨_, rfl⟩, hW38, hsame38.mono (oB rfl) (oB rfl)⟩⟩
  · refine XS.iloadN X0.here hx rfl (hb hby dj41_11_0) rfl ?_
    show Sq p e below (s₁.setTop (mkF m 1 #[sI p0, sI p1, .val G2] [(.int p0)])) _
    refine XS.ifNo X0.here hx rfl (hb hby dj41_11_1) rfl ((if0 _ _).trans (flt (show ¬ (p0 < (0 : Int32)) from q1)).1) ?_
    refine XS.iloadN X0.here hx rfl (hb hby dj41_11_4) rfl ?_
    refine XS.iloadN X0.here hx rfl (hb hby dj41_11_5) rfl ?_
    refine XS.icmpYes X0.here hx rfl (pc0 := 6) (pc' := 16) rfl (hb hby dj41_11_6) rfl (tlt (show p0 < p1 from q2)).1 (by decide) (by decide) ?_
    refine XS.iloadN X0.here hx rfl (hb hby dj41_11_16) rfl ?_
    exact retI X0 hx Bd.returns (hb hby dj41_11_17) hr38
  · show Q_cix p0 h0 n0 _ s₁.heap _
    rw [e0]
    exact ⟨rfl, N0, rfl⟩
theorem dj42_155_0 : decode j42_155 0 = .ok (.iload_n 0, 1) := by decide +kernel
theorem dj42_155_1 : decode j42_155 1 = .ok (.iload_n 1, 1) := by decide +kernel
theorem dj42_155_2 : decode j42_155 2 = .ok (.getstatic 1053, 3) := by decide +kernel
theorem dj42_155_5 : decode j42_155 5 = .ok (.invokestatic 1059, 3) := by decide +kernel
theorem pd4 : parseMethodDescriptor "(IILjava/util/function/BiFunction;)I" = some ⟨[.int, .int, (.object "java/util/function/BiFunction")], some .int⟩ := by decide +kernel
theorem dj42_155_8 : decode j42_155 8 = .ok (.pop, 1) := by decide +kernel
theorem dj42_155_9 : decode j42_155 9 = .ok (.return_, 1) := by decide +kernel
theorem ef_six (m : MethodId) (x0 : Int32) (x1 : Int32) : entryFrame m #[(.int x0), (.int x1)] 2 = mkF m 0 #[sI x0, sI x1] [] := by (first | (simp [entryFrame, mkF, argsToLocals, Value.category]; done) | rfl)
def Q_six  (h0 : Heap) (n0 : Nat) (v : Option Value) (h : Heap) (L : List Loc) : Prop := v = none ∧ Fr n0 L ∧ h = h0
theorem rm_six (l : Launch) (Z : State) (a0 : Array Value) (hw : Tb a0 Z) (ws : List Jvm.Cond) (p0 p1 : Int32) (G1 : Int32) (G2 : Value) (h0 : Heap) (n0 : Nat) (Z0 : n0 ≤ h0.size) (q1 : ¬ p0 < (0 : Int32)) (q2 : p0 < p1) (Sg : oSg Z G1) (P5 : ¬ (G1 = (0 : Int32))) (Sf : oSf Z G2) (hG2 : G2.isRef = true) (Sa : oSa Z) (Sh : oSh Z) (Sl : oSl Z) (Ol : Old Z n0 h0) :
    MF l Z h0 y_7 j42_155 2 none ws (rM 1 0 0 14) #[(.int p0), (.int p1)] (Q_six  h0 n0) := by
  refine MetFree.of_bodySF (plainFor_of_name pn_java_lang_String) hisR ?_
  intro p e s m args below meth c s₁ Bd hml hP hK
  obtain ⟨rfl, hZ, hh⟩ := hP
  have hx := Bd.exec
  have hby := Bd.bytes
  have hown : s.vm.findClass "java/lang/String" = some m.cls := findClass_of_methodNamed Bd.named
  have X0 : Stand p l e (rM 1 0 0 14) s m #[(.int p0), (.int p1)] below meth c s₁ [] 0 0 := Stand.of_body Bd
  have e0 : s₁.heap = h0 := by rw [← hh, Bd.state]; rfl
  have N0 := Fr.nil n0
  obtain ⟨B0, pre0, P0⟩ : ∃ B, Rg p e below B (s₁.setTop (entryFrame m #[(.int p0), (.int p1)] 2)) ∧ Rg p e below (s₁.setTop (mkF m 0 #[sI p0, sI p1] [])) B := ⟨_, fun t k => castTop (ef_six m p0 p1) k, fun t k => k⟩
  obtain ⟨T39, X39, e39, st39⟩ := getS2 X0 hx hZ hown (host := "") (Or.inl (oH hw 192 rfl)) Via.refl e0 (Sf.ext Ol.2) (g := (mkF m 2 #[sI p0, sI p1] [(.int p1), (.int p0)])) rfl (hb hby dj42_155_2)
  have P40 : Rg p e below (T39.setTop (mkF m 5 #[sI p0, sI p1] [G2, (.int p1), (.int p0)])) B0 := fun t k => P0 t (by
    refine XS.iloadN X0.here hx rfl (hb hby dj42_155_0) rfl ?_
    refine XS.iloadN X0.here hx rfl (hb hby dj42_155_1) rfl ?_
    exact st39 _ k)
  obtain ⟨_, _, ⟨T41, L41, k41, n41⟩, -, X41, ⟨Lc41, hQ41, l41, y41, z41⟩, st41⟩ := Jvm.LawKit.callS X39 hx (y := y_6) hown (mvT hZ (oH hw 194 rfl)) (mvT hZ (oH hw 195 rfl)) (mvT hZ (oH hw 193 rfl)) (mvT hZ (oH hw 196 rfl)) (by decide) (backOf (W := 0) (rm_cix l Z a0 hw [] p0 p1 G2 h0 n0 Z0 hG2 q1 q2) hZ (oH hw 196 rfl) (oH hw 193 rfl) (by decide) (by decide)) (g := (mkF m 5 #[sI p0, sI p1] [G2, (.int p1), (.int p0)])) rfl (by rw [hml]; rfl) (argsL := [(.int p0), (.int p1), G2]) (rest := []) (lenOf pd4 rfl) rfl (oW rfl) (hb hby dj42_155_5) (fun _ _ => ⟨rfl, e39, (oB rfl : 0 + 0 ≤ _), (oB rfl : 0 + 0 ≤ _)⟩)
  dsimp only [Pt.U, Pt.locs, Pt.cells, Pt.slots] at X41 l41 y41 z41 st41 hQ41
  subst l41 y41 z41
  obtain ⟨rfl, Nq41, e41⟩ := hQ41
  have N42 := Fr.app N0 Nq41
  have P43 : Rg p e below (T41.setTop (mkF m 8 #[sI p0, sI p1] [(.int p0)])) B0 := fun t k => P40 t (by
    exact st41 _ k)
  obtain ⟨fs44, hr44, hrun44, hended44, hW44, hsame44⟩ := X41.leave (v := none) (fun _ => rfl)
  refine ⟨_, _, pre0 _ (P43 _ ?_), hrun44, hended44, _, _, rfl, ?_, ⟨⟨_, rfl⟩, hW44, hsame44.mono (oB rfl) (oB rfl)⟩⟩
  · show Sq p e below (T41.setTop (mkF m 8 #[sI p0, sI p1] [(.int p0)])) _
    refine XS.pop X41.here hx rfl (hb hby dj42_155_8) rfl rfl ?_
    exact X41.returnOut hx Bd.returns (hb hby dj42_155_9) hr44
  · show Q_six  h0 n0 _ T41.heap _
    rw [e41]
    exact ⟨rfl, N42, rfl⟩
theorem dj52_91_0 : decode j52_91 0 = .ok (.iload_n 0, 1) := by decide +kernel
theorem dj52_91_1 : decode j52_91 1 = .ok (.aload_n 1, 1) := by decide +kernel
theorem dj52_91_2 : decode j52_91 2 = .ok (.invokestatic 48, 3) := by decide +kernel
theorem dj52_91_5 : decode j52_91 5 = .ok (.invokestatic 414, 3) := by decide +kernel
theorem pd5 : parseMethodDescriptor "(II)V" = some ⟨[.int, .int], none⟩ := by decide +kernel
theorem dj52_91_8 : decode j52_91 8 = .ok (.return_, 1) := by decide +kernel
theorem ef_uix (m : MethodId) (x0 : Int32) (x1 : Addr) : entryFrame m #[(.int x0), (.ref x1)] 2 = mkF m 0 #[sI x0, sR x1] [] := by (first | (simp [entryFrame, mkF, argsToLocals, Value.category]; done) | rfl)
def Q_uix  (h0 : Heap) (n0 : Nat) (v : Option Value) (h : Heap) (L : List Loc) : Prop := v = none ∧ Fr n0 L ∧ h = h0
theorem rm_uix (l : Launch) (Z : State) (a0 : Array Value) (hw : Tb a0 Z) (ws : List Jvm.Cond) (p0 : Int32) (v1 : Addr) (kv : ClassId) (M : Int32) (vs : List Value) (G1 : Int32) (G2 : Value) (h0 : Heap) (n0 : Nat) (Z0 : n0 ≤ h0.size) (A1 : Arv Z h0 v1 kv .byte M vs (vI 0)) (q1 : ¬ p0 < (0 : Int32)) (q2 : p0 < (M >>> ((1 : Int32) &&& 31))) (Sg : oSg Z G1) (P5 : ¬ (G1 = (0 : Int32))) (Sf : oSf Z G2) (hG2 : G2.isRef = true) (Sa : oSa Z) (Sh : oSh Z) (Sl : oSl Z) (Ol : Old Z n0 h0) :
    MF l Z h0 y_8 j52_91 2 none ws (rM 2 0 0 27) #[(.int p0), (.ref v1)] (Q_uix  h0 n0) := by
  refine MetFree.of_bodySF (plainFor_of_name pn_java_lang_StringUTF16) hisR ?_
  intro p e s m args below meth c s₁ Bd hml hP hK
  obtain ⟨rfl, hZ, hh⟩ := hP
  have hx := Bd.exec
  have hby := Bd.bytes
  have hown : s.vm.findClass "java/lang/StringUTF16" = some m.cls := findClass_of_methodNamed Bd.named
  have X0 : Stand p l e (rM 2 0 0 27) s m #[(.int p0), (.ref v1)] below meth c s₁ [] 0 0 := Stand.of_body Bd
  have e0 : s₁.heap = h0 := by rw [← hh, Bd.state]; rfl
  have N0 := Fr.nil n0
  obtain ⟨B0, pre0, P0⟩ : ∃ B, Rg p e below B (s₁.setTop (entryFrame m #[(.int p0), (.ref v1)] 2)) ∧ Rg p e below (s₁.setTop (mkF m 0 #[sI p0, sR v1] [])) B := ⟨_, fun t k => castTop (ef_uix m p0 v1) k, fun t k => k⟩
  obtain ⟨_, _, ⟨T45, L45, k45, n45⟩, -, X45, ⟨Lc45, hQ45, l45, y45, z45⟩, st45⟩ := Jvm.LawKit.callS X0 hx (y := y_2) hown (mvT hZ (oH hw 244 rfl)) (mvT hZ (oH hw 245 rfl)) (mvT hZ (oH hw 23 rfl)) (mvT hZ (oH hw 246 rfl)) (by decide) (backOf (W := 1) (rm_uln l Z a0 hw [] v1 kv M vs h0 n0 Z0 A1) hZ (oH hw 246 rfl) (oH hw 23 rfl) (by decide) (by decide)) (g := (mkF m 2 #[sI p0, sR v1] [(.ref v1), (.int p0)])) rfl (by rw [hml]; rfl) (argsL := [(.ref v1)]) (rest := [(.int p0)]) (lenOf pd2 rfl) rfl (oW rfl) (hb hby dj52_91_2) (fun _ _ => ⟨rfl, e0, (oB rfl : 0 + 0 ≤ _), (oB rfl : 0 + 0 ≤ _)⟩)
  dsimp only [Pt.U, Pt.locs, Pt.cells, Pt.slots] at X45 l45 y45 z45 st45 hQ45
  subst l45 y45 z45
  obtain ⟨rfl, Nq45, e45⟩ := hQ45
  have N46 := Fr.app N0 Nq45
  have P47 : Rg p e below (T45.setTop (mkF m 5 #[sI p0, sR v1] [(.int (M >>> ((1 : Int32) &&& 31))), (.int p0)])) B0 := fun t k => P0 t (by
    refine XS.iloadN X0.here hx rfl (hb hby dj52_91_0) rfl ?_
    refine XS.aloadN X0.here hx rfl (hb hby dj52_91_1) rfl rfl ?_
    exact st45 _ k)
  obtain ⟨_, _, ⟨T48, L48, k48, n48⟩, -, X48, ⟨Lc48, hQ48, l48, y48, z48⟩, st48⟩ := Jvm.LawKit.callS X45 hx (y := y_7) hown (mvT hZ (oH hw 262 rfl)) (mvT hZ (oH hw 190 rfl)) (mvT hZ (oH hw 8 rfl)) (mvT hZ (oH hw 191 rfl)) (by decide) (backOf (W := 0) (rm_six l Z a0 hw [] p0 (M >>> ((1 : Int32) &&& 31)) G1 G2 h0 n0 Z0 q1 q2 Sg P5 Sf hG2 Sa Sh Sl Ol) hZ (oH hw 191 rfl) (oH hw 8 rfl) (by decide) (by decide)) (g := (mkF m 5 #[sI p0, sR v1] [(.int (M >>> ((1 : Int32) &&& 31))), (.int p0)])) rfl (by rw [hml]; rfl) (argsL := [(.int p0), (.int (M >>> ((1 : Int32) &&& 31)))]) (rest := []) (lenOf pd5 rfl) rfl (oW rfl) (hb hby dj52_91_5) (fun _ _ => ⟨rfl, e45, (oB rfl : 0 + 0 ≤ _), (oB rfl : 0 + 0 ≤ _)⟩)
  dsimp only [Pt.U, Pt.locs, Pt.cells, Pt.slots] at X48 l48 y48 z48 st48 hQ48
  subst l48 y48 z48
  obtain ⟨rfl, Nq48, e48⟩ := hQ48
  have N49 := Fr.app N46 Nq48
  have P50 : Rg p e below (T48.setTop (mkF m 8 #[sI p0, sR v1] [])) B0 := fun t k => P47 t (by
    exact st48 _ k)
  obtain ⟨fs51, hr51, hrun51, hended51, hW51, hsame51⟩ := X48.leave (v := none) (fun _ => rfl)
  refine ⟨_, _, pre0 _ (P50 _ ?_), hrun51, hended51, _, _, rfl, ?_, ⟨⟨_, rfl⟩, hW51, hsame51.mono (oB rfl) (oB rfl)⟩⟩
  · exact X48.returnOut hx Bd.returns (hb hby dj52_91_8) hr51
  · show Q_uix  h0 n0 _ T48.heap _
    rw [e48]
    exact ⟨rfl, N49, rfl⟩
theorem dj52_3_0 : decode j52_3 0 = .ok (.iload_n 0, 1) := by decide +kernel
theorem dj52_3_1 : decode j52_3 1 = .ok (.ifCond .ge 11, 3) := by decide +kernel
theorem dj52_3_12 : decode j52_3 12 = .ok (.iload_n 0, 1) := by decide +kernel
theorem dj52_3_13 : decode j52_3 13 = .ok (.ldc 20, 2) := by decide +kernel
theorem dj52_3_15 : decode j52_3 15 = .ok (.if_icmp .lt 40, 3) := by decide +kernel
theorem dj52_3_55 : decode j52_3 55 = .ok (.iload_n 0, 1) := by decide +kernel
theorem dj52_3_56 : decode j52_3 56 = .ok (.iconst 1, 1) := by decide +kernel
theorem dj52_3_57 : decode j52_3 57 = .ok (.ishl, 1) := by decide +kernel
theorem dj52_3_58 : decode j52_3 58 = .ok (.ireturn, 1) := by decide +kernel
theorem ef_nbl16 (m : MethodId) (x0 : Int32) : entryFrame m #[(.int x0)] 1 = mkF m 0 #[sI x0] [] := by (first | (simp [entryFrame, mkF, argsToLocals, Value.category]; done) | rfl)
def Q_nbl16  (h0 : Heap) (n0 : Nat) (v : Option Value) (h : Heap) (L : List Loc) : Prop := v = some (vI 32) ∧ Fr n0 L ∧ h = h0
theorem rm_nbl16 (l : Launch) (Z : State) (a0 : Array Value) (hw : Tb a0 Z) (ws : List Jvm.Cond)  (h0 : Heap) (n0 : Nat) (Z0 : n0 ≤ h0.size)  :
    MF l Z h0 y_9 j52_3 1 (some .int) ws (rM 0 0 0 0) #[(vI 16)] (Q_nbl16  h0 n0) := by
  refine MetFree.of_bodySF (plainFor_of_name pn_java_lang_StringUTF16) hisR ?_
  intro p e s m args below meth c s₁ Bd hml hP hK
  obtain ⟨rfl, hZ, hh⟩ := hP
  have hx := Bd.exec
  have hby := Bd.bytes
  have hown : s.vm.findClass "java/lang/StringUTF16" = some m.cls := findClass_of_methodNamed Bd.named
  have X0 : Stand p l e (rM 0 0 0 0) s m #[(vI 16)] below meth c s₁ [] 0 0 := Stand.of_body Bd
  have e0 : s₁.heap = h0 := by rw [← hh, Bd.state]; rfl
  have N0 := Fr.nil n0
  obtain ⟨B0, pre0, P0⟩ : ∃ B, Rg p e below B (s₁.setTop (entryFrame m #[(vI 16)] 1)) ∧ Rg p e below (s₁.setTop (mkF m 0 #[sI 16] [])) B := ⟨_, fun t k => castTop (ef_nbl16 m (16 : Int32)) k, fun t k => k⟩
  obtain ⟨fs52, hr52, hrun52, hended52, hW52, hsame52⟩ := X0.leave (v := some (vI 32)) (fun h => by rw [Bd.returns] at h; cases h)
  refine ⟨_, _, pre0 _ (P0 _ ?_), hrun52, hended52, _, _, rfl, ?_, ⟨⟨_, rfl⟩, hW52, hsame52.mono (oB rfl) (oB rfl)⟩⟩
  · refine XS.iloadN X0.here hx rfl (hb hby dj52_3_0) rfl ?_
    show Sq p e below (s₁.setTop (mkF m 1 #[sI 16] [(vI 16)])) _
    refine XS.ifYes X0.here hx rfl (pc0 := 1) (pc' := 12) rfl (hb hby dj52_3_1) rfl ((if0 _ _).trans (flt (show ¬ ((16 : Int32) < (0 : Int32)) from (by decide))).2.1) (by decide) (by decide) ?_
    refine XS.iloadN X0.here hx rfl (hb hby dj52_3_12) rfl ?_
    show Sq p e below (s₁.setTop (mkF m 13 #[sI 16] [(vI 16)])) _
    refine X0.ldcInt hx hown (mvT hZ (oH hw 234 rfl)) (g := (mkF m 13 #[sI 16] [(vI 16)])) rfl (hb hby dj52_3_13) _ ?_
    show Sq p e below (s₁.setTop (mkF m 15 #[sI 16] [(vI 1073741823), (vI 16)])) _
    refine XS.icmpYes X0.here hx rfl (pc0 := 15) (pc' := 55) rfl (hb hby dj52_3_15) rfl (tlt (show (16 : Int32) < (1073741823 : Int32) from (by decide))).1 (by decide) (by decide) ?_
    refine XS.iloadN X0.here hx rfl (hb hby dj52_3_55) rfl ?_
    refine XS.iconst X0.here hx rfl (hb hby dj52_3_56) ?_
    refine XS.ishl X0.here hx rfl (hb hby dj52_3_57) rfl ?_
    exact retI X0 hx Bd.returns (hb hby dj52_3_58) hr52
  · show Q_nbl16  h0 n0 _ s₁.heap _
    rw [e0]
    exact ⟨rfl, N0, rfl⟩
theorem dj52_2_0 : decode j52_2 0 = .ok (.iload_n 0, 1) := by decide +kernel
theorem dj52_2_1 : decode j52_2 1 = .ok (.invokestatic 11, 3) := by decide +kernel
theorem pd6 : parseMethodDescriptor "(I)I" = some ⟨[.int], some .int⟩ := by decide +kernel
theorem dj52_2_4 : decode j52_2 4 = .ok (.newarray .byte, 2) := by decide +kernel
theorem dj52_2_6 : decode j52_2 6 = .ok (.areturn, 1) := by decide +kernel
theorem ef_nbf16 (m : MethodId) (x0 : Int32) : entryFrame m #[(.int x0)] 1 = mkF m 0 #[sI x0] [] := by (first | (simp [entryFrame, mkF, argsToLocals, Value.category]; done) | rfl)
def Q_nbf16 (Z : State) (h0 : Heap) (n0 : Nat) (v : Option Value) (h : Heap) (L : List Loc) : Prop := ∃ (t : Addr) (k : ClassId), v = some (.ref t) ∧ Fr n0 L ∧ Keep h0 h [] ∧ Arv Z h t k .byte (32 : Int32) (([] : List Int32).map Value.int) (vI 0) ∧ Exa Z h t "[B" ∧ h0.size ≤ t
theorem rm_nbf16 (l : Launch) (Z : State) (a0 : Array Value) (hw : Tb a0 Z) (ws : List Jvm.Cond)  (h0 : Heap) (n0 : Nat) (Z0 : n0 ≤ h0.size)  :
    MF l Z h0 y_10 j52_2 1 (some (.array .byte)) ws (rM 1 1 32 12) #[(vI 16)] (Q_nbf16 Z h0 n0) := by
  refine MetFree.of_bodySF (plainFor_of_name pn_java_lang_StringUTF16) hisR ?_
  intro p e s m args below meth c s₁ Bd hml hP hK
  obtain ⟨rfl, hZ, hh⟩ := hP
  have hx := Bd.exec
  have hby := Bd.bytes
  have hown : s.vm.findClass "java/lang/StringUTF16" = some m.cls := findClass_of_methodNamed Bd.named
  have X0 : Stand p l e (rM 1 1 32 12) s m #[(vI 16)] below meth c s₁ [] 0 0 := Stand.of_body Bd
  have e0 : s₁.heap = h0 := by rw [← hh, Bd.state]; rfl
  have N0 := Fr.nil n0
  obtain ⟨B0, pre0, P0⟩ : ∃ B, Rg p e below B (s₁.setTop (entryFrame m #[(vI 16)] 1)) ∧ Rg p e below (s₁.setTop (mkF m 0 #[sI 16] [])) B := ⟨_, fun t k => castTop (ef_nbf16 m (16 : Int32)) k, fun t k => k⟩
  obtain ⟨_, _, ⟨T53, L53, k53, n53⟩, -, X53, ⟨Lc53, hQ53, l53, y53, z53⟩, st53⟩ := Jvm.LawKit.callS X0 hx (y := y_9) hown (mvT hZ (oH hw 231 rfl)) (mvT hZ (oH hw 232 rfl)) (mvT hZ (oH hw 23 rfl)) (mvT hZ (oH hw 233 rfl)) (by decide) (backOf (W := 0) (rm_nbl16 l Z a0 hw []  h0 n0 Z0 ) hZ (oH hw 233 rfl) (oH hw 23 rfl) (by decide) (by decide)) (g := (mkF m 1 #[sI 16] [(vI 16)])) rfl (by rw [hml]; rfl) (argsL := [(vI 16)]) (rest := []) (lenOf pd6 rfl) rfl (oW rfl) (hb hby dj52_2_1) (fun _ _ => ⟨rfl, e0, (oB rfl : 0 + 0 ≤ _), (oB rfl : 0 + 0 ≤ _)⟩)
  dsimp only [Pt.U, Pt.locs, Pt.cells, Pt.slots] at X53 l53 y53 z53 st53 hQ53
  subst l53 y53 z53
  obtain ⟨rfl, Nq53, e53⟩ := hQ53
  have N54 := Fr.app N0 Nq53
  have P55 : Rg p e below (T53.setTop (mkF m 4 #[sI 16] [(vI 32)])) B0 := fun t k => P0 t (by
    refine XS.iloadN X0.here hx rfl (hb hby dj52_2_0) rfl ?_
    exact st53 _ k)
  obtain ⟨T56, h56, k56, X56, e56, E56, A56, B56, st56⟩ := newPE X53 hx hZ (oH hw 25 rfl) e53 (g := (mkF m 4 #[sI 16] [(vI 32)])) rfl (hb hby dj52_2_4) rfl (by decide) (cap := 32) (by decide) (by decide) (by decide) (by decide) (ad := "[B") (by decide)
  obtain ⟨b56, g56⟩ : ∃ z, z = h0.size := ⟨_, rfl⟩
  rw [← g56] at A56 B56 st56
  have g_b56 : n0 ≤ b56 := Nat.le_trans Z0 (Nat.le_of_eq g56.symm)
  have sz_b56 : h0.size ≤ b56 := Nat.le_trans (Keep.refl h0 []).1 (Nat.le_of_eq g56.symm)
  have P57 : Rg p e below (T56.setTop (mkF m 6 #[sI 16] [(.ref b56)])) B0 := fun t k => P55 t (by
    exact st56 _ k)
  have Z58 : n0 ≤ h56.size := Nat.le_trans Z0 E56.1
  have K59 : Keep h0 h56 [] := (Keep.refl h0 []).ext E56
  have v60 : Arv Z h56 b56 k56 .byte (32 : Int32) [(vI 0), (vI 0), (vI 0), (vI 0), (vI 0), (vI 0), (vI 0), (vI 0), (vI 0), (vI 0), (vI 0), (vI 0), (vI 0), (vI 0), (vI 0), (vI 0), (vI 0), (vI 0), (vI 0), (vI 0), (vI 0), (vI 0), (vI 0), (vI 0), (vI 0), (vI 0), (vI 0), (vI 0), (vI 0), (vI 0), (vI 0), (vI 0)] (vI 0) := (Arv.new A56 (by decide)).pad (pad_rep [] (vI 0) 32)
  have A9 : Arv Z h56 b56 k56 .byte (32 : Int32) (([] : List Int32).map Value.int) (vI 0) := v60.pad (fun i => (pad_rep [] (vI 0) 32 i).symm)
  obtain ⟨fs61, hr61, hrun61, hended61, hW61, hsame61⟩ := X56.leave (v := some (.ref b56)) (fun h => by rw [Bd.returns] at h; cases h)
  refine ⟨_, _, pre0 _ (P57 _ ?_), hrun61, hended61, _, _, rfl, ?_, ⟨⟨_, rfl⟩, hW61, hsame61.mono (oB rfl) (oB rfl)⟩⟩
  · exact retOut X56 hx Bd.returns rfl (Or.inr (Or.inr (Or.inr (Or.inr ⟨rfl, rfl, rfl⟩)))) (hb hby dj52_2_6) hr61
  · show Q_nbf16 Z h0 n0 _ T56.heap _
    rw [e56]
    exact ⟨b56, _, rfl, N54, K59, A9, B56, sz_b56⟩
theorem ef_nbl2 (m : MethodId) (x0 : Int32) : entryFrame m #[(.int x0)] 1 = mkF m 0 #[sI x0] [] := by (first | (simp [entryFrame, mkF, argsToLocals, Value.category]; done) | rfl)
def Q_nbl2  (h0 : Heap) (n0 : Nat) (v : Option Value) (h : Heap) (L : List Loc) : Prop := v = some (vI 4) ∧ Fr n0 L ∧ h = h0
theorem rm_nbl2 (l : Launch) (Z : State) (a0 : Array Value) (hw : Tb a0 Z) (ws : List Jvm.Cond)  (h0 : Heap) (n0 : Nat) (Z0 : n0 ≤ h0.size)  :
    MF l Z h0 y_9 j52_3 1 (some .int) ws (rM 0 0 0 0) #[(vI 2)] (Q_nbl2  h0 n0) := by
  refine MetFree.of_bodySF (plainFor_of_name pn_java_lang_StringUTF16) hisR ?_
  intro p e s m args below meth c s₁ Bd hml hP hK
  obtain ⟨rfl, hZ, hh⟩ := hP
  have hx := Bd.exec
  have hby := Bd.bytes
  have hown : s.vm.findClass "java/lang/StringUTF16" = some m.cls := findClass_of_methodNamed Bd.named
  have X0 : Stand p l e (rM 0 0 0 0) s m #[(vI 2)] below meth c s₁ [] 0 0 := Stand.of_body Bd
  have e0 : s₁.heap = h0 := by rw [← hh, Bd.state]; rfl
  have N0 := Fr.nil n0
  obtain ⟨B0, pre0, P0⟩ : ∃ B, Rg p e below B (s₁.setTop (entryFrame m #[(vI 2)] 1)) ∧ Rg p e below (s₁.setTop (mkF m 0 #[sI 2] [])) B := ⟨_, fun t k => castTop (ef_nbl2 m (2 : Int32)) k, fun t k => k⟩
  obtain ⟨fs62, hr62, hrun62, hended62, hW62, hsame62⟩ := X0.leave (v := some (vI 4)) (fun h => by rw [Bd.returns] at h; cases h)
  refine ⟨_, _, pre0 _ (P0 _ ?_), hrun62, hended62, _, _, rfl, ?_, ⟨⟨_, rfl⟩, hW62, hsame62.mono (oB rfl) (oB rfl)⟩⟩
  · refine XS.iloadN X0.here hx rfl (hb hby dj52_3_0) rfl ?_
    show Sq p e below (s₁.setTop (mkF m 1 #[sI 2] [(vI 2)])) _
    refine XS.ifYes X0.here hx rfl (pc0 := 1) (pc' := 12) rfl (hb hby dj52_3_1) rfl ((if0 _ _).trans (flt (show ¬ ((2 : Int32) < (0 : Int32)) from (by decide))).2.1) (by decide) (by decide) ?_
    refine XS.iloadN X0.here hx rfl (hb hby dj52_3_12) rfl ?_
    show Sq p e below (s₁.setTop (mkF m 13 #[sI 2] [(vI 2)])) _
    refine X0.ldcInt hx hown (mvT hZ (oH hw 234 rfl)) (g := (mkF m 13 #[sI 2] [(vI 2)])) rfl (hb hby dj52_3_13) _ ?_
    show Sq p e below (s₁.setTop (mkF m 15 #[sI 2] [(vI 1073741823), (vI 2)])) _
    refine XS.icmpYes X0.here hx rfl (pc0 := 15) (pc' := 55) rfl (hb hby dj52_3_15) rfl (tlt (show (2 : Int32) < (1073741823 : Int32) from (by decide))).1 (by decide) (by decide) ?_
    refine XS.iloadN X0.here hx rfl (hb hby dj52_3_55) rfl ?_
    refine XS.iconst X0.here hx rfl (hb hby dj52_3_56) ?_
    refine XS.ishl X0.here hx rfl (hb hby dj52_3_57) rfl ?_
    exact retI X0 hx Bd.returns (hb hby dj52_3_58) hr62
  · show Q_nbl2  h0 n0 _ s₁.heap _
    rw [e0]
    exact ⟨rfl, N0, rfl⟩
theorem ef_nbf2 (m : MethodId) (x0 : Int32) : entryFrame m #[(.int x0)] 1 = mkF m 0 #[sI x0] [] := by (first | (simp [entryFrame, mkF, argsToLocals, Value.category]; done) | rfl)
def Q_nbf2 (Z : State) (h0 : Heap) (n0 : Nat) (v : Option Value) (h : Heap) (L : List Loc) : Prop := ∃ (t : Addr) (k : ClassId), v = some (.ref t) ∧ Fr n0 L ∧ Keep h0 h [] ∧ Arv Z h t k .byte (4 : Int32) (([] : List Int32).map Value.int) (vI 0) ∧ Exa Z h t "[B" ∧ h0.size ≤ t
theorem rm_nbf2 (l : Launch) (Z : State) (a0 : Array Value) (hw : Tb a0 Z) (ws : List Jvm.Cond)  (h0 : Heap) (n0 : Nat) (Z0 : n0 ≤ h0.size)  :
    MF l Z h0 y_10 j52_2 1 (some (.array .byte)) ws (rM 1 1 4 12) #[(vI 2)] (Q_nbf2 Z h0 n0) := by
  refine MetFree.of_bodySF (plainFor_of_name pn_java_lang_StringUTF16) hisR ?_
  intro p e s m args below meth c s₁ Bd hml hP hK
  obtain ⟨rfl, hZ, hh⟩ := hP
  have hx := Bd.exec
  have hby := Bd.bytes
  have hown : s.vm.findClass "java/lang/StringUTF16" = some m.cls := findClass_of_methodNamed Bd.named
  have X0 : Stand p l e (rM 1 1 4 12) s m #[(vI 2)] below meth c s₁ [] 0 0 := Stand.of_body Bd
  have e0 : s₁.heap = h0 := by rw [← hh, Bd.state]; rfl
  have N0 := Fr.nil n0
  obtain ⟨B0, pre0, P0⟩ : ∃ B, Rg p e below B (s₁.setTop (entryFrame m #[(vI 2)] 1)) ∧ Rg p e below (s₁.setTop (mkF m 0 #[sI 2] [])) B := ⟨_, fun t k => castTop (ef_nbf2 m (2 : Int32)) k, fun t k => k⟩
  obtain ⟨_, _, ⟨T63, L63, k63, n63⟩, -, X63, ⟨Lc63, hQ63, l63, y63, z63⟩, st63⟩ := Jvm.LawKit.callS X0 hx (y := y_9) hown (mvT hZ (oH hw 231 rfl)) (mvT hZ (oH hw 232 rfl)) (mvT hZ (oH hw 23 rfl)) (mvT hZ (oH hw 233 rfl)) (by decide) (backOf (W := 0) (rm_nbl2 l Z a0 hw []  h0 n0 Z0 ) hZ (oH hw 233 rfl) (oH hw 23 rfl) (by decide) (by decide)) (g := (mkF m 1 #[sI 2] [(vI 2)])) rfl (by rw [hml]; rfl) (argsL := [(vI 2)]) (rest := []) (lenOf pd6 rfl) rfl (oW rfl) (hb hby dj52_2_1) (fun _ _ => ⟨rfl, e0, (oB rfl : 0 + 0 ≤ _), (oB rfl : 0 + 0 ≤ _)⟩)
  dsimp only [Pt.U, Pt.locs, Pt.cells, Pt.slots] at X63 l63 y63 z63 st63 hQ63
  subst l63 y63 z63
  obtain ⟨rfl, Nq63, e63⟩ := hQ63
  have N64 := Fr.app N0 Nq63
  have P65 : Rg p e below (T63.setTop (mkF m 4 #[sI 2] [(vI 4)])) B0 := fun t k => P0 t (by
    refine XS.iloadN X0.here hx rfl (hb hby dj52_2_0) rfl ?_
    exact st63 _ k)
  obtain ⟨T66, h66, k66, X66, e66, E66, A66, B66, st66⟩ := newPE X63 hx hZ (oH hw 25 rfl) e63 (g := (mkF m 4 #[sI 2] [(vI 4)])) rfl (hb hby dj52_2_4) rfl (by decide) (cap := 4) (by decide) (by decide) (by decide) (by decide) (ad := "[B") (by decide)
  obtain ⟨b66, g66⟩ : ∃ z, z = h0.size := ⟨_, rfl⟩
  rw [← g66] at A66 B66 st66
  have g_b66 : n0 ≤ b66 := Nat.le_trans Z0 (Nat.le_of_eq g66.symm)
  have sz_b66 : h0.size ≤ b66 := Nat.le_trans (Keep.refl h0 []).1 (Nat.le_of_eq g66.symm)
  have P67 : Rg p e below (T66.setTop (mkF m 6 #[sI 2] [(.ref b66)])) B0 := fun t k => P65 t (by
    exact st66 _ k)
  have Z68 : n0 ≤ h66.size := Nat.le_trans Z0 E66.1
  have K69 : Keep h0 h66 [] := (Keep.refl h0 []).ext E66
  have v70 : Arv Z h66 b66 k66 .byte (4 : Int32) [(vI 0), (vI 0), (vI 0), (vI 0)] (vI 0) := (Arv.new A66 (by decide)).pad (pad_rep [] (vI 0) 4)
  have A9 : Arv Z h66 b66 k66 .byte (4 : Int32) (([] : List Int32).map Value.int) (vI 0) := v70.pad (fun i => (pad_rep [] (vI 0) 4 i).symm)
  obtain ⟨fs71, hr71, hrun71, hended71, hW71, hsame71⟩ := X66.leave (v := some (.ref b66)) (fun h => by rw [Bd.returns] at h; cases h)
  refine ⟨_, _, pre0 _ (P67 _ ?_), hrun71, hended71, _, _, rfl, ?_, ⟨⟨_, rfl⟩, hW71, hsame71.mono (oB rfl) (oB rfl)⟩⟩
  · exact retOut X66 hx Bd.returns rfl (Or.inr (Or.inr (Or.inr (Or.inr ⟨rfl, rfl, rfl⟩)))) (hb hby dj52_2_6) hr71
  · show Q_nbf2 Z h0 n0 _ T66.heap _
    rw [e66]
    exact ⟨b66, _, rfl, N64, K69, A9, B66, sz_b66⟩
theorem dj52_86_10 : decode j52_86 10 = .ok (.iload 5, 2) := by decide +kernel
theorem dj52_86_12 : decode j52_86 12 = .ok (.iload 4, 2) := by decide +kernel
theorem dj52_86_14 : decode j52_86 14 = .ok (.if_icmp .ge 27, 3) := by decide +kernel
theorem dj52_86_17 : decode j52_86 17 = .ok (.aload_n 2, 1) := by decide +kernel
theorem dj52_86_18 : decode j52_86 18 = .ok (.iload_n 3, 1) := by decide +kernel
theorem dj52_86_19 : decode j52_86 19 = .ok (.iinc 3 1, 3) := by decide +kernel
theorem dj52_86_22 : decode j52_86 22 = .ok (.aload_n 0, 1) := by decide +kernel
theorem dj52_86_23 : decode j52_86 23 = .ok (.iload_n 1, 1) := by decide +kernel
theorem dj52_86_24 : decode j52_86 24 = .ok (.iinc 1 1, 3) := by decide +kernel
theorem dj52_86_27 : decode j52_86 27 = .ok (.baload, 1) := by decide +kernel
theorem dj52_86_28 : decode j52_86 28 = .ok (.sipush 255, 3) := by decide +kernel
theorem dj52_86_31 : decode j52_86 31 = .ok (.iand, 1) := by decide +kernel
theorem dj52_86_32 : decode j52_86 32 = .ok (.invokestatic 111, 3) := by decide +kernel
theorem pd7 : parseMethodDescriptor "([BII)V" = some ⟨[(.array .byte), .int, .int], none⟩ := by decide +kernel
theorem dj52_86_35 : decode j52_86 35 = .ok (.iinc 5 1, 3) := by decide +kernel
theorem dj52_86_38 : decode j52_86 38 = .ok (.goto (-28), 3) := by decide +kernel
theorem pc_ift {p : Program} {l : Launch} {e : Env} {R : Room} {s : State} {m : MethodId} {args : Array Value} {below : List Frame} {meth : Method} {c : Code} {T0 : State} {locs : List Loc} {cells slots : Nat} {Z : State} {a0 : Array Value} {h0 : Heap} {n0 : Nat} (src dst : Addr) (ks kd : ClassId) (NS so ln iv : Int32) (dm : Nat) (cc : Int32) (vs : List Value) (out : List Int32) (G1 : Int32) (G2 : Value) (X0 : Stand p l e R s m args below meth c T0 locs cells slots) (hx : p.tables.exec = Jvm.exec) (hZ : Z.Warmed39 s.vm) (hw : Tb a0 Z) (hby : c.code = j52_86) (hml : c.maxLocals = 6) (hown : s.vm.findClass "java/lang/StringUTF16" = some m.cls) (e0 : T0.heap = h0) (N0 : Fr n0 locs) (Z0 : n0 ≤ h0.size) (hcc : cells + 0 ≤ R.cells) (hcs : slots + 0 ≤ R.slots) (hfr : 1 ≤ R.frames) (hlo : 14 ≤ R.locals) (g_dst : n0 ≤ dst) (AS : Arv Z h0 src ks .byte NS vs (vI 0)) (hs : ¬ so < 0 ∧ so < NS) (es : vs.getD so.toNatClampNeg (vI 0) = .int (cc.toInt8.toInt32)) (hcc : ¬ cc < 0 ∧ ¬ (255 : Int32) < cc) (AD : Arv Z h0 dst kd .byte (32 : Int32) (out.map Value.int) (vI 0)) (hm : dm < 16) (ho : out.length = 2 * dm) (hlt : iv < ln) (nSD : src ≠ dst) (Sg : oSg Z G1) (P5 : ¬ (G1 = (0 : Int32))) (Sf : oSf Z G2) (hG2 : G2.isRef = true) (Sa : oSa Z) (Sh : oSh Z) (Sl : oSl Z) (Ol : Old Z n0 h0) :
    ∃ (T' : State) (h' : Heap) (locs' : List Loc), Stand p l e R s m args below meth c T' locs' (cells + 0) (slots + 0) ∧ T'.heap = h' ∧ Fr n0 locs' ∧ Keep h0 h' [dst] ∧ Arv Z h' dst kd .byte (32 : Int32) ((out ++ [cc.toInt8.toInt32, (cc >>> (8 : Int32)).toInt8.toInt32]).map Value.int) (vI 0) ∧ ∀ t, Sq p e below (T'.setTop (mkF m 10 #[sR src, .val (.int (so + (1 : Int32))), sR dst, .val (.int (Int32.ofNat (dm + 1))), sI ln, .val (.int (iv + (1 : Int32)))] [])) t → Sq p e below (T0.setTop (mkF m 10 #[sR src, sI so, sR dst, .val (.int (Int32.ofNat dm)), sI ln, sI iv] [])) t := by
  have P0 : ∀ t, Sq p e below (T0.setTop (mkF m 10 #[sR src, sI so, sR dst, .val (.int (Int32.ofNat dm)), sI ln, sI iv] [])) t → Sq p e below (T0.setTop (mkF m 10 #[sR src, sI so, sR dst, .val (.int (Int32.ofNat dm)), sI ln, sI iv] [])) t := fun t k => k
  obtain ⟨cl72, Ar72, -, S72, N72, H72, -⟩ := id AS
  have hin72 : ¬ (so < 0 ∨ cl72.slots.size ≤ (so).toNatClampNeg) := inb_of S72 hs
  obtain ⟨d1, d2, d3, d4⟩ := own_dp hm ho
  have hq9 : cc = ((cc.toInt8.toInt32) &&& (255 : Int32)) := (own_b255 hcc).symm
  have P73 : ∀ t, Sq p e below (T0.setTop (mkF m 32 #[sR src, .val (.int (so + (1 : Int32))), sR dst, .val (.int ((Int32.ofNat dm) + (1 : Int32))), sI ln, sI iv] [(.int ((cc.toInt8.toInt32) &&& (255 : Int32))), (.int (Int32.ofNat dm)), (.ref dst)])) t → Sq p e below (T0.setTop (mkF m 10 #[sR src, sI so, sR dst, .val (.int (Int32.ofNat dm)), sI ln, sI iv] [])) t := fun t k => P0 t (by
    refine XS.iload X0.here hx rfl (hb hby dj52_86_10) rfl ?_
    refine XS.iload X0.here hx rfl (hb hby dj52_86_12) rfl ?_
    refine XS.icmpNo X0.here hx rfl (hb hby dj52_86_14) rfl (tlt (show iv < ln from hlt)).2.1 ?_
    refine XS.aloadN X0.here hx rfl (hb hby dj52_86_17) rfl rfl ?_
    refine XS.iloadN X0.here hx rfl (hb hby dj52_86_18) rfl ?_
    refine XS.iinc X0.here hx rfl (hb hby dj52_86_19) rfl (l' := #[sR src, sI so, sR dst, .val (.int ((Int32.ofNat dm) + (1 : Int32))), sI ln, sI iv]) rfl ?_
    refine XS.aloadN X0.here hx rfl (hb hby dj52_86_22) rfl rfl ?_
    refine XS.iloadN X0.here hx rfl (hb hby dj52_86_23) rfl ?_
    refine XS.iinc X0.here hx rfl (hb hby dj52_86_24) rfl (l' := #[sR src, .val (.int (so + (1 : Int32))), sR dst, .val (.int ((Int32.ofNat dm) + (1 : Int32))), sI ln, sI iv]) rfl ?_
    show Sq p e below (T0.setTop (mkF m 27 #[sR src, .val (.int (so + (1 : Int32))), sR dst, .val (.int ((Int32.ofNat dm) + (1 : Int32))), sI ln, sI iv] [(.int so), (.ref src), (.int (Int32.ofNat dm)), (.ref dst)])) _
    refine X0.baloadBytes hx (j := so) (v := (.int (cc.toInt8.toInt32))) (by rw [e0]; exact Ar72.1) (State.isArrayOf_alike hZ.alike Ar72.2.1) Ar72.2.2 hin72 (H72.at hin72 es) (g := (mkF m 27 #[sR src, .val (.int (so + (1 : Int32))), sR dst, .val (.int ((Int32.ofNat dm) + (1 : Int32))), sI ln, sI iv] [(.int so), (.ref src), (.int (Int32.ofNat dm)), (.ref dst)])) rfl rfl (hb hby dj52_86_27) _ ?_
    show Sq p e below (T0.setTop (mkF m 28 #[sR src, .val (.int (so + (1 : Int32))), sR dst, .val (.int ((Int32.ofNat dm) + (1 : Int32))), sI ln, sI iv] [(.int (cc.toInt8.toInt32)), (.int (Int32.ofNat dm)), (.ref dst)])) _
    refine XS.sipush X0.here hx rfl (hb hby dj52_86_28) ?_
    refine XS.iand X0.here hx rfl (hb hby dj52_86_31) rfl ?_
    show Sq p e below (T0.setTop (mkF m 32 #[sR src, .val (.int (so + (1 : Int32))), sR dst, .val (.int ((Int32.ofNat dm) + (1 : Int32))), sI ln, sI iv] [(.int ((cc.toInt8.toInt32) &&& (255 : Int32))), (.int (Int32.ofNat dm)), (.ref dst)])) _
    exact k)
  have P74 : ∀ t, Sq p e below (T0.setTop (mkF m 32 #[sR src, .val (.int (so + (1 : Int32))), sR dst, .val (.int ((Int32.ofNat dm) + (1 : Int32))), sI ln, sI iv] [(.int cc), (.int (Int32.ofNat dm)), (.ref dst)])) t → Sq p e below (T0.setTop (mkF m 10 #[sR src, sI so, sR dst, .val (.int (Int32.ofNat dm)), sI ln, sI iv] [])) t := fun t k => P73 t (by rw [hq9] at k; exact k)
  obtain ⟨_, _, ⟨T75, L75, k75, n75⟩, -, X75, ⟨Lc75, hQ75, l75, y75, z75⟩, st75⟩ := Jvm.LawKit.callS X0 hx (y := y_1) hown (mvT hZ (oH hw 216 rfl)) (mvT hZ (oH hw 217 rfl)) (mvT hZ (oH hw 23 rfl)) (mvT hZ (oH hw 218 rfl)) (by decide) (backOf (W := 0) (rm_ptc l Z a0 hw [] dst kd (32 : Int32) (Int32.ofNat dm) cc out G1 G2 h0 n0 Z0 g_dst AD d1 d2 d3 d4 Sg P5 Sf hG2 Sa Sh Sl Ol) hZ (oH hw 218 rfl) (oH hw 23 rfl) (Nat.le_trans (oB rfl) hfr) (Nat.le_trans (oB rfl) hlo)) (g := (mkF m 32 #[sR src, .val (.int (so + (1 : Int32))), sR dst, .val (.int ((Int32.ofNat dm) + (1 : Int32))), sI ln, sI iv] [(.int cc), (.int (Int32.ofNat dm)), (.ref dst)])) rfl (by rw [hml]; rfl) (argsL := [(.ref dst), (.int (Int32.ofNat dm)), (.int cc)]) (rest := []) (lenOf pd7 rfl) rfl (oW rfl) (hb hby dj52_86_32) (fun _ _ => ⟨rfl, e0, (by omega : cells + 0 + 0 ≤ R.cells), (by omega : slots + 0 + 0 ≤ R.slots)⟩)
  dsimp only [Pt.U, Pt.locs, Pt.cells, Pt.slots] at X75 l75 y75 z75 st75 hQ75
  subst l75 y75 z75
  obtain ⟨rfl, Nq75, K75, A75⟩ := hQ75
  have N76 := Fr.app N0 Nq75
  have P77 : ∀ t, Sq p e below (T75.setTop (mkF m 35 #[sR src, .val (.int (so + (1 : Int32))), sR dst, .val (.int ((Int32.ofNat dm) + (1 : Int32))), sI ln, sI iv] [])) t → Sq p e below (T0.setTop (mkF m 10 #[sR src, sI so, sR dst, .val (.int (Int32.ofNat dm)), sI ln, sI iv] [])) t := fun t k => P74 t (by
    exact st75 _ k)
  have Z78 : n0 ≤ T75.heap.size := Nat.le_trans Z0 K75.1
  have K79 : Keep h0 T75.heap [dst] := (Keep.refl h0 [dst]).trans K75 ((allS (Or.inl (List.mem_of_getElem? (i := 0) rfl)) all0))
  have O80 : Old Z n0 T75.heap := Ol.keep K75 (allS g_dst all0)
  have P81 : ∀ t, Sq p e below (T75.setTop (mkF m 10 #[sR src, .val (.int (so + (1 : Int32))), sR dst, .val (.int ((Int32.ofNat dm) + (1 : Int32))), sI ln, .val (.int (iv + (1 : Int32)))] [])) t → Sq p e below (T0.setTop (mkF m 10 #[sR src, sI so, sR dst, .val (.int (Int32.ofNat dm)), sI ln, sI iv] [])) t := fun t k => P77 t (by
    refine XS.iinc X75.here hx rfl (hb hby dj52_86_35) rfl (l' := #[sR src, .val (.int (so + (1 : Int32))), sR dst, .val (.int ((Int32.ofNat dm) + (1 : Int32))), sI ln, .val (.int (iv + (1 : Int32)))]) rfl ?_
    refine XS.goto X75.here hx rfl (pc0 := 38) (pc' := 10) rfl (hb hby dj52_86_38) (by decide) (by decide) ?_
    show Sq p e below (T75.setTop (mkF m 10 #[sR src, .val (.int (so + (1 : Int32))), sR dst, .val (.int ((Int32.ofNat dm) + (1 : Int32))), sI ln, .val (.int (iv + (1 : Int32)))] [])) _
    exact k)
  have P82 : ∀ t, Sq p e below (T75.setTop (mkF m 10 #[sR src, .val (.int (so + (1 : Int32))), sR dst, .val (.int (Int32.ofNat (dm + 1))), sI ln, .val (.int (iv + (1 : Int32)))] [])) t → Sq p e below (T0.setTop (mkF m 10 #[sR src, sI so, sR dst, .val (.int (Int32.ofNat dm)), sI ln, sI iv] [])) t := fun t k => P81 t (by rw [own_ofs] at k; exact k)
  exact ⟨T75, T75.heap, _, X75.more (by omega) (by omega), rfl, N76, K79, A75, P82⟩
theorem dj52_86_0 : decode j52_86 0 = .ok (.iload_n 3, 1) := by decide +kernel
theorem dj52_86_1 : decode j52_86 1 = .ok (.iload 4, 2) := by decide +kernel
theorem dj52_86_3 : decode j52_86 3 = .ok (.aload_n 2, 1) := by decide +kernel
theorem dj52_86_4 : decode j52_86 4 = .ok (.invokestatic 173, 3) := by decide +kernel
theorem pd8 : parseMethodDescriptor "(II[B)V" = some ⟨[.int, .int, (.array .byte)], none⟩ := by decide +kernel
theorem dj52_86_7 : decode j52_86 7 = .ok (.iconst 0, 1) := by decide +kernel
theorem dj52_86_8 : decode j52_86 8 = .ok (.istore 5, 2) := by decide +kernel
theorem dj52_86_41 : decode j52_86 41 = .ok (.return_, 1) := by decide +kernel
theorem ef_uif (m : MethodId) (x0 : Addr) (x1 : Int32) (x2 : Addr) (x3 : Int32) (x4 : Int32) : entryFrame m #[(.ref x0), (.int x1), (.ref x2), (.int x3), (.int x4)] 6 = mkF m 0 #[sR x0, sI x1, sR x2, sI x3, sI x4, sU] [] := by (first | (simp [entryFrame, mkF, argsToLocals, Value.category]; done) | rfl)
def Q_uif (Z : State) (dst : Addr) (kd : ClassId) (cs out : List Int32) (h0 : Heap) (n0 : Nat) (v : Option Value) (h : Heap) (L : List Loc) : Prop := v = none ∧ Fr n0 L ∧ Keep h0 h [dst] ∧ Arv Z h dst kd .byte (32 : Int32) ((out ++ own_by true cs).map Value.int) (vI 0)
theorem rm_uif (l : Launch) (Z : State) (a0 : Array Value) (hw : Tb a0 Z) (ws : List Jvm.Cond) (src dst : Addr) (ks kd : ClassId) (NS : Int32) (dm : Nat) (cs out : List Int32) (G1 : Int32) (G2 : Value) (h0 : Heap) (n0 : Nat) (Z0 : n0 ≤ h0.size) (g_dst : n0 ≤ dst) (AS : Arv Z h0 src ks .byte NS ((own_by false cs).map Value.int) (vI 0)) (AD : Arv Z h0 dst kd .byte (32 : Int32) (out.map Value.int) (vI 0)) (hNS : ∀ j, j < cs.length → ¬ (Int32.ofNat j) < 0 ∧ Int32.ofNat j < NS) (hbd : ∀ c ∈ cs, ¬ c < 0 ∧ ¬ (255 : Int32) < c) (ho : out.length = 2 * dm) (hsum : dm + cs.length ≤ 6) (hc4 : cs.length ≤ 4) (nSD : src ≠ dst) (Sg : oSg Z G1) (P5 : ¬ (G1 = (0 : Int32))) (Sf : oSf Z G2) (hG2 : G2.isRef = true) (Sa : oSa Z) (Sh : oSh Z) (Sl : oSl Z) (Ol : Old Z n0 h0) :
    MF l Z h0 y_11 j52_86 6 none ws (rM 3 0 0 43) #[(.ref src), (vI 0), (.ref dst), (.int (Int32.ofNat dm)), (.int (Int32.ofNat cs.length))] (Q_uif Z dst kd cs out h0 n0) := by
  refine MetFree.of_bodySF (plainFor_of_name pn_java_lang_StringUTF16) hisR ?_
  intro p e s m args below meth c s₁ Bd hml hP hK
  obtain ⟨rfl, hZ, hh⟩ := hP
  have hx := Bd.exec
  have hby := Bd.bytes
  have hown : s.vm.findClass "java/lang/StringUTF16" = some m.cls := findClass_of_methodNamed Bd.named
  have X0 : Stand p l e (rM 3 0 0 43) s m #[(.ref src), (vI 0), (.ref dst), (.int (Int32.ofNat dm)), (.int (Int32.ofNat cs.length))] below meth c s₁ [] 0 0 := Stand.of_body Bd
  have e0 : s₁.heap = h0 := by rw [← hh, Bd.state]; rfl
  have N0 := Fr.nil n0
  obtain ⟨B0, pre0, P0⟩ : ∃ B, Rg p e below B (s₁.setTop (entryFrame m #[(.ref src), (vI 0), (.ref dst), (.int (Int32.ofNat dm)), (.int (Int32.ofNat cs.length))] 6)) ∧ Rg p e below (s₁.setTop (mkF m 0 #[sR src, sI 0, sR dst, .val (.int (Int32.ofNat dm)), .val (.int (Int32.ofNat cs.length)), sU] [])) B := ⟨_, fun t k => castTop (ef_uif m src (0 : Int32) dst (Int32.ofNat dm) (Int32.ofNat cs.length)) k, fun t k => k⟩
  obtain ⟨_, _, ⟨T83, L83, k83, n83⟩, -, X83, ⟨Lc83, hQ83, l83, y83, z83⟩, st83⟩ := Jvm.LawKit.callS X0 hx (y := y_5) hown (mvT hZ (oH hw 241 rfl)) (mvT hZ (oH hw 242 rfl)) (mvT hZ (oH hw 23 rfl)) (mvT hZ (oH hw 243 rfl)) (by decide) (backOf (W := 0) (rm_ubo l Z a0 hw [] (Int32.ofNat dm) (Int32.ofNat cs.length) dst kd (32 : Int32) (out.map Value.int) G1 G2 h0 n0 Z0 AD (own_bo hsum).1 (own_bo hsum).2 Sg P5 Sf hG2 Sa Sh Sl Ol) hZ (oH hw 243 rfl) (oH hw 23 rfl) (by decide) (by decide)) (g := (mkF m 4 #[sR src, sI 0, sR dst, .val (.int (Int32.ofNat dm)), .val (.int (Int32.ofNat cs.length)), sU] [(.ref dst), (.int (Int32.ofNat cs.length)), (.int (Int32.ofNat dm))])) rfl (by rw [hml]; rfl) (argsL := [(.int (Int32.ofNat dm)), (.int (Int32.ofNat cs.length)), (.ref dst)]) (rest := []) (lenOf pd8 rfl) rfl (oW rfl) (hb hby dj52_86_4) (fun _ _ => ⟨rfl, e0, (oB rfl : 0 + 0 ≤ _), (oB rfl : 0 + 0 ≤ _)⟩)
  dsimp only [Pt.U, Pt.locs, Pt.cells, Pt.slots] at X83 l83 y83 z83 st83 hQ83
  subst l83 y83 z83
  obtain ⟨rfl, Nq83, e83⟩ := hQ83
  have N84 := Fr.app N0 Nq83
  have P85 : Rg p e below (T83.setTop (mkF m 7 #[sR src, sI 0, sR dst, .val (.int (Int32.ofNat dm)), .val (.int (Int32.ofNat cs.length)), sU] [])) B0 := fun t k => P0 t (by
    refine XS.iloadN X0.here hx rfl (hb hby dj52_86_0) rfl ?_
    refine XS.iload X0.here hx rfl (hb hby dj52_86_1) rfl ?_
    refine XS.aloadN X0.here hx rfl (hb hby dj52_86_3) rfl rfl ?_
    exact st83 _ k)
  have P86 : Rg p e below (T83.setTop (mkF m 10 #[sR src, sI 0, sR dst, .val (.int (Int32.ofNat dm)), .val (.int (Int32.ofNat cs.length)), sI 0] [])) B0 := fun t k => P85 t (by
    refine XS.iconst X83.here hx rfl (hb hby dj52_86_7) ?_
    refine XS.istore X83.here hx rfl (hb hby dj52_86_8) rfl (l' := #[sR src, sI 0, sR dst, .val (.int (Int32.ofNat dm)), .val (.int (Int32.ofNat cs.length)), sI 0]) rfl ?_
    show Sq p e below (T83.setTop (mkF m 10 #[sR src, sI 0, sR dst, .val (.int (Int32.ofNat dm)), .val (.int (Int32.ofNat cs.length)), sI 0] [])) _
    exact k)
  rcases cs with _ | ⟨x0, _ | ⟨x1, _ | ⟨x2, _ | ⟨x3, _ | ⟨x4, cs⟩⟩⟩⟩⟩
  · skip
    obtain ⟨fs87, hr87, hrun87, hended87, hW87, hsame87⟩ := X83.leave (v := none) (fun _ => rfl)
    refine ⟨_, _, pre0 _ (P86 _ ?_), hrun87, hended87, _, _, rfl, ?_, ⟨⟨_, rfl⟩, hW87, hsame87.mono (oB rfl) (oB rfl)⟩⟩
    · show Sq p e below (T83.setTop (mkF m 10 #[sR src, sI 0, sR dst, .val (.int (Int32.ofNat dm)), sI 0, sI 0] [])) _
      refine XS.iload X83.here hx rfl (hb hby dj52_86_10) rfl ?_
      refine XS.iload X83.here hx rfl (hb hby dj52_86_12) rfl ?_
      refine XS.icmpYes X83.here hx rfl (pc0 := 14) (pc' := 41) rfl (hb hby dj52_86_14) rfl (flt (show ¬ ((0 : Int32) < (0 : Int32)) from (by decide))).2.1 (by decide) (by decide) ?_
      exact X83.returnOut hx Bd.returns (hb hby dj52_86_41) hr87
    · show Q_uif Z dst kd [] out h0 n0 _ T83.heap _
      rw [e83]
      exact ⟨rfl, N84, (Keep.refl h0 [dst]), by simpa [own_by] using AD⟩
  · skip
    obtain ⟨T88, h88, L88, X88, e88, Nq88, K88, u88_0, st88⟩ := pc_ift src dst ks kd NS (0 : Int32) (1 : Int32) (0 : Int32) (dm + 0) x0 [(.int (x0.toInt8.toInt32))] out G1 G2 X83 hx hZ hw hby hml hown e83 N84 Z0 (oB rfl) (oB rfl) (by decide) (by decide) g_dst AS (hNS 0 (by simp)) rfl (hbd x0 (by simp)) AD (by simp only [List.length_cons, List.length_nil] at hsum; omega) (by first | omega | (simp only [List.length_append, List.length_cons, List.length_nil]; omega)) (by decide) nSD Sg P5 Sf hG2 Sa Sh Sl Ol
    have P89 : Rg p e below (T88.setTop (mkF m 10 #[sR src, sI 1, sR dst, .val (.int (Int32.ofNat (dm + 1))), sI 1, sI 1] [])) B0 := fun t k => P86 t (by
      exact st88 _ k)
    have Z90 : n0 ≤ h88.size := Nat.le_trans Z0 K88.1
    have K91 : Keep h0 h88 [dst] := (Keep.refl h0 [dst]).trans K88 ((allS (Or.inl (List.mem_of_getElem? (i := 0) rfl)) all0))
    have O92 : Old Z n0 h88 := Ol.keep K88 (allS g_dst all0)
    obtain ⟨fs93, hr93, hrun93, hended93, hW93, hsame93⟩ := X88.leave (v := none) (fun _ => rfl)
    refine ⟨_, _, pre0 _ (P89 _ ?_), hrun93, hended93, _, _, rfl, ?_, ⟨⟨_, rfl⟩, hW93, hsame93.mono (oB rfl) (oB rfl)⟩⟩
    · show Sq p e below (T88.setTop (mkF m 10 #[sR src, sI 1, sR dst, .val (.int (Int32.ofNat (dm + 1))), sI 1, sI 1] [])) _
      refine XS.iload X88.here hx rfl (hb hby dj52_86_10) rfl ?_
      refine XS.iload X88.here hx rfl (hb hby dj52_86_12) rfl ?_
      refine XS.icmpYes X88.here hx rfl (pc0 := 14) (pc' := 41) rfl (hb hby dj52_86_14) rfl (flt (show ¬ ((1 : Int32) < (1 : Int32)) from (by decide))).2.1 (by decide) (by decide) ?_
      exact X88.returnOut hx Bd.returns (hb hby dj52_86_41) hr93
    · show Q_uif Z dst kd [x0] out h0 n0 _ T88.heap _
      rw [e88]
      exact ⟨rfl, Nq88, K91, by simpa [own_by] using u88_0⟩
  · skip
    obtain ⟨T94, h94, L94, X94, e94, Nq94, K94, u94_0, st94⟩ := pc_ift src dst ks kd NS (0 : Int32) (2 : Int32) (0 : Int32) (dm + 0) x0 [(.int (x0.toInt8.toInt32)), (.int (x1.toInt8.toInt32))] out G1 G2 X83 hx hZ hw hby hml hown e83 N84 Z0 (oB rfl) (oB rfl) (by decide) (by decide) g_dst AS (hNS 0 (by simp)) rfl (hbd x0 (by simp)) AD (by simp only [List.length_cons, List.length_nil] at hsum; omega) (by first | omega | (simp only [List.length_append, List.length_cons, List.length_nil]; omega)) (by decide) nSD Sg P5 Sf hG2 Sa Sh Sl Ol
    have P95 : Rg p e below (T94.setTop (mkF m 10 #[sR src, sI 1, sR dst, .val (.int (Int32.ofNat (dm + 1))), sI 2, sI 1] [])) B0 := fun t k => P86 t (by
      exact st94 _ k)
    have Z96 : n0 ≤ h94.size := Nat.le_trans Z0 K94.1
    have K97 : Keep h0 h94 [dst] := (Keep.refl h0 [dst]).trans K94 ((allS (Or.inl (List.mem_of_getElem? (i := 0) rfl)) all0))
    have O98 : Old Z n0 h94 := Ol.keep K94 (allS g_dst all0)
    have f99 := (AS.keep K94 (ninS nSD nin0))
    obtain ⟨T100, h100, L100, X100, e100, Nq100, K100, u100_0, st100⟩ := pc_ift src dst ks kd NS (1 : Int32) (2 : Int32) (1 : Int32) (dm + 1) x1 [(.int (x0.toInt8.toInt32)), (.int (x1.toInt8.toInt32))] (out ++ [x0.toInt8.toInt32, (x0 >>> (8 : Int32)).toInt8.toInt32]) G1 G2 X94 hx hZ hw hby hml hown e94 Nq94 Z96 (oB rfl) (oB rfl) (by decide) (by decide) g_dst f99 (hNS 1 (by simp)) rfl (hbd x1 (by simp)) u94_0 (by simp only [List.length_cons, List.length_nil] at hsum; omega) (by first | omega | (simp only [List.length_append, List.length_cons, List.length_nil]; omega)) (by decide) nSD Sg P5 Sf hG2 Sa Sh Sl O98
    have P101 : Rg p e below (T100.setTop (mkF m 10 #[sR src, sI 2, sR dst, .val (.int (Int32.ofNat (dm + 2))), sI 2, sI 2] [])) B0 := fun t k => P95 t (by
      exact st100 _ k)
    have Z102 : n0 ≤ h100.size := Nat.le_trans Z96 K100.1
    have K103 : Keep h0 h100 [dst] := K97.trans K100 ((allS (Or.inl (List.mem_of_getElem? (i := 0) rfl)) all0))
    have O104 : Old Z n0 h100 := O98.keep K100 (allS g_dst all0)
    obtain ⟨fs105, hr105, hrun105, hended105, hW105, hsame105⟩ := X100.leave (v := none) (fun _ => rfl)
    refine ⟨_, _, pre0 _ (P101 _ ?_), hrun105, hended105, _, _, rfl, ?_, ⟨⟨_, rfl⟩, hW105, hsame105.mono (oB rfl) (oB rfl)⟩⟩
    · show Sq p e below (T100.setTop (mkF m 10 #[sR src, sI 2, sR dst, .val (.int (Int32.ofNat (dm + 2))), sI 2, sI 2] [])) _
      refine XS.iload X100.here hx rfl (hb hby dj52_86_10) rfl ?_
      refine XS.iload X100.here hx rfl (hb hby dj52_86_12) rfl ?_
      refine XS.icmpYes X100.here hx rfl (pc0 := 14) (pc' := 41) rfl (hb hby dj52_86_14) rfl (flt (show ¬ ((2 : Int32) < (2 : Int32)) from (by decide))).2.1 (by decide) (by decide) ?_
      exact X100.returnOut hx Bd.returns (hb hby dj52_86_41) hr105
    · show Q_uif Z dst kd [x0, x1] out h0 n0 _ T100.heap _
      rw [e100]
      exact ⟨rfl, Nq100, K103, by simpa [own_by] using u100_0⟩
  · skip
    obtain ⟨T106, h106, L106, X106, e106, Nq106, K106, u106_0, st106⟩ := pc_ift src dst ks kd NS (0 : Int32) (3 : Int32) (0 : Int32) (dm + 0) x0 [(.int (x0.toInt8.toInt32)), (.int (x1.toInt8.toInt32)), (.int (x2.toInt8.toInt32))] out G1 G2 X83 hx hZ hw hby hml hown e83 N84 Z0 (oB rfl) (oB rfl) (by decide) (by decide) g_dst AS (hNS 0 (by simp)) rfl (hbd x0 (by simp)) AD (by simp only [List.length_cons, List.length_nil] at hsum; omega) (by first | omega | (simp only [List.length_append, List.length_cons, List.length_nil]; omega)) (by decide) nSD Sg P5 Sf hG2 Sa Sh Sl Ol
    have P107 : Rg p e below (T106.setTop (mkF m 10 #[sR src, sI 1, sR dst, .val (.int (Int32.ofNat (dm + 1))), sI 3, sI 1] [])) B0 := fun t k => P86 t (by
      exact st106 _ k)
    have Z108 : n0 ≤ h106.size := Nat.le_trans Z0 K106.1
    have K109 : Keep h0 h106 [dst] := (Keep.refl h0 [dst]).trans K106 ((allS (Or.inl (List.mem_of_getElem? (i := 0) rfl)) all0))
    have O110 : Old Z n0 h106 := Ol.keep K106 (allS g_dst all0)
    have f111 := (AS.keep K106 (ninS nSD nin0))
    obtain ⟨T112, h112, L112, X112, e112, Nq112, K112, u112_0, st112⟩ := pc_ift src dst ks kd NS (1 : Int32) (3 : Int32) (1 : Int32) (dm + 1) x1 [(.int (x0.toInt8.toInt32)), (.int (x1.toInt8.toInt32)), (.int (x2.toInt8.toInt32))] (out ++ [x0.toInt8.toInt32, (x0 >>> (8 : Int32)).toInt8.toInt32]) G1 G2 X106 hx hZ hw hby hml hown e106 Nq106 Z108 (oB rfl) (oB rfl) (by decide) (by decide) g_dst f111 (hNS 1 (by simp)) rfl (hbd x1 (by simp)) u106_0 (by simp only [List.length_cons, List.length_nil] at hsum; omega) (by first | omega | (simp only [List.length_append, List.length_cons, List.length_nil]; omega)) (by decide) nSD Sg P5 Sf hG2 Sa Sh Sl O110
    have P113 : Rg p e below (T112.setTop (mkF m 10 #[sR src, sI 2, sR dst, .val (.int (Int32.ofNat (dm + 2))), sI 3, sI 2] [])) B0 := fun t k => P107 t (by
      exact st112 _ k)
    have Z114 : n0 ≤ h112.size := Nat.le_trans Z108 K112.1
    have K115 : Keep h0 h112 [dst] := K109.trans K112 ((allS (Or.inl (List.mem_of_getElem? (i := 0) rfl)) all0))
    have O116 : Old Z n0 h112 := O110.keep K112 (allS g_dst all0)
    have f117 := (f111.keep K112 (ninS nSD nin0))
    obtain ⟨T118, h118, L118, X118, e118, Nq118, K118, u118_0, st118⟩ := pc_ift src dst ks kd NS (2 : Int32) (3 : Int32) (2 : Int32) (dm + 2) x2 [(.int (x0.toInt8.toInt32)), (.int (x1.toInt8.toInt32)), (.int (x2.toInt8.toInt32))] ((out ++ [x0.toInt8.toInt32, (x0 >>> (8 : Int32)).toInt8.toInt32]) ++ [x1.toInt8.toInt32, (x1 >>> (8 : Int32)).toInt8.toInt32]) G1 G2 X112 hx hZ hw hby hml hown e112 Nq112 Z114 (oB rfl) (oB rfl) (by decide) (by decide) g_dst f117 (hNS 2 (by simp)) rfl (hbd x2 (by simp)) u112_0 (by simp only [List.length_cons, List.length_nil] at hsum; omega) (by first | omega | (simp only [List.length_append, List.length_cons, List.length_nil]; omega)) (by decide) nSD Sg P5 Sf hG2 Sa Sh Sl O116
    have P119 : Rg p e below (T118.setTop (mkF m 10 #[sR src, sI 3, sR dst, .val (.int (Int32.ofNat (dm + 3))), sI 3, sI 3] [])) B0 := fun t k => P113 t (by
      exact st118 _ k)
    have Z120 : n0 ≤ h118.size := Nat.le_trans Z114 K118.1
    have K121 : Keep h0 h118 [dst] := K115.trans K118 ((allS (Or.inl (List.mem_of_getElem? (i := 0) rfl)) all0))
    have O122 : Old Z n0 h118 := O116.keep K118 (allS g_dst all0)
    obtain ⟨fs123, hr123, hrun123, hended123, hW123, hsame123⟩ := X118.leave (v := none) (fun _ => rfl)
    refine ⟨_, _, pre0 _ (P119 _ ?_), hrun123, hended123, _, _, rfl, ?_, ⟨⟨_, rfl⟩, hW123, hsame123.mono (oB rfl) (oB rfl)⟩⟩
    · show Sq p e below (T118.setTop (mkF m 10 #[sR src, sI 3, sR dst, .val (.int (Int32.ofNat (dm + 3))), sI 3, sI 3] [])) _
      refine XS.iload X118.here hx rfl (hb hby dj52_86_10) rfl ?_
      refine XS.iload X118.here hx rfl (hb hby dj52_86_12) rfl ?_
      refine XS.icmpYes X118.here hx rfl (pc0 := 14) (pc' := 41) rfl (hb hby dj52_86_14) rfl (flt (show ¬ ((3 : Int32) < (3 : Int32)) from (by decide))).2.1 (by decide) (by decide) ?_
      exact X118.returnOut hx Bd.returns (hb hby dj52_86_41) hr123
    · show Q_uif Z dst kd [x0, x1, x2] out h0 n0 _ T118.heap _
      rw [e118]
      exact ⟨rfl, Nq118, K121, by simpa [own_by] using u118_0⟩
  · skip
    obtain ⟨T124, h124, L124, X124, e124, Nq124, K124, u124_0, st124⟩ := pc_ift src dst ks kd NS (0 : Int32) (4 : Int32) (0 : Int32) (dm + 0) x0 [(.int (x0.toInt8.toInt32)), (.int (x1.toInt8.toInt32)), (.int (x2.toInt8.toInt32)), (.int (x3.toInt8.toInt32))] out G1 G2 X83 hx hZ hw hby hml hown e83 N84 Z0 (oB rfl) (oB rfl) (by decide) (by decide) g_dst AS (hNS 0 (by simp)) rfl (hbd x0 (by simp)) AD (by simp only [List.length_cons, List.length_nil] at hsum; omega) (by first | omega | (simp only [List.length_append, List.length_cons, List.length_nil]; omega)) (by decide) nSD Sg P5 Sf hG2 Sa Sh Sl Ol
    have P125 : Rg p e below (T124.setTop (mkF m 10 #[sR src, sI 1, sR dst, .val (.int (Int32.ofNat (dm + 1))), sI 4, sI 1] [])) B0 := fun t k => P86 t (by
      exact st124 _ k)
    have Z126 : n0 ≤ h124.size := Nat.le_trans Z0 K124.1
    have K127 : Keep h0 h124 [dst] := (Keep.refl h0 [dst]).trans K124 ((allS (Or.inl (List.mem_of_getElem? (i := 0) rfl)) all0))
    have O128 : Old Z n0 h124 := Ol.keep K124 (allS g_dst all0)
    have f129 := (AS.keep K124 (ninS nSD nin0))
    obtain ⟨T130, h130, L130, X130, e130, Nq130, K130, u130_0, st130⟩ := pc_ift src dst ks kd NS (1 : Int32) (4 : Int32) (1 : Int32) (dm + 1) x1 [(.int (x0.toInt8.toInt32)), (.int (x1.toInt8.toInt32)), (.int (x2.toInt8.toInt32)), (.int (x3.toInt8.toInt32))] (out ++ [x0.toInt8.toInt32, (x0 >>> (8 : Int32)).toInt8.toInt32]) G1 G2 X124 hx hZ hw hby hml hown e124 Nq124 Z126 (oB rfl) (oB rfl) (by decide) (by decide) g_dst f129 (hNS 1 (by simp)) rfl (hbd x1 (by simp)) u124_0 (by simp only [List.length_cons, List.length_nil] at hsum; omega) (by first | omega | (simp only [List.length_append, List.length_cons, List.length_nil]; omega)) (by decide) nSD Sg P5 Sf hG2 Sa Sh Sl O128
    have P131 : Rg p e below (T130.setTop (mkF m 10 #[sR src, sI 2, sR dst, .val (.int (Int32.ofNat (dm + 2))), sI 4, sI 2] [])) B0 := fun t k => P125 t (by
      exact st130 _ k)
    have Z132 : n0 ≤ h130.size := Nat.le_trans Z126 K130.1
    have K133 : Keep h0 h130 [dst] := K127.trans K130 ((allS (Or.inl (List.mem_of_getElem? (i := 0) rfl)) all0))
    have O134 : Old Z n0 h130 := O128.keep K130 (allS g_dst all0)
    have f135 := (f129.keep K130 (ninS nSD nin0))
    obtain ⟨T136, h136, L136, X136, e136, Nq136, K136, u136_0, st136⟩ := pc_ift src dst ks kd NS (2 : Int32) (4 : Int32) (2 : Int32) (dm + 2) x2 [(.int (x0.toInt8.toInt32)), (.int (x1.toInt8.toInt32)), (.int (x2.toInt8.toInt32)), (.int (x3.toInt8.toInt32))] ((out ++ [x0.toInt8.toInt32, (x0 >>> (8 : Int32)).toInt8.toInt32]) ++ [x1.toInt8.toInt32, (x1 >>> (8 : Int32)).toInt8.toInt32]) G1 G2 X130 hx hZ hw hby hml hown e130 Nq130 Z132 (oB rfl) (oB rfl) (by decide) (by decide) g_dst f135 (hNS 2 (by simp)) rfl (hbd x2 (by simp)) u130_0 (by simp only [List.length_cons, List.length_nil] at hsum; omega) (by first | omega | (simp only [List.length_append, List.length_cons, List.length_nil]; omega)) (by decide) nSD Sg P5 Sf hG2 Sa Sh Sl O134
    have P137 : Rg p e below (T136.setTop (mkF m 10 #[sR src, sI 3, sR dst, .val (.int (Int32.ofNat (dm + 3))), sI 4, sI 3] [])) B0 := fun t k => P131 t (by
      exact st136 _ k)
    have Z138 : n0 ≤ h136.size := Nat.le_trans Z132 K136.1
    have K139 : Keep h0 h136 [dst] := K133.trans K136 ((allS (Or.inl (List.mem_of_getElem? (i := 0) rfl)) all0))
    have O140 : Old Z n0 h136 := O134.keep K136 (allS g_dst all0)
    have f141 := (f135.keep K136 (ninS nSD nin0))
    obtain ⟨T142, h142, L142, X142, e142, Nq142, K142, u142_0, st142⟩ := pc_ift src dst ks kd NS (3 : Int32) (4 : Int32) (3 : Int32) (dm + 3) x3 [(.int (x0.toInt8.toInt32)), (.int (x1.toInt8.toInt32)), (.int (x2.toInt8.toInt32)), (.int (x3.toInt8.toInt32))] (((out ++ [x0.toInt8.toInt32, (x0 >>> (8 : Int32)).toInt8.toInt32]) ++ [x1.toInt8.toInt32, (x1 >>> (8 : Int32)).toInt8.toInt32]) ++ [x2.toInt8.toInt32, (x2 >>> (8 : Int32)).toInt8.toInt32]) G1 G2 X136 hx hZ hw hby hml hown e136 Nq136 Z138 (oB rfl) (oB rfl) (by decide) (by decide) g_dst f141 (hNS 3 (by simp)) rfl (hbd x3 (by simp)) u136_0 (by simp only [List.length_cons, List.length_nil] at hsum; omega) (by first | omega | (simp only [List.length_append, List.length_cons, List.length_nil]; omega)) (by decide) nSD Sg P5 Sf hG2 Sa Sh Sl O140
    have P143 : Rg p e below (T142.setTop (mkF m 10 #[sR src, sI 4, sR dst, .val (.int (Int32.ofNat (dm + 4))), sI 4, sI 4] [])) B0 := fun t k => P137 t (by
      exact st142 _ k)
    have Z144 : n0 ≤ h142.size := Nat.le_trans Z138 K142.1
    have K145 : Keep h0 h142 [dst] := K139.trans K142 ((allS (Or.inl (List.mem_of_getElem? (i := 0) rfl)) all0))
    have O146 : Old Z n0 h142 := O140.keep K142 (allS g_dst all0)
    obtain ⟨fs147, hr147, hrun147, hended147, hW147, hsame147⟩ := X142.leave (v := none) (fun _ => rfl)
    refine ⟨_, _, pre0 _ (P143 _ ?_), hrun147, hended147, _, _, rfl, ?_, ⟨⟨_, rfl⟩, hW147, hsame147.mono (oB rfl) (oB rfl)⟩⟩
    · show Sq p e below (T142.setTop (mkF m 10 #[sR src, sI 4, sR dst, .val (.int (Int32.ofNat (dm + 4))), sI 4, sI 4] [])) _
      refine XS.iload X142.here hx rfl (hb hby dj52_86_10) rfl ?_
      refine XS.iload X142.here hx rfl (hb hby dj52_86_12) rfl ?_
      refine XS.icmpYes X142.here hx rfl (pc0 := 14) (pc' := 41) rfl (hb hby dj52_86_14) rfl (flt (show ¬ ((4 : Int32) < (4 : Int32)) from (by decide))).2.1 (by decide) (by decide) ?_
      exact X142.returnOut hx Bd.returns (hb hby dj52_86_41) hr147
    · show Q_uif Z dst kd [x0, x1, x2, x3] out h0 n0 _ T142.heap _
      rw [e142]
      exact ⟨rfl, Nq142, K145, by simpa [own_by] using u142_0⟩
  · exact absurd hc4 (by simp)
theorem dj43_50_0 : decode j43_50 0 = .ok (.aload_n 0, 1) := by decide +kernel
theorem dj43_50_1 : decode j43_50 1 = .ok (.iload_n 1, 1) := by decide +kernel
theorem dj43_50_2 : decode j43_50 2 = .ok (.aload_n 2, 1) := by decide +kernel
theorem dj43_50_3 : decode j43_50 3 = .ok (.iload_n 3, 1) := by decide +kernel
theorem dj43_50_4 : decode j43_50 4 = .ok (.iload 4, 2) := by decide +kernel
theorem dj43_50_6 : decode j43_50 6 = .ok (.invokestatic 240, 3) := by decide +kernel
theorem pd9 : parseMethodDescriptor "([BI[BII)V" = some ⟨[(.array .byte), .int, (.array .byte), .int, .int], none⟩ := by decide +kernel
theorem dj43_50_9 : decode j43_50 9 = .ok (.return_, 1) := by decide +kernel
theorem pn_java_lang_StringLatin1 : plainName "java/lang/StringLatin1" = true := by first | (simp [plainName, overriddenIn]; done) | decide +kernel
theorem ef_lif (m : MethodId) (x0 : Addr) (x1 : Int32) (x2 : Addr) (x3 : Int32) (x4 : Int32) : entryFrame m #[(.ref x0), (.int x1), (.ref x2), (.int x3), (.int x4)] 5 = mkF m 0 #[sR x0, sI x1, sR x2, sI x3, sI x4] [] := by (first | (simp [entryFrame, mkF, argsToLocals, Value.category]; done) | rfl)
def Q_lif (Z : State) (dst : Addr) (kd : ClassId) (cs out : List Int32) (h0 : Heap) (n0 : Nat) (v : Option Value) (h : Heap) (L : List Loc) : Prop := v = none ∧ Fr n0 L ∧ Keep h0 h [dst] ∧ Arv Z h dst kd .byte (32 : Int32) ((out ++ own_by true cs).map Value.int) (vI 0)
theorem rm_lif (l : Launch) (Z : State) (a0 : Array Value) (hw : Tb a0 Z) (ws : List Jvm.Cond) (src dst : Addr) (ks kd : ClassId) (NS : Int32) (dm : Nat) (cs out : List Int32) (G1 : Int32) (G2 : Value) (h0 : Heap) (n0 : Nat) (Z0 : n0 ≤ h0.size) (g_dst : n0 ≤ dst) (AS : Arv Z h0 src ks .byte NS ((own_by false cs).map Value.int) (vI 0)) (AD : Arv Z h0 dst kd .byte (32 : Int32) (out.map Value.int) (vI 0)) (hNS : ∀ j, j < cs.length → ¬ (Int32.ofNat j) < 0 ∧ Int32.ofNat j < NS) (hbd : ∀ c ∈ cs, ¬ c < 0 ∧ ¬ (255 : Int32) < c) (ho : out.length = 2 * dm) (hsum : dm + cs.length ≤ 6) (hc4 : cs.length ≤ 4) (nSD : src ≠ dst) (Sg : oSg Z G1) (P5 : ¬ (G1 = (0 : Int32))) (Sf : oSf Z G2) (hG2 : G2.isRef = true) (Sa : oSa Z) (Sh : oSh Z) (Sl : oSl Z) (Ol : Old Z n0 h0) :
    MF l Z h0 y_12 j43_50 5 none ws (rM 4 0 0 60) #[(.ref src), (vI 0), (.ref dst), (.int (Int32.ofNat dm)), (.int (Int32.ofNat cs.length))] (Q_lif Z dst kd cs out h0 n0) := by
  refine MetFree.of_bodySF (plainFor_of_name pn_java_lang_StringLatin1) hisR ?_
  intro p e s m args below meth c s₁ Bd hml hP hK
  obtain ⟨rfl, hZ, hh⟩ := hP
  have hx := Bd.exec
  have hby := Bd.bytes
  have hown : s.vm.findClass "java/lang/StringLatin1" = some m.cls := findClass_of_methodNamed Bd.named
  have X0 : Stand p l e (rM 4 0 0 60) s m #[(.ref src), (vI 0), (.ref dst), (.int (Int32.ofNat dm)), (.int (Int32.ofNat cs.length))] below meth c s₁ [] 0 0 := Stand.of_body Bd
  have e0 : s₁.heap = h0 := by rw [← hh, Bd.state]; rfl
  have N0 := Fr.nil n0
  obtain ⟨B0, pre0, P0⟩ : ∃ B, Rg p e below B (s₁.setTop (entryFrame m #[(.ref src), (vI 0), (.ref dst), (.int (Int32.ofNat dm)), (.int (Int32.ofNat cs.length))] 5)) ∧ Rg p e below (s₁.setTop (mkF m 0 #[sR src, sI 0, sR dst, .val (.int (Int32.ofNat dm)), .val (.int (Int32.ofNat cs.length))] [])) B := ⟨_, fun t k => castTop (ef_lif m src (0 : Int32) dst (Int32.ofNat dm) (Int32.ofNat cs.length)) k, fun t k => k⟩
  obtain ⟨_, _, ⟨T148, L148, k148, n148⟩, -, X148, ⟨Lc148, hQ148, l148, y148, z148⟩, st148⟩ := Jvm.LawKit.callS X0 hx (y := y_11) hown (mvT hZ (oH hw 238 rfl)) (mvT hZ (oH hw 239 rfl)) (mvT hZ (oH hw 23 rfl)) (mvT hZ (oH hw 240 rfl)) (by decide) (backOf (W := 0) (rm_uif l Z a0 hw [] src dst ks kd NS dm cs out G1 G2 h0 n0 Z0 g_dst AS AD hNS hbd ho hsum hc4 nSD Sg P5 Sf hG2 Sa Sh Sl Ol) hZ (oH hw 240 rfl) (oH hw 23 rfl) (by decide) (by decide)) (g := (mkF m 6 #[sR src, sI 0, sR dst, .val (.int (Int32.ofNat dm)), .val (.int (Int32.ofNat cs.length))] [(.int (Int32.ofNat cs.length)), (.int (Int32.ofNat dm)), (.ref dst), (vI 0), (.ref src)])) rfl (by rw [hml]; rfl) (argsL := [(.ref src), (vI 0), (.ref dst), (.int (Int32.ofNat dm)), (.int (Int32.ofNat cs.length))]) (rest := []) (lenOf pd9 rfl) rfl (oW rfl) (hb hby dj43_50_6) (fun _ _ => ⟨rfl, e0, (oB rfl : 0 + 0 ≤ _), (oB rfl : 0 + 0 ≤ _)⟩)
  dsimp only [Pt.U, Pt.locs, Pt.cells, Pt.slots] at X148 l148 y148 z148 st148 hQ148
  subst l148 y148 z148
  obtain ⟨rfl, Nq148, K148, A148⟩ := hQ148
  have N149 := Fr.app N0 Nq148
  have P150 : Rg p e below (T148.setTop (mkF m 9 #[sR src, sI 0, sR dst, .val (.int (Int32.ofNat dm)), .val (.int (Int32.ofNat cs.length))] [])) B0 := fun t k => P0 t (by
    refine XS.aloadN X0.here hx rfl (hb hby dj43_50_0) rfl rfl ?_
    refine XS.iloadN X0.here hx rfl (hb hby dj43_50_1) rfl ?_
    refine XS.aloadN X0.here hx rfl (hb hby dj43_50_2) rfl rfl ?_
    refine XS.iloadN X0.here hx rfl (hb hby dj43_50_3) rfl ?_
    refine XS.iload X0.here hx rfl (hb hby dj43_50_4) rfl ?_
    exact st148 _ k)
  have Z151 : n0 ≤ T148.heap.size := Nat.le_trans Z0 K148.1
  have K152 : Keep h0 T148.heap [dst] := (Keep.refl h0 [dst]).trans K148 ((allS (Or.inl (List.mem_of_getElem? (i := 0) rfl)) all0))
  have O153 : Old Z n0 T148.heap := Ol.keep K148 (allS g_dst all0)
  obtain ⟨fs154, hr154, hrun154, hended154, hW154, hsame154⟩ := X148.leave (v := none) (fun _ => rfl)
  refine ⟨_, _, pre0 _ (P150 _ ?_), hrun154, hended154, _, _, rfl, ?_, ⟨⟨_, rfl⟩, hW154, hsame154.mono (oB rfl) (oB rfl)⟩⟩
  · exact X148.returnOut hx Bd.returns (hb hby dj43_50_9) hr154
  · show Q_lif Z dst kd cs out h0 n0 _ T148.heap _
    exact ⟨rfl, N149, K152, A148⟩
theorem dj42_152_0 : decode j42_152 0 = .ok (.getstatic 38, 3) := by decide +kernel
theorem dj42_152_3 : decode j42_152 3 = .ok (.ifCond .eq 10, 3) := by decide +kernel
theorem dj42_152_6 : decode j42_152 6 = .ok (.aload_n 0, 1) := by decide +kernel
theorem dj42_152_7 : decode j42_152 7 = .ok (.getfield 15, 3) := by decide +kernel
theorem dj42_152_10 : decode j42_152 10 = .ok (.goto 4, 3) := by decide +kernel
theorem dj42_152_14 : decode j42_152 14 = .ok (.ireturn, 1) := by decide +kernel
theorem ef_scofalse (m : MethodId) (x0 : Addr) : entryFrame m #[(.ref x0)] 1 = mkF m 0 #[sR x0] [] := by (first | (simp [entryFrame, mkF, argsToLocals, Value.category]; done) | rfl)
def Q_scofalse  (h0 : Heap) (n0 : Nat) (v : Option Value) (h : Heap) (L : List Loc) : Prop := v = some (vI 0) ∧ Fr n0 L ∧ h = h0
theorem rm_scofalse (l : Launch) (Z : State) (a0 : Array Value) (hw : Tb a0 Z) (ws : List Jvm.Cond) (s1 : Addr) (G1 : Int32) (G2 : Value) (h0 : Heap) (n0 : Nat) (Z0 : n0 ≤ h0.size) (C_s1 : Fld Z h0 s1 nS "coder" "B" (vI 0)) (Sg : oSg Z G1) (P5 : ¬ (G1 = (0 : Int32))) (Sf : oSf Z G2) (hG2 : G2.isRef = true) (Sa : oSa Z) (Sh : oSh Z) (Sl : oSl Z) (Ol : Old Z n0 h0) :
    MF l Z h0 y_13 j42_152 1 (some .byte) ws (rM 0 0 0 0) #[(.ref s1)] (Q_scofalse  h0 n0) := by
  refine MetFree.of_bodySF (plainFor_of_name pn_java_lang_String) hisR ?_
  intro p e s m args below meth c s₁ Bd hml hP hK
  obtain ⟨rfl, hZ, hh⟩ := hP
  have hx := Bd.exec
  have hby := Bd.bytes
  have hown : s.vm.findClass "java/lang/String" = some m.cls := findClass_of_methodNamed Bd.named
  have X0 : Stand p l e (rM 0 0 0 0) s m #[(.ref s1)] below meth c s₁ [] 0 0 := Stand.of_body Bd
  have e0 : s₁.heap = h0 := by rw [← hh, Bd.state]; rfl
  have N0 := Fr.nil n0
  obtain ⟨B0, pre0, P0⟩ : ∃ B, Rg p e below B (s₁.setTop (entryFrame m #[(.ref s1)] 1)) ∧ Rg p e below (s₁.setTop (mkF m 0 #[sR s1] [])) B := ⟨_, fun t k => castTop (ef_scofalse m s1) k, fun t k => k⟩
  obtain ⟨T155, X155, e155, st155⟩ := getS2 X0 hx hZ hown (host := "") (Or.inl (oH hw 20 rfl)) Via.refl e0 (Sg.ext Ol.2) (g := (mkF m 0 #[sR s1] [])) rfl (hb hby dj42_152_0)
  have P156 : Rg p e below (T155.setTop (mkF m 3 #[sR s1] [(.int G1)])) B0 := fun t k => P0 t (by
    exact st155 _ k)
  obtain ⟨T157, X157, e157, st157⟩ := getF X155 hx hZ hown (host := "") (Or.inl (oH hw 32 rfl)) Via.refl e155 C_s1 (g := (mkF m 7 #[sR s1] [(.ref s1)])) rfl rfl (hb hby dj42_152_7)
  have P158 : Rg p e below (T157.setTop (mkF m 10 #[sR s1] [(vI 0)])) B0 := fun t k => P156 t (by
    refine XS.ifNo X155.here hx rfl (hb hby dj42_152_3) rfl ((if0 _ _).trans (feq (show ¬ (G1 = (0 : Int32)) from P5)).1) ?_
    refine XS.aloadN X155.here hx rfl (hb hby dj42_152_6) rfl rfl ?_
    exact st157 _ k)
  obtain ⟨fs159, hr159, hrun159, hended159, hW159, hsame159⟩ := X157.leave (v := some (vI 0)) (fun h => by rw [Bd.returns] at h; cases h)
  refine ⟨_, _, pre0 _ (P158 _ ?_), hrun159, hended159, _, _, rfl, ?_, ⟨⟨_, rfl⟩, hW159, hsame159.mono (oB rfl) (oB rfl)⟩⟩
  · show Sq p e below (T157.setTop (mkF m 10 #[sR s1] [(vI 0)])) _
    refine XS.goto X157.here hx rfl (pc0 := 10) (pc' := 14) rfl (hb hby dj42_152_10) (by decide) (by decide) ?_
    exact retN X157 hx (t := .byte) Bd.returns (by simp) (hb hby dj42_152_14) hr159
  · show Q_scofalse  h0 n0 _ T157.heap _
    rw [e157]
    exact ⟨rfl, N0, rfl⟩
theorem ef_scotrue (m : MethodId) (x0 : Addr) : entryFrame m #[(.ref x0)] 1 = mkF m 0 #[sR x0] [] := by (first | (simp [entryFrame, mkF, argsToLocals, Value.category]; done) | rfl)
def Q_scotrue  (h0 : Heap) (n0 : Nat) (v : Option Value) (h : Heap) (L : List Loc) : Prop := v = some (vI 1) ∧ Fr n0 L ∧ h = h0
theorem rm_scotrue (l : Launch) (Z : State) (a0 : Array Value) (hw : Tb a0 Z) (ws : List Jvm.Cond) (s1 : Addr) (G1 : Int32) (G2 : Value) (h0 : Heap) (n0 : Nat) (Z0 : n0 ≤ h0.size) (C_s1 : Fld Z h0 s1 nS "coder" "B" (vI 1)) (Sg : oSg Z G1) (P5 : ¬ (G1 = (0 : Int32))) (Sf : oSf Z G2) (hG2 : G2.isRef = true) (Sa : oSa Z) (Sh : oSh Z) (Sl : oSl Z) (Ol : Old Z n0 h0) :
    MF l Z h0 y_13 j42_152 1 (some .byte) ws (rM 0 0 0 0) #[(.ref s1)] (Q_scotrue  h0 n0) := by
  refine MetFree.of_bodySF (plainFor_of_name pn_java_lang_String) hisR ?_
  intro p e s m args below meth c s₁ Bd hml hP hK
  obtain ⟨rfl, hZ, hh⟩ := hP
  have hx := Bd.exec
  have hby := Bd.bytes
  have hown : s.vm.findClass "java/lang/String" = some m.cls := findClass_of_methodNamed Bd.named
  have X0 : Stand p l e (rM 0 0 0 0) s m #[(.ref s1)] below meth c s₁ [] 0 0 := Stand.of_body Bd
  have e0 : s₁.heap = h0 := by rw [← hh, Bd.state]; rfl
  have N0 := Fr.nil n0
  obtain ⟨B0, pre0, P0⟩ : ∃ B, Rg p e below B (s₁.setTop (entryFrame m #[(.ref s1)] 1)) ∧ Rg p e below (s₁.setTop (mkF m 0 #[sR s1] [])) B := ⟨_, fun t k => castTop (ef_scotrue m s1) k, fun t k => k⟩
  obtain ⟨T160, X160, e160, st160⟩ := getS2 X0 hx hZ hown (host := "") (Or.inl (oH hw 20 rfl)) Via.refl e0 (Sg.ext Ol.2) (g := (mkF m 0 #[sR s1] [])) rfl (hb hby dj42_152_0)
  have P161 : Rg p e below (T160.setTop (mkF m 3 #[sR s1] [(.int G1)])) B0 := fun t k => P0 t (by
    exact st160 _ k)
  obtain ⟨T162, X162, e162, st162⟩ := getF X160 hx hZ hown (host := "") (Or.inl (oH hw 32 rfl)) Via.refl e160 C_s1 (g := (mkF m 7 #[sR s1] [(.ref s1)])) rfl rfl (hb hby dj42_152_7)
  have P163 : Rg p e below (T162.setTop (mkF m 10 #[sR s1] [(vI 1)])) B0 := fun t k => P161 t (by
    refine XS.ifNo X160.here hx rfl (hb hby dj42_152_3) rfl ((if0 _ _).trans (feq (show ¬ (G1 = (0 : Int32)) from P5)).1) ?_
    refine XS.aloadN X160.here hx rfl (hb hby dj42_152_6) rfl rfl ?_
    exact st162 _ k)
  obtain ⟨fs164, hr164, hrun164, hended164, hW164, hsame164⟩ := X162.leave (v := some (vI 1)) (fun h => by rw [Bd.returns] at h; cases h)
  refine ⟨_, _, pre0 _ (P163 _ ?_), hrun164, hended164, _, _, rfl, ?_, ⟨⟨_, rfl⟩, hW164, hsame164.mono (oB rfl) (oB rfl)⟩⟩
  · show Sq p e below (T162.setTop (mkF m 10 #[sR s1] [(vI 1)])) _
    refine XS.goto X162.here hx rfl (pc0 := 10) (pc' := 14) rfl (hb hby dj42_152_10) (by decide) (by decide) ?_
    exact retN X162 hx (t := .byte) Bd.returns (by simp) (hb hby dj42_152_14) hr164
  · show Q_scotrue  h0 n0 _ T162.heap _
    rw [e162]
    exact ⟨rfl, N0, rfl⟩
theorem dj42_54_0 : decode j42_54 0 = .ok (.aload_n 0, 1) := by decide +kernel
theorem dj42_54_1 : decode j42_54 1 = .ok (.getfield 9, 3) := by decide +kernel
theorem dj42_54_4 : decode j42_54 4 = .ok (.arraylength, 1) := by decide +kernel
theorem dj42_54_5 : decode j42_54 5 = .ok (.aload_n 0, 1) := by decide +kernel
theorem dj42_54_6 : decode j42_54 6 = .ok (.invokevirtual 335, 3) := by decide +kernel
theorem pd10 : parseMethodDescriptor "()B" = some ⟨[], some .byte⟩ := by decide +kernel
theorem dj42_54_9 : decode j42_54 9 = .ok (.ishr, 1) := by decide +kernel
theorem dj42_54_10 : decode j42_54 10 = .ok (.ireturn, 1) := by decide +kernel
theorem ef_slefalse (m : MethodId) (x0 : Addr) : entryFrame m #[(.ref x0)] 1 = mkF m 0 #[sR x0] [] := by (first | (simp [entryFrame, mkF, argsToLocals, Value.category]; done) | rfl)
def Q_slefalse (cs : List Int32) (h0 : Heap) (n0 : Nat) (v : Option Value) (h : Heap) (L : List Loc) : Prop := v = some (.int (Int32.ofNat cs.length)) ∧ Fr n0 L ∧ h = h0
theorem rm_slefalse (l : Launch) (Z : State) (a0 : Array Value) (hw : Tb a0 Z) (ws : List Jvm.Cond) (s1 t1 : Addr) (kt : ClassId) (N : Int32) (cs : List Int32) (G1 : Int32) (G2 : Value) (h0 : Heap) (n0 : Nat) (Z0 : n0 ≤ h0.size) (E_s1 : Exa Z h0 s1 nS) (V_s1 : Fld Z h0 s1 nS "value" "[B" (.ref t1)) (C_s1 : Fld Z h0 s1 nS "coder" "B" (vI 0)) (A_s1 : Arv Z h0 t1 kt .byte N ((own_by false cs).map Value.int) (vI 0)) (N_s1 : N = Int32.ofNat (own_by false cs).length) (hc6 : cs.length ≤ 6) (Sg : oSg Z G1) (P5 : ¬ (G1 = (0 : Int32))) (Sf : oSf Z G2) (hG2 : G2.isRef = true) (Sa : oSa Z) (Sh : oSh Z) (Sl : oSl Z) (Ol : Old Z n0 h0) :
    MF l Z h0 y_14 j42_54 1 (some .int) ws (rM 1 0 0 13) #[(.ref s1)] (Q_slefalse cs h0 n0) := by
  refine MetFree.of_bodySF (plainFor_of_name pn_java_lang_String) hisR ?_
  intro p e s m args below meth c s₁ Bd hml hP hK
  obtain ⟨rfl, hZ, hh⟩ := hP
  have hx := Bd.exec
  have hby := Bd.bytes
  have hown : s.vm.findClass "java/lang/String" = some m.cls := findClass_of_methodNamed Bd.named
  have X0 : Stand p l e (rM 1 0 0 13) s m #[(.ref s1)] below meth c s₁ [] 0 0 := Stand.of_body Bd
  have e0 : s₁.heap = h0 := by rw [← hh, Bd.state]; rfl
  have N0 := Fr.nil n0
  obtain ⟨B0, pre0, P0⟩ : ∃ B, Rg p e below B (s₁.setTop (entryFrame m #[(.ref s1)] 1)) ∧ Rg p e below (s₁.setTop (mkF m 0 #[sR s1] [])) B := ⟨_, fun t k => castTop (ef_slefalse m s1) k, fun t k => k⟩
  obtain ⟨T165, X165, e165, st165⟩ := getF X0 hx hZ hown (host := "") (Or.inl (oH hw 34 rfl)) Via.refl e0 V_s1 (g := (mkF m 1 #[sR s1] [(.ref s1)])) rfl rfl (hb hby dj42_54_1)
  have P166 : Rg p e below (T165.setTop (mkF m 4 #[sR s1] [(.ref t1)])) B0 := fun t k => P0 t (by
    refine XS.aloadN X0.here hx rfl (hb hby dj42_54_0) rfl rfl ?_
    exact st165 _ k)
  obtain ⟨cl167, Ar167, -, S167, N167, -, -⟩ := id A_s1
  obtain ⟨cq168, kq168, q168a, q168b, q168c⟩ := isOf hZ e165 E_s1
  obtain ⟨_, _, ⟨T168, L168, k168, n168⟩, -, X168, ⟨Lc168, hQ168, l168, y168, z168⟩, st168⟩ := X165.virtualBack hx (y := y_13) (z := y_13) hown (mvT hZ (oH hw 93 rfl)) (mvT hZ (oH hw 94 rfl)) (notFace_of_selects (args := #[]) (mvT hZ (oH hw 96 rfl))) (mvT hZ (oH hw 96 rfl)) (mvT hZ (oH hw 95 rfl)) (by decide) (backOf (W := 1) (rm_scofalse l Z a0 hw [] s1 G1 G2 h0 n0 Z0 C_s1 Sg P5 Sf hG2 Sa Sh Sl Ol) hZ (oH hw 97 rfl) (oH hw 8 rfl) (by decide) (by decide)) q168a q168c (g := (mkF m 6 #[sR s1] [(.ref s1), (.int N)])) rfl (by rw [hml]; rfl) (Steps.refl _) (argsL := []) (rest := [(.int N)]) (lenOf pd10 rfl) rfl (oW rfl) (hb hby dj42_54_6) (fun _ _ => ⟨rfl, e165, (oB rfl : 0 + 0 ≤ _), (oB rfl : 0 + 0 ≤ _)⟩)
  dsimp only [Pt.U, Pt.locs, Pt.cells, Pt.slots] at X168 l168 y168 z168 st168 hQ168
  subst l168 y168 z168
  obtain ⟨rfl, Nq168, e168⟩ := hQ168
  have N169 := Fr.app N0 Nq168
  have P170 : Rg p e below (T168.setTop (mkF m 9 #[sR s1] [(vI 0), (.int N)])) B0 := fun t k => P166 t (by
    refine X165.arraylength hx (by rw [e165]; exact Ar167.1) (State.isArrayOf_alike hZ.alike Ar167.2.1) (g := (mkF m 4 #[sR s1] [(.ref t1)])) rfl rfl (hb hby dj42_54_4) _ ?_
    rw [len_of S167 N167]
    show Sq p e below (T165.setTop (mkF m 5 #[sR s1] [(.int N)])) _
    refine XS.aloadN X165.here hx rfl (hb hby dj42_54_5) rfl rfl ?_
    exact st168.trans k)
  obtain ⟨fs171, hr171, hrun171, hended171, hW171, hsame171⟩ := X168.leave (v := some (.int (N >>> ((0 : Int32) &&& 31)))) (fun h => by rw [Bd.returns] at h; cases h)
  refine ⟨_, _, pre0 _ (P170 _ ?_), hrun171, hended171, _, _, rfl, ?_, ⟨⟨_, rfl⟩, hW171, hsame171.mono (oB rfl) (oB rfl)⟩⟩
  · show Sq p e below (T168.setTop (mkF m 9 #[sR s1] [(vI 0), (.int N)])) _
    refine XS.ishr X168.here hx rfl (hb hby dj42_54_9) rfl ?_
    exact retI X168 hx Bd.returns (hb hby dj42_54_10) hr171
  · show Q_slefalse cs h0 n0 _ T168.heap _
    rw [e168]
    exact ⟨congrArg (fun z => some (Value.int z)) (own_lenL N_s1 hc6), N169, rfl⟩
theorem ef_sletrue (m : MethodId) (x0 : Addr) : entryFrame m #[(.ref x0)] 1 = mkF m 0 #[sR x0] [] := by (first | (simp [entryFrame, mkF, argsToLocals, Value.category]; done) | rfl)
def Q_sletrue (cs : List Int32) (h0 : Heap) (n0 : Nat) (v : Option Value) (h : Heap) (L : List Loc) : Prop := v = some (.int (Int32.ofNat cs.length)) ∧ Fr n0 L ∧ h = h0
theorem rm_sletrue (l : Launch) (Z : State) (a0 : Array Value) (hw : Tb a0 Z) (ws : List Jvm.Cond) (s1 t1 : Addr) (kt : ClassId) (N : Int32) (cs : List Int32) (G1 : Int32) (G2 : Value) (h0 : Heap) (n0 : Nat) (Z0 : n0 ≤ h0.size) (E_s1 : Exa Z h0 s1 nS) (V_s1 : Fld Z h0 s1 nS "value" "[B" (.ref t1)) (C_s1 : Fld Z h0 s1 nS "coder" "B" (vI 1)) (A_s1 : Arv Z h0 t1 kt .byte N ((own_by true cs).map Value.int) (vI 0)) (N_s1 : N = Int32.ofNat (own_by true cs).length) (hc6 : cs.length ≤ 6) (Sg : oSg Z G1) (P5 : ¬ (G1 = (0 : Int32))) (Sf : oSf Z G2) (hG2 : G2.isRef = true) (Sa : oSa Z) (Sh : oSh Z) (Sl : oSl Z) (Ol : Old Z n0 h0) :
    MF l Z h0 y_14 j42_54 1 (some .int) ws (rM 1 0 0 13) #[(.ref s1)] (Q_sletrue cs h0 n0) := by
  refine MetFree.of_bodySF (plainFor_of_name pn_java_lang_String) hisR ?_
  intro p e s m args below meth c s₁ Bd hml hP hK
  obtain ⟨rfl, hZ, hh⟩ := hP
  have hx := Bd.exec
  have hby := Bd.bytes
  have hown : s.vm.findClass "java/lang/String" = some m.cls := findClass_of_methodNamed Bd.named
  have X0 : Stand p l e (rM 1 0 0 13) s m #[(.ref s1)] below meth c s₁ [] 0 0 := Stand.of_body Bd
  have e0 : s₁.heap = h0 := by rw [← hh, Bd.state]; rfl
  have N0 := Fr.nil n0
  obtain ⟨B0, pre0, P0⟩ : ∃ B, Rg p e below B (s₁.setTop (entryFrame m #[(.ref s1)] 1)) ∧ Rg p e below (s₁.setTop (mkF m 0 #[sR s1] [])) B := ⟨_, fun t k => castTop (ef_sletrue m s1) k, fun t k => k⟩
  obtain ⟨T172, X172, e172, st172⟩ := getF X0 hx hZ hown (host := "") (Or.inl (oH hw 34 rfl)) Via.refl e0 V_s1 (g := (mkF m 1 #[sR s1] [(.ref s1)])) rfl rfl (hb hby dj42_54_1)
  have P173 : Rg p e below (T172.setTop (mkF m 4 #[sR s1] [(.ref t1)])) B0 := fun t k => P0 t (by
    refine XS.aloadN X0.here hx rfl (hb hby dj42_54_0) rfl rfl ?_
    exact st172 _ k)
  obtain ⟨cl174, Ar174, -, S174, N174, -, -⟩ := id A_s1
  obtain ⟨cq175, kq175, q175a, q175b, q175c⟩ := isOf hZ e172 E_s1
  obtain ⟨_, _, ⟨T175, L175, k175, n175⟩, -, X175, ⟨Lc175, hQ175, l175, y175, z175⟩, st175⟩ := X172.virtualBack hx (y := y_13) (z := y_13) hown (mvT hZ (oH hw 93 rfl)) (mvT hZ (oH hw 94 rfl)) (notFace_of_selects (args := #[]) (mvT hZ (oH hw 96 rfl))) (mvT hZ (oH hw 96 rfl)) (mvT hZ (oH hw 95 rfl)) (by decide) (backOf (W := 1) (rm_scotrue l Z a0 hw [] s1 G1 G2 h0 n0 Z0 C_s1 Sg P5 Sf hG2 Sa Sh Sl Ol) hZ (oH hw 97 rfl) (oH hw 8 rfl) (by decide) (by decide)) q175a q175c (g := (mkF m 6 #[sR s1] [(.ref s1), (.int N)])) rfl (by rw [hml]; rfl) (Steps.refl _) (argsL := []) (rest := [(.int N)]) (lenOf pd10 rfl) rfl (oW rfl) (hb hby dj42_54_6) (fun _ _ => ⟨rfl, e172, (oB rfl : 0 + 0 ≤ _), (oB rfl : 0 + 0 ≤ _)⟩)
  dsimp only [Pt.U, Pt.locs, Pt.cells, Pt.slots] at X175 l175 y175 z175 st175 hQ175
  subst l175 y175 z175
  obtain ⟨rfl, Nq175, e175⟩ := hQ175
  have N176 := Fr.app N0 Nq175
  have P177 : Rg p e below (T175.setTop (mkF m 9 #[sR s1] [(vI 1), (.int N)])) B0 := fun t k => P173 t (by
    refine X172.arraylength hx (by rw [e172]; exact Ar174.1) (State.isArrayOf_alike hZ.alike Ar174.2.1) (g := (mkF m 4 #[sR s1] [(.ref t1)])) rfl rfl (hb hby dj42_54_4) _ ?_
    rw [len_of S174 N174]
    show Sq p e below (T172.setTop (mkF m 5 #[sR s1] [(.int N)])) _
    refine XS.aloadN X172.here hx rfl (hb hby dj42_54_5) rfl rfl ?_
    exact st175.trans k)
  obtain ⟨fs178, hr178, hrun178, hended178, hW178, hsame178⟩ := X175.leave (v := some (.int (N >>> ((1 : Int32) &&& 31)))) (fun h => by rw [Bd.returns] at h; cases h)
  refine ⟨_, _, pre0 _ (P177 _ ?_), hrun178, hended178, _, _, rfl, ?_, ⟨⟨_, rfl⟩, hW178, hsame178.mono (oB rfl) (oB rfl)⟩⟩
  · show Sq p e below (T175.setTop (mkF m 9 #[sR s1] [(vI 1), (.int N)])) _
    refine XS.ishr X175.here hx rfl (hb hby dj42_54_9) rfl ?_
    exact retI X175 hx Bd.returns (hb hby dj42_54_10) hr178
  · show Q_sletrue cs h0 n0 _ T175.heap _
    rw [e175]
    exact ⟨congrArg (fun z => some (Value.int z)) (own_lenU N_s1 hc6), N176, rfl⟩
theorem dj42_154_0 : decode j42_154 0 = .ok (.getstatic 38, 3) := by decide +kernel
theorem dj42_154_3 : decode j42_154 3 = .ok (.ifCond .eq 14, 3) := by decide +kernel
theorem dj42_154_6 : decode j42_154 6 = .ok (.aload_n 0, 1) := by decide +kernel
theorem dj42_154_7 : decode j42_154 7 = .ok (.getfield 15, 3) := by decide +kernel
theorem dj42_154_10 : decode j42_154 10 = .ok (.ifCond .ne 7, 3) := by decide +kernel
theorem dj42_154_13 : decode j42_154 13 = .ok (.iconst 1, 1) := by decide +kernel
theorem dj42_154_14 : decode j42_154 14 = .ok (.goto 4, 3) := by decide +kernel
theorem dj42_154_18 : decode j42_154 18 = .ok (.ireturn, 1) := by decide +kernel
theorem ef_silfalse (m : MethodId) (x0 : Addr) : entryFrame m #[(.ref x0)] 1 = mkF m 0 #[sR x0] [] := by (first | (simp [entryFrame, mkF, argsToLocals, Value.category]; done) | rfl)
def Q_silfalse  (h0 : Heap) (n0 : Nat) (v : Option Value) (h : Heap) (L : List Loc) : Prop := v = some (vI 1) ∧ Fr n0 L ∧ h = h0
theorem rm_silfalse (l : Launch) (Z : State) (a0 : Array Value) (hw : Tb a0 Z) (ws : List Jvm.Cond) (s1 : Addr) (G1 : Int32) (G2 : Value) (h0 : Heap) (n0 : Nat) (Z0 : n0 ≤ h0.size) (C_s1 : Fld Z h0 s1 nS "coder" "B" (vI 0)) (Sg : oSg Z G1) (P5 : ¬ (G1 = (0 : Int32))) (Sf : oSf Z G2) (hG2 : G2.isRef = true) (Sa : oSa Z) (Sh : oSh Z) (Sl : oSl Z) (Ol : Old Z n0 h0) :
    MF l Z h0 y_15 j42_154 1 (some .boolean) ws (rM 0 0 0 0) #[(.ref s1)] (Q_silfalse  h0 n0) := by
  refine MetFree.of_bodySF (plainFor_of_name pn_java_lang_String) hisR ?_
  intro p e s m args below meth c s₁ Bd hml hP hK
  obtain ⟨rfl, hZ, hh⟩ := hP
  have hx := Bd.exec
  have hby := Bd.bytes
  have hown : s.vm.findClass "java/lang/String" = some m.cls := findClass_of_methodNamed Bd.named
  have X0 : Stand p l e (rM 0 0 0 0) s m #[(.ref s1)] below meth c s₁ [] 0 0 := Stand.of_body Bd
  have e0 : s₁.heap = h0 := by rw [← hh, Bd.state]; rfl
  have N0 := Fr.nil n0
  obtain ⟨B0, pre0, P0⟩ : ∃ B, Rg p e below B (s₁.setTop (entryFrame m #[(.ref s1)] 1)) ∧ Rg p e below (s₁.setTop (mkF m 0 #[sR s1] [])) B := ⟨_, fun t k => castTop (ef_silfalse m s1) k, fun t k => k⟩
  obtain ⟨T179, X179, e179, st179⟩ := getS2 X0 hx hZ hown (host := "") (Or.inl (oH hw 20 rfl)) Via.refl e0 (Sg.ext Ol.2) (g := (mkF m 0 #[sR s1] [])) rfl (hb hby dj42_154_0)
  have P180 : Rg p e below (T179.setTop (mkF m 3 #[sR s1] [(.int G1)])) B0 := fun t k => P0 t (by
    exact st179 _ k)
  obtain ⟨T181, X181, e181, st181⟩ := getF X179 hx hZ hown (host := "") (Or.inl (oH hw 32 rfl)) Via.refl e179 C_s1 (g := (mkF m 7 #[sR s1] [(.ref s1)])) rfl rfl (hb hby dj42_154_7)
  have P182 : Rg p e below (T181.setTop (mkF m 10 #[sR s1] [(vI 0)])) B0 := fun t k => P180 t (by
    refine XS.ifNo X179.here hx rfl (hb hby dj42_154_3) rfl ((if0 _ _).trans (feq (show ¬ (G1 = (0 : Int32)) from P5)).1) ?_
    refine XS.aloadN X179.here hx rfl (hb hby dj42_154_6) rfl rfl ?_
    exact st181 _ k)
  obtain ⟨fs183, hr183, hrun183, hended183, hW183, hsame183⟩ := X181.leave (v := some (vI 1)) (fun h => by rw [Bd.returns] at h; cases h)
  refine ⟨_, _, pre0 _ (P182 _ ?_), hrun183, hended183, _, _, rfl, ?_, ⟨⟨_, rfl⟩, hW183, hsame183.mono (oB rfl) (oB rfl)⟩⟩
  · show Sq p e below (T181.setTop (mkF m 10 #[sR s1] [(vI 0)])) _
    refine XS.ifNo X181.here hx rfl (hb hby dj42_154_10) rfl ((if0 _ _).trans (teq (show (0 : Int32) = (0 : Int32) from (by decide))).2) ?_
    refine XS.iconst X181.here hx rfl (hb hby dj42_154_13) ?_
    refine XS.goto X181.here hx rfl (pc0 := 14) (pc' := 18) rfl (hb hby dj42_154_14) (by decide) (by decide) ?_
    exact retN X181 hx (t := .boolean) Bd.returns (by simp) (hb hby dj42_154_18) hr183
  · show Q_silfalse  h0 n0 _ T181.heap _
    rw [e181]
    exact ⟨rfl, N0, rfl⟩
theorem dj42_154_17 : decode j42_154 17 = .ok (.iconst 0, 1) := by decide +kernel
theorem ef_siltrue (m : MethodId) (x0 : Addr) : entryFrame m #[(.ref x0)] 1 = mkF m 0 #[sR x0] [] := by (first | (simp [entryFrame, mkF, argsToLocals, Value.category]; done) | rfl)
def Q_siltrue  (h0 : Heap) (n0 : Nat) (v : Option Value) (h : Heap) (L : List Loc) : Prop := v = some (vI 0) ∧ Fr n0 L ∧ h = h0
theorem rm_siltrue (l : Launch) (Z : State) (a0 : Array Value) (hw : Tb a0 Z) (ws : List Jvm.Cond) (s1 : Addr) (G1 : Int32) (G2 : Value) (h0 : Heap) (n0 : Nat) (Z0 : n0 ≤ h0.size) (C_s1 : Fld Z h0 s1 nS "coder" "B" (vI 1)) (Sg : oSg Z G1) (P5 : ¬ (G1 = (0 : Int32))) (Sf : oSf Z G2) (hG2 : G2.isRef = true) (Sa : oSa Z) (Sh : oSh Z) (Sl : oSl Z) (Ol : Old Z n0 h0) :
    MF l Z h0 y_15 j42_154 1 (some .boolean) ws (rM 0 0 0 0) #[(.ref s1)] (Q_siltrue  h0 n0) := by
  refine MetFree.of_bodySF (plainFor_of_name pn_java_lang_String) hisR ?_
  intro p e s m args below meth c s₁ Bd hml hP hK
  obtain ⟨rfl, hZ, hh⟩ := hP
  have hx := Bd.exec
  have hby := Bd.bytes
  have hown : s.vm.findClass "java/lang/String" = some m.cls := findClass_of_methodNamed Bd.named
  have X0 : Stand p l e (rM 0 0 0 0) s m #[(.ref s1)] below meth c s₁ [] 0 0 := Stand.of_body Bd
  have e0 : s₁.heap = h0 := by rw [← hh, Bd.state]; rfl
  have N0 := Fr.nil n0
  obtain ⟨B0, pre0, P0⟩ : ∃ B, Rg p e below B (s₁.setTop (entryFrame m #[(.ref s1)] 1)) ∧ Rg p e below (s₁.setTop (mkF m 0 #[sR s1] [])) B := ⟨_, fun t k => castTop (ef_siltrue m s1) k, fun t k => k⟩
  obtain ⟨T184, X184, e184, st184⟩ := getS2 X0 hx hZ hown (host := "") (Or.inl (oH hw 20 rfl)) Via.refl e0 (Sg.ext Ol.2) (g := (mkF m 0 #[sR s1] [])) rfl (hb hby dj42_154_0)
  have P185 : Rg p e below (T184.setTop (mkF m 3 #[sR s1] [(.int G1)])) B0 := fun t k => P0 t (by
    exact st184 _ k)
  obtain ⟨T186, X186, e186, st186⟩ := getF X184 hx hZ hown (host := "") (Or.inl (oH hw 32 rfl)) Via.refl e184 C_s1 (g := (mkF m 7 #[sR s1] [(.ref s1)])) rfl rfl (hb hby dj42_154_7)
  have P187 : Rg p e below (T186.setTop (mkF m 10 #[sR s1] [(vI 1)])) B0 := fun t k => P185 t (by
    refine XS.ifNo X184.here hx rfl (hb hby dj42_154_3) rfl ((if0 _ _).trans (feq (show ¬ (G1 = (0 : Int32)) from P5)).1) ?_
    refine XS.aloadN X184.here hx rfl (hb hby dj42_154_6) rfl rfl ?_
    exact st186 _ k)
  obtain ⟨fs188, hr188, hrun188, hended188, hW188, hsame188⟩ := X186.leave (v := some (vI 0)) (fun h => by rw [Bd.returns] at h; cases h)
  refine ⟨_, _, pre0 _ (P187 _ ?_), hrun188, hended188, _, _, rfl, ?_, ⟨⟨_, rfl⟩, hW188, hsame188.mono (oB rfl) (oB rfl)⟩⟩
  · show Sq p e below (T186.setTop (mkF m 10 #[sR s1] [(vI 1)])) _
    refine XS.ifYes X186.here hx rfl (pc0 := 10) (pc' := 17) rfl (hb hby dj42_154_10) rfl ((if0 _ _).trans (feq (show ¬ ((1 : Int32) = (0 : Int32)) from (by decide))).2) (by decide) (by decide) ?_
    refine XS.iconst X186.here hx rfl (hb hby dj42_154_17) ?_
    exact retN X186 hx (t := .boolean) Bd.returns (by simp) (hb hby dj42_154_18) hr188
  · show Q_siltrue  h0 n0 _ T186.heap _
    rw [e186]
    exact ⟨rfl, N0, rfl⟩
theorem dj42_147_0 : decode j42_147 0 = .ok (.aload_n 0, 1) := by decide +kernel
theorem dj42_147_1 : decode j42_147 1 = .ok (.invokevirtual 335, 3) := by decide +kernel
theorem dj42_147_4 : decode j42_147 4 = .ok (.iload_n 3, 1) := by decide +kernel
theorem dj42_147_5 : decode j42_147 5 = .ok (.if_icmp .ne 23, 3) := by decide +kernel
theorem dj42_147_8 : decode j42_147 8 = .ok (.aload_n 0, 1) := by decide +kernel
theorem dj42_147_9 : decode j42_147 9 = .ok (.getfield 9, 3) := by decide +kernel
theorem dj42_147_12 : decode j42_147 12 = .ok (.iconst 0, 1) := by decide +kernel
theorem dj42_147_13 : decode j42_147 13 = .ok (.aload_n 1, 1) := by decide +kernel
theorem dj42_147_14 : decode j42_147 14 = .ok (.iload_n 2, 1) := by decide +kernel
theorem dj42_147_15 : decode j42_147 15 = .ok (.iload_n 3, 1) := by decide +kernel
theorem dj42_147_16 : decode j42_147 16 = .ok (.ishl, 1) := by decide +kernel
theorem dj42_147_17 : decode j42_147 17 = .ok (.aload_n 0, 1) := by decide +kernel
theorem dj42_147_18 : decode j42_147 18 = .ok (.getfield 9, 3) := by decide +kernel
theorem dj42_147_21 : decode j42_147 21 = .ok (.arraylength, 1) := by decide +kernel
theorem dj42_147_22 : decode j42_147 22 = .ok (.invokestatic 212, 3) := by decide +kernel
theorem dj42_147_25 : decode j42_147 25 = .ok (.goto 18, 3) := by decide +kernel
theorem dj42_147_43 : decode j42_147 43 = .ok (.return_, 1) := by decide +kernel
theorem ef_gby00 (m : MethodId) (x0 : Addr) (x1 : Addr) (x2 : Int32) (x3 : Int32) : entryFrame m #[(.ref x0), (.ref x1), (.int x2), (.int x3)] 4 = mkF m 0 #[sR x0, sR x1, sI x2, sI x3] [] := by (first | (simp [entryFrame, mkF, argsToLocals, Value.category]; done) | rfl)
def Q_gby00 (Z : State) (v1 : Addr) (kv : ClassId) (bc cs : List Int32) (h0 : Heap) (n0 : Nat) (v : Option Value) (h : Heap) (L : List Loc) : Prop := v = none ∧ Fr n0 L ∧ Keep h0 h [v1] ∧ Arv Z h v1 kv .byte (16 : Int32) ((own_by false (bc ++ cs)).map Value.int) (vI 0)
theorem rm_gby00 (l : Launch) (Z : State) (a0 : Array Value) (hw : Tb a0 Z) (ws : List Jvm.Cond) (s1 t1 : Addr) (kt : ClassId) (N : Int32) (cs : List Int32) (v1 : Addr) (kv : ClassId) (bc : List Int32) (G1 : Int32) (G2 : Value) (h0 : Heap) (n0 : Nat) (Z0 : n0 ≤ h0.size) (E_s1 : Exa Z h0 s1 nS) (V_s1 : Fld Z h0 s1 nS "value" "[B" (.ref t1)) (C_s1 : Fld Z h0 s1 nS "coder" "B" (vI 0)) (A_s1 : Arv Z h0 t1 kt .byte N ((own_by false cs).map Value.int) (vI 0)) (N_s1 : N = Int32.ofNat (own_by false cs).length) (hc2 : cs.length ≤ 2) (hb4 : bc.length ≤ 4) (g_v1 : n0 ≤ v1) (A_v1 : Arv Z h0 v1 kv .byte (16 : Int32) ((own_by false bc).map Value.int) (vI 0)) (nTV : t1 ≠ v1) (Sg : oSg Z G1) (P5 : ¬ (G1 = (0 : Int32))) (Sf : oSf Z G2) (hG2 : G2.isRef = true) (Sa : oSa Z) (Sh : oSh Z) (Sl : oSl Z) (Ol : Old Z n0 h0) :
    MF l Z h0 y_16 j42_147 4 none ws (rM 1 0 0 18) #[(.ref s1), (.ref v1), (.int (Int32.ofNat bc.length)), (vI 0)] (Q_gby00 Z v1 kv bc cs h0 n0) := by
  refine MetFree.of_bodySF (plainFor_of_name pn_java_lang_String) hisR ?_
  intro p e s m args below meth c s₁ Bd hml hP hK
  obtain ⟨rfl, hZ, hh⟩ := hP
  have hx := Bd.exec
  have hby := Bd.bytes
  have hown : s.vm.findClass "java/lang/String" = some m.cls := findClass_of_methodNamed Bd.named
  have X0 : Stand p l e (rM 1 0 0 18) s m #[(.ref s1), (.ref v1), (.int (Int32.ofNat bc.length)), (vI 0)] below meth c s₁ [] 0 0 := Stand.of_body Bd
  have e0 : s₁.heap = h0 := by rw [← hh, Bd.state]; rfl
  have N0 := Fr.nil n0
  obtain ⟨B0, pre0, P0⟩ : ∃ B, Rg p e below B (s₁.setTop (entryFrame m #[(.ref s1), (.ref v1), (.int (Int32.ofNat bc.length)), (vI 0)] 4)) ∧ Rg p e below (s₁.setTop (mkF m 0 #[sR s1, sR v1, .val (.int (Int32.ofNat bc.length)), sI 0] [])) B := ⟨_, fun t k => castTop (ef_gby00 m s1 v1 (Int32.ofNat bc.length) (0 : Int32)) k, fun t k => k⟩
  obtain ⟨cq189, kq189, q189a, q189b, q189c⟩ := isOf hZ e0 E_s1
  obtain ⟨_, _, ⟨T189, L189, k189, n189⟩, -, X189, ⟨Lc189, hQ189, l189, y189, z189⟩, st189⟩ := X0.virtualBack hx (y := y_13) (z := y_13) hown (mvT hZ (oH hw 93 rfl)) (mvT hZ (oH hw 94 rfl)) (notFace_of_selects (args := #[]) (mvT hZ (oH hw 96 rfl))) (mvT hZ (oH hw 96 rfl)) (mvT hZ (oH hw 95 rfl)) (by decide) (backOf (W := 0) (rm_scofalse l Z a0 hw [] s1 G1 G2 h0 n0 Z0 C_s1 Sg P5 Sf hG2 Sa Sh Sl Ol) hZ (oH hw 97 rfl) (oH hw 8 rfl) (by decide) (by decide)) q189a q189c (g := (mkF m 1 #[sR s1, sR v1, .val (.int (Int32.ofNat bc.length)), sI 0] [(.ref s1)])) rfl (by rw [hml]; rfl) (Steps.refl _) (argsL := []) (rest := []) (lenOf pd10 rfl) rfl (oW rfl) (hb hby dj42_147_1) (fun _ _ => ⟨rfl, e0, (oB rfl : 0 + 0 ≤ _), (oB rfl : 0 + 0 ≤ _)⟩)
  dsimp only [Pt.U, Pt.locs, Pt.cells, Pt.slots] at X189 l189 y189 z189 st189 hQ189
  subst l189 y189 z189
  obtain ⟨rfl, Nq189, e189⟩ := hQ189
  have N190 := Fr.app N0 Nq189
  have P191 : Rg p e below (T189.setTop (mkF m 4 #[sR s1, sR v1, .val (.int (Int32.ofNat bc.length)), sI 0] [(vI 0)])) B0 := fun t k => P0 t (by
    refine XS.aloadN X0.here hx rfl (hb hby dj42_147_0) rfl rfl ?_
    exact st189.trans k)
  have L1 := own_byL cs
  have L2 := own_byL bc
  obtain ⟨T192, X192, e192, st192⟩ := getF X189 hx hZ hown (host := "") (Or.inl (oH hw 34 rfl)) Via.refl e189 V_s1 (g := (mkF m 9 #[sR s1, sR v1, .val (.int (Int32.ofNat bc.length)), sI 0] [(.ref s1)])) rfl rfl (hb hby dj42_147_9)
  have P193 : Rg p e below (T192.setTop (mkF m 12 #[sR s1, sR v1, .val (.int (Int32.ofNat bc.length)), sI 0] [(.ref t1)])) B0 := fun t k => P191 t (by
    refine XS.iloadN X189.here hx rfl (hb hby dj42_147_4) rfl ?_
    refine XS.icmpNo X189.here hx rfl (hb hby dj42_147_5) rfl (teq (show (0 : Int32) = (0 : Int32) from (by decide))).2 ?_
    refine XS.aloadN X189.here hx rfl (hb hby dj42_147_8) rfl rfl ?_
    exact st192 _ k)
  obtain ⟨T194, X194, e194, st194⟩ := getF X192 hx hZ hown (host := "") (Or.inl (oH hw 34 rfl)) Via.refl e192 V_s1 (g := (mkF m 18 #[sR s1, sR v1, .val (.int (Int32.ofNat bc.length)), sI 0] [(.ref s1), (.int ((Int32.ofNat bc.length) <<< ((0 : Int32) &&& 31))), (.ref v1), (vI 0), (.ref t1)])) rfl rfl (hb hby dj42_147_18)
  have P195 : Rg p e below (T194.setTop (mkF m 21 #[sR s1, sR v1, .val (.int (Int32.ofNat bc.length)), sI 0] [(.ref t1), (.int ((Int32.ofNat bc.length) <<< ((0 : Int32) &&& 31))), (.ref v1), (vI 0), (.ref t1)])) B0 := fun t k => P193 t (by
    refine XS.iconst X192.here hx rfl (hb hby dj42_147_12) ?_
    refine XS.aloadN X192.here hx rfl (hb hby dj42_147_13) rfl rfl ?_
    refine XS.iloadN X192.here hx rfl (hb hby dj42_147_14) rfl ?_
    refine XS.iloadN X192.here hx rfl (hb hby dj42_147_15) rfl ?_
    refine XS.ishl X192.here hx rfl (hb hby dj42_147_16) rfl ?_
    refine XS.aloadN X192.here hx rfl (hb hby dj42_147_17) rfl rfl ?_
    exact st194 _ k)
  obtain ⟨cl196, Ar196, -, S196, N196, -, -⟩ := id A_s1
  obtain ⟨T197, h197, L197, X197, e197, Nq197, K197, A197, st197⟩ := own_copy (W := 0) X194 hx hZ hown (oH hw 121 rfl) (oH hw 124 rfl) (oH hw 122 rfl) (oH hw 123 rfl) e194 (ss := (own_by false cs)) (ds := (own_by false bc)) A_s1 A_v1 N_s1 (by rw [own_shL (by omega), L2.1]) (by rw [own_clN N_s1 (by omega)]; omega) (by show _ ≤ 16; omega) (by omega) g_v1 (g := (mkF m 22 #[sR s1, sR v1, .val (.int (Int32.ofNat bc.length)), sI 0] [(.int N), (.int ((Int32.ofNat bc.length) <<< ((0 : Int32) &&& 31))), (.ref v1), (vI 0), (.ref t1)])) rfl (by rw [hml]; rfl) rfl (hb hby dj42_147_22) (by decide) (oW rfl) (by decide)
  have N198 := Fr.app N190 Nq197
  have P199 : Rg p e below (T197.setTop (mkF m 25 #[sR s1, sR v1, .val (.int (Int32.ofNat bc.length)), sI 0] [])) B0 := fun t k => P195 t (by
    refine X194.arraylength hx (by rw [e194]; exact Ar196.1) (State.isArrayOf_alike hZ.alike Ar196.2.1) (g := (mkF m 21 #[sR s1, sR v1, .val (.int (Int32.ofNat bc.length)), sI 0] [(.ref t1), (.int ((Int32.ofNat bc.length) <<< ((0 : Int32) &&& 31))), (.ref v1), (vI 0), (.ref t1)])) rfl rfl (hb hby dj42_147_21) _ ?_
    rw [len_of S196 N196]
    exact st197 _ k)
  have Z200 : n0 ≤ h197.size := Nat.le_trans Z0 K197.1
  have K201 : Keep h0 h197 [v1] := (Keep.refl h0 [v1]).trans K197 ((allS (Or.inl (List.mem_of_getElem? (i := 0) rfl)) all0))
  have O202 : Old Z n0 h197 := Ol.keep K197 (allS g_v1 all0)
  obtain ⟨fs203, hr203, hrun203, hended203, hW203, hsame203⟩ := X197.leave (v := none) (fun _ => rfl)
  refine ⟨_, _, pre0 _ (P199 _ ?_), hrun203, hended203, _, _, rfl, ?_, ⟨⟨_, rfl⟩, hW203, hsame203.mono (oB rfl) (oB rfl)⟩⟩
  · show Sq p e below (T197.setTop (mkF m 25 #[sR s1, sR v1, .val (.int (Int32.ofNat bc.length)), sI 0] [])) _
    refine XS.goto X197.here hx rfl (pc0 := 25) (pc' := 43) rfl (hb hby dj42_147_25) (by decide) (by decide) ?_
    exact X197.returnOut hx Bd.returns (hb hby dj42_147_43) hr203
  · show Q_gby00 Z v1 kv bc cs h0 n0 _ T197.heap _
    rw [e197]
    exact ⟨rfl, N198, K201, by rw [own_byA]; exact A197⟩
theorem ef_gby11 (m : MethodId) (x0 : Addr) (x1 : Addr) (x2 : Int32) (x3 : Int32) : entryFrame m #[(.ref x0), (.ref x1), (.int x2), (.int x3)] 4 = mkF m 0 #[sR x0, sR x1, sI x2, sI x3] [] := by (first | (simp [entryFrame, mkF, argsToLocals, Value.category]; done) | rfl)
def Q_gby11 (Z : State) (v1 : Addr) (kv : ClassId) (bc cs : List Int32) (h0 : Heap) (n0 : Nat) (v : Option Value) (h : Heap) (L : List Loc) : Prop := v = none ∧ Fr n0 L ∧ Keep h0 h [v1] ∧ Arv Z h v1 kv .byte (32 : Int32) ((own_by true (bc ++ cs)).map Value.int) (vI 0)
theorem rm_gby11 (l : Launch) (Z : State) (a0 : Array Value) (hw : Tb a0 Z) (ws : List Jvm.Cond) (s1 t1 : Addr) (kt : ClassId) (N : Int32) (cs : List Int32) (v1 : Addr) (kv : ClassId) (bc : List Int32) (G1 : Int32) (G2 : Value) (h0 : Heap) (n0 : Nat) (Z0 : n0 ≤ h0.size) (E_s1 : Exa Z h0 s1 nS) (V_s1 : Fld Z h0 s1 nS "value" "[B" (.ref t1)) (C_s1 : Fld Z h0 s1 nS "coder" "B" (vI 1)) (A_s1 : Arv Z h0 t1 kt .byte N ((own_by true cs).map Value.int) (vI 0)) (N_s1 : N = Int32.ofNat (own_by true cs).length) (hc2 : cs.length ≤ 2) (hb4 : bc.length ≤ 4) (g_v1 : n0 ≤ v1) (A_v1 : Arv Z h0 v1 kv .byte (32 : Int32) ((own_by true bc).map Value.int) (vI 0)) (nTV : t1 ≠ v1) (Sg : oSg Z G1) (P5 : ¬ (G1 = (0 : Int32))) (Sf : oSf Z G2) (hG2 : G2.isRef = true) (Sa : oSa Z) (Sh : oSh Z) (Sl : oSl Z) (Ol : Old Z n0 h0) :
    MF l Z h0 y_16 j42_147 4 none ws (rM 1 0 0 18) #[(.ref s1), (.ref v1), (.int (Int32.ofNat bc.length)), (vI 1)] (Q_gby11 Z v1 kv bc cs h0 n0) := by
  refine MetFree.of_bodySF (plainFor_of_name pn_java_lang_String) hisR ?_
  intro p e s m args below meth c s₁ Bd hml hP hK
  obtain ⟨rfl, hZ, hh⟩ := hP
  have hx := Bd.exec
  have hby := Bd.bytes
  have hown : s.vm.findClass "java/lang/String" = some m.cls := findClass_of_methodNamed Bd.named
  have X0 : Stand p l e (rM 1 0 0 18) s m #[(.ref s1), (.ref v1), (.int (Int32.ofNat bc.length)), (vI 1)] below meth c s₁ [] 0 0 := Stand.of_body Bd
  have e0 : s₁.heap = h0 := by rw [← hh, Bd.state]; rfl
  have N0 := Fr.nil n0
  obtain ⟨B0, pre0, P0⟩ : ∃ B, Rg p e below B (s₁.setTop (entryFrame m #[(.ref s1), (.ref v1), (.int (Int32.ofNat bc.length)), (vI 1)] 4)) ∧ Rg p e below (s₁.setTop (mkF m 0 #[sR s1, sR v1, .val (.int (Int32.ofNat bc.length)), sI 1] [])) B := ⟨_, fun t k => castTop (ef_gby11 m s1 v1 (Int32.ofNat bc.length) (1 : Int32)) k, fun t k => k⟩
  obtain ⟨cq204, kq204, q204a, q204b, q204c⟩ := isOf hZ e0 E_s1
  obtain ⟨_, _, ⟨T204, L204, k204, n204⟩, -, X204, ⟨Lc204, hQ204, l204, y204, z204⟩, st204⟩ := X0.virtualBack hx (y := y_13) (z := y_13) hown (mvT hZ (oH hw 93 rfl)) (mvT hZ (oH hw 94 rfl)) (notFace_of_selects (args := #[]) (mvT hZ (oH hw 96 rfl))) (mvT hZ (oH hw 96 rfl)) (mvT hZ (oH hw 95 rfl)) (by decide) (backOf (W := 0) (rm_scotrue l Z a0 hw [] s1 G1 G2 h0 n0 Z0 C_s1 Sg P5 Sf hG2 Sa Sh Sl Ol) hZ (oH hw 97 rfl) (oH hw 8 rfl) (by decide) (by decide)) q204a q204c (g := (mkF m 1 #[sR s1, sR v1, .val (.int (Int32.ofNat bc.length)), sI 1] [(.ref s1)])) rfl (by rw [hml]; rfl) (Steps.refl _) (argsL := []) (rest := []) (lenOf pd10 rfl) rfl (oW rfl) (hb hby dj42_147_1) (fun _ _ => ⟨rfl, e0, (oB rfl : 0 + 0 ≤ _), (oB rfl : 0 + 0 ≤ _)⟩)
  dsimp only [Pt.U, Pt.locs, Pt.cells, Pt.slots] at X204 l204 y204 z204 st204 hQ204
  subst l204 y204 z204
  obtain ⟨rfl, Nq204, e204⟩ := hQ204
  have N205 := Fr.app N0 Nq204
  have P206 : Rg p e below (T204.setTop (mkF m 4 #[sR s1, sR v1, .val (.int (Int32.ofNat bc.length)), sI 1] [(vI 1)])) B0 := fun t k => P0 t (by
    refine XS.aloadN X0.here hx rfl (hb hby dj42_147_0) rfl rfl ?_
    exact st204.trans k)
  have L1 := own_byL cs
  have L2 := own_byL bc
  obtain ⟨T207, X207, e207, st207⟩ := getF X204 hx hZ hown (host := "") (Or.inl (oH hw 34 rfl)) Via.refl e204 V_s1 (g := (mkF m 9 #[sR s1, sR v1, .val (.int (Int32.ofNat bc.length)), sI 1] [(.ref s1)])) rfl rfl (hb hby dj42_147_9)
  have P208 : Rg p e below (T207.setTop (mkF m 12 #[sR s1, sR v1, .val (.int (Int32.ofNat bc.length)), sI 1] [(.ref t1)])) B0 := fun t k => P206 t (by
    refine XS.iloadN X204.here hx rfl (hb hby dj42_147_4) rfl ?_
    refine XS.icmpNo X204.here hx rfl (hb hby dj42_147_5) rfl (teq (show (1 : Int32) = (1 : Int32) from (by decide))).2 ?_
    refine XS.aloadN X204.here hx rfl (hb hby dj42_147_8) rfl rfl ?_
    exact st207 _ k)
  obtain ⟨T209, X209, e209, st209⟩ := getF X207 hx hZ hown (host := "") (Or.inl (oH hw 34 rfl)) Via.refl e207 V_s1 (g := (mkF m 18 #[sR s1, sR v1, .val (.int (Int32.ofNat bc.length)), sI 1] [(.ref s1), (.int ((Int32.ofNat bc.length) <<< ((1 : Int32) &&& 31))), (.ref v1), (vI 0), (.ref t1)])) rfl rfl (hb hby dj42_147_18)
  have P210 : Rg p e below (T209.setTop (mkF m 21 #[sR s1, sR v1, .val (.int (Int32.ofNat bc.length)), sI 1] [(.ref t1), (.int ((Int32.ofNat bc.length) <<< ((1 : Int32) &&& 31))), (.ref v1), (vI 0), (.ref t1)])) B0 := fun t k => P208 t (by
    refine XS.iconst X207.here hx rfl (hb hby dj42_147_12) ?_
    refine XS.aloadN X207.here hx rfl (hb hby dj42_147_13) rfl rfl ?_
    refine XS.iloadN X207.here hx rfl (hb hby dj42_147_14) rfl ?_
    refine XS.iloadN X207.here hx rfl (hb hby dj42_147_15) rfl ?_
    refine XS.ishl X207.here hx rfl (hb hby dj42_147_16) rfl ?_
    refine XS.aloadN X207.here hx rfl (hb hby dj42_147_17) rfl rfl ?_
    exact st209 _ k)
  obtain ⟨cl211, Ar211, -, S211, N211, -, -⟩ := id A_s1
  obtain ⟨T212, h212, L212, X212, e212, Nq212, K212, A212, st212⟩ := own_copy (W := 0) X209 hx hZ hown (oH hw 121 rfl) (oH hw 124 rfl) (oH hw 122 rfl) (oH hw 123 rfl) e209 (ss := (own_by true cs)) (ds := (own_by true bc)) A_s1 A_v1 N_s1 (by rw [own_shU (by omega), L2.2]) (by rw [own_clN N_s1 (by omega)]; omega) (by show _ ≤ 32; omega) (by omega) g_v1 (g := (mkF m 22 #[sR s1, sR v1, .val (.int (Int32.ofNat bc.length)), sI 1] [(.int N), (.int ((Int32.ofNat bc.length) <<< ((1 : Int32) &&& 31))), (.ref v1), (vI 0), (.ref t1)])) rfl (by rw [hml]; rfl) rfl (hb hby dj42_147_22) (by decide) (oW rfl) (by decide)
  have N213 := Fr.app N205 Nq212
  have P214 : Rg p e below (T212.setTop (mkF m 25 #[sR s1, sR v1, .val (.int (Int32.ofNat bc.length)), sI 1] [])) B0 := fun t k => P210 t (by
    refine X209.arraylength hx (by rw [e209]; exact Ar211.1) (State.isArrayOf_alike hZ.alike Ar211.2.1) (g := (mkF m 21 #[sR s1, sR v1, .val (.int (Int32.ofNat bc.length)), sI 1] [(.ref t1), (.int ((Int32.ofNat bc.length) <<< ((1 : Int32) &&& 31))), (.ref v1), (vI 0), (.ref t1)])) rfl rfl (hb hby dj42_147_21) _ ?_
    rw [len_of S211 N211]
    exact st212 _ k)
  have Z215 : n0 ≤ h212.size := Nat.le_trans Z0 K212.1
  have K216 : Keep h0 h212 [v1] := (Keep.refl h0 [v1]).trans K212 ((allS (Or.inl (List.mem_of_getElem? (i := 0) rfl)) all0))
  have O217 : Old Z n0 h212 := Ol.keep K212 (allS g_v1 all0)
  obtain ⟨fs218, hr218, hrun218, hended218, hW218, hsame218⟩ := X212.leave (v := none) (fun _ => rfl)
  refine ⟨_, _, pre0 _ (P214 _ ?_), hrun218, hended218, _, _, rfl, ?_, ⟨⟨_, rfl⟩, hW218, hsame218.mono (oB rfl) (oB rfl)⟩⟩
  · show Sq p e below (T212.setTop (mkF m 25 #[sR s1, sR v1, .val (.int (Int32.ofNat bc.length)), sI 1] [])) _
    refine XS.goto X212.here hx rfl (pc0 := 25) (pc' := 43) rfl (hb hby dj42_147_25) (by decide) (by decide) ?_
    exact X212.returnOut hx Bd.returns (hb hby dj42_147_43) hr218
  · show Q_gby11 Z v1 kv bc cs h0 n0 _ T212.heap _
    rw [e212]
    exact ⟨rfl, N213, K216, by rw [own_byA]; exact A212⟩
theorem dj42_147_28 : decode j42_147 28 = .ok (.aload_n 0, 1) := by decide +kernel
theorem dj42_147_29 : decode j42_147 29 = .ok (.getfield 9, 3) := by decide +kernel
theorem dj42_147_32 : decode j42_147 32 = .ok (.iconst 0, 1) := by decide +kernel
theorem dj42_147_33 : decode j42_147 33 = .ok (.aload_n 1, 1) := by decide +kernel
theorem dj42_147_34 : decode j42_147 34 = .ok (.iload_n 2, 1) := by decide +kernel
theorem dj42_147_35 : decode j42_147 35 = .ok (.aload_n 0, 1) := by decide +kernel
theorem dj42_147_36 : decode j42_147 36 = .ok (.getfield 9, 3) := by decide +kernel
theorem dj42_147_39 : decode j42_147 39 = .ok (.arraylength, 1) := by decide +kernel
theorem dj42_147_40 : decode j42_147 40 = .ok (.invokestatic 106, 3) := by decide +kernel
theorem ef_gby01 (m : MethodId) (x0 : Addr) (x1 : Addr) (x2 : Int32) (x3 : Int32) : entryFrame m #[(.ref x0), (.ref x1), (.int x2), (.int x3)] 4 = mkF m 0 #[sR x0, sR x1, sI x2, sI x3] [] := by (first | (simp [entryFrame, mkF, argsToLocals, Value.category]; done) | rfl)
def Q_gby01 (Z : State) (v1 : Addr) (kv : ClassId) (bc cs : List Int32) (h0 : Heap) (n0 : Nat) (v : Option Value) (h : Heap) (L : List Loc) : Prop := v = none ∧ Fr n0 L ∧ Keep h0 h [v1] ∧ Arv Z h v1 kv .byte (32 : Int32) ((own_by true (bc ++ cs)).map Value.int) (vI 0)
theorem rm_gby01 (l : Launch) (Z : State) (a0 : Array Value) (hw : Tb a0 Z) (ws : List Jvm.Cond) (s1 t1 : Addr) (kt : ClassId) (N : Int32) (cs : List Int32) (v1 : Addr) (kv : ClassId) (bc : List Int32) (G1 : Int32) (G2 : Value) (h0 : Heap) (n0 : Nat) (Z0 : n0 ≤ h0.size) (E_s1 : Exa Z h0 s1 nS) (V_s1 : Fld Z h0 s1 nS "value" "[B" (.ref t1)) (C_s1 : Fld Z h0 s1 nS "coder" "B" (vI 0)) (A_s1 : Arv Z h0 t1 kt .byte N ((own_by false cs).map Value.int) (vI 0)) (N_s1 : N = Int32.ofNat (own_by false cs).length) (hc2 : cs.length ≤ 2) (hb4 : bc.length ≤ 4) (g_v1 : n0 ≤ v1) (A_v1 : Arv Z h0 v1 kv .byte (32 : Int32) ((own_by true bc).map Value.int) (vI 0)) (nTV : t1 ≠ v1) (hbd : ∀ c ∈ cs, ¬ c < 0 ∧ ¬ (255 : Int32) < c) (Sg : oSg Z G1) (P5 : ¬ (G1 = (0 : Int32))) (Sf : oSf Z G2) (hG2 : G2.isRef = true) (Sa : oSa Z) (Sh : oSh Z) (Sl : oSl Z) (Ol : Old Z n0 h0) :
    MF l Z h0 y_16 j42_147 4 none ws (rM 5 0 0 76) #[(.ref s1), (.ref v1), (.int (Int32.ofNat bc.length)), (vI 1)] (Q_gby01 Z v1 kv bc cs h0 n0) := by
  refine MetFree.of_bodySF (plainFor_of_name pn_java_lang_String) hisR ?_
  intro p e s m args below meth c s₁ Bd hml hP hK
  obtain ⟨rfl, hZ, hh⟩ := hP
  have hx := Bd.exec
  have hby := Bd.bytes
  have hown : s.vm.findClass "java/lang/String" = some m.cls := findClass_of_methodNamed Bd.named
  have X0 : Stand p l e (rM 5 0 0 76) s m #[(.ref s1), (.ref v1), (.int (Int32.ofNat bc.length)), (vI 1)] below meth c s₁ [] 0 0 := Stand.of_body Bd
  have e0 : s₁.heap = h0 := by rw [← hh, Bd.state]; rfl
  have N0 := Fr.nil n0
  obtain ⟨B0, pre0, P0⟩ : ∃ B, Rg p e below B (s₁.setTop (entryFrame m #[(.ref s1), (.ref v1), (.int (Int32.ofNat bc.length)), (vI 1)] 4)) ∧ Rg p e below (s₁.setTop (mkF m 0 #[sR s1, sR v1, .val (.int (Int32.ofNat bc.length)), sI 1] [])) B := ⟨_, fun t k => castTop (ef_gby01 m s1 v1 (Int32.ofNat bc.length) (1 : Int32)) k, fun t k => k⟩
  obtain ⟨cq219, kq219, q219a, q219b, q219c⟩ := isOf hZ e0 E_s1
  obtain ⟨_, _, ⟨T219, L219, k219, n219⟩, -, X219, ⟨Lc219, hQ219, l219, y219, z219⟩, st219⟩ := X0.virtualBack hx (y := y_13) (z := y_13) hown (mvT hZ (oH hw 93 rfl)) (mvT hZ (oH hw 94 rfl)) (notFace_of_selects (args := #[]) (mvT hZ (oH hw 96 rfl))) (mvT hZ (oH hw 96 rfl)) (mvT hZ (oH hw 95 rfl)) (by decide) (backOf (W := 0) (rm_scofalse l Z a0 hw [] s1 G1 G2 h0 n0 Z0 C_s1 Sg P5 Sf hG2 Sa Sh Sl Ol) hZ (oH hw 97 rfl) (oH hw 8 rfl) (by decide) (by decide)) q219a q219c (g := (mkF m 1 #[sR s1, sR v1, .val (.int (Int32.ofNat bc.length)), sI 1] [(.ref s1)])) rfl (by rw [hml]; rfl) (Steps.refl _) (argsL := []) (rest := []) (lenOf pd10 rfl) rfl (oW rfl) (hb hby dj42_147_1) (fun _ _ => ⟨rfl, e0, (oB rfl : 0 + 0 ≤ _), (oB rfl : 0 + 0 ≤ _)⟩)
  dsimp only [Pt.U, Pt.locs, Pt.cells, Pt.slots] at X219 l219 y219 z219 st219 hQ219
  subst l219 y219 z219
  obtain ⟨rfl, Nq219, e219⟩ := hQ219
  have N220 := Fr.app N0 Nq219
  have P221 : Rg p e below (T219.setTop (mkF m 4 #[sR s1, sR v1, .val (.int (Int32.ofNat bc.length)), sI 1] [(vI 0)])) B0 := fun t k => P0 t (by
    refine XS.aloadN X0.here hx rfl (hb hby dj42_147_0) rfl rfl ?_
    exact st219.trans k)
  have L1 := own_byL cs
  have L2 := own_byL bc
  obtain ⟨T222, X222, e222, st222⟩ := getF X219 hx hZ hown (host := "") (Or.inl (oH hw 34 rfl)) Via.refl e219 V_s1 (g := (mkF m 29 #[sR s1, sR v1, .val (.int (Int32.ofNat bc.length)), sI 1] [(.ref s1)])) rfl rfl (hb hby dj42_147_29)
  have P223 : Rg p e below (T222.setTop (mkF m 32 #[sR s1, sR v1, .val (.int (Int32.ofNat bc.length)), sI 1] [(.ref t1)])) B0 := fun t k => P221 t (by
    refine XS.iloadN X219.here hx rfl (hb hby dj42_147_4) rfl ?_
    refine XS.icmpYes X219.here hx rfl (pc0 := 5) (pc' := 28) rfl (hb hby dj42_147_5) rfl (feq (show ¬ ((0 : Int32) = (1 : Int32)) from (by decide))).2 (by decide) (by decide) ?_
    refine XS.aloadN X219.here hx rfl (hb hby dj42_147_28) rfl rfl ?_
    exact st222 _ k)
  obtain ⟨T224, X224, e224, st224⟩ := getF X222 hx hZ hown (host := "") (Or.inl (oH hw 34 rfl)) Via.refl e222 V_s1 (g := (mkF m 36 #[sR s1, sR v1, .val (.int (Int32.ofNat bc.length)), sI 1] [(.ref s1), (.int (Int32.ofNat bc.length)), (.ref v1), (vI 0), (.ref t1)])) rfl rfl (hb hby dj42_147_36)
  have P225 : Rg p e below (T224.setTop (mkF m 39 #[sR s1, sR v1, .val (.int (Int32.ofNat bc.length)), sI 1] [(.ref t1), (.int (Int32.ofNat bc.length)), (.ref v1), (vI 0), (.ref t1)])) B0 := fun t k => P223 t (by
    refine XS.iconst X222.here hx rfl (hb hby dj42_147_32) ?_
    refine XS.aloadN X222.here hx rfl (hb hby dj42_147_33) rfl rfl ?_
    refine XS.iloadN X222.here hx rfl (hb hby dj42_147_34) rfl ?_
    refine XS.aloadN X222.here hx rfl (hb hby dj42_147_35) rfl rfl ?_
    exact st224 _ k)
  obtain ⟨cl226, Ar226, -, S226, N226, -, -⟩ := id A_s1
  have hN9 : Int32.ofNat cs.length = N := by rw [N_s1, L1.1]
  have P227 : Rg p e below (T224.setTop (mkF m 40 #[sR s1, sR v1, .val (.int (Int32.ofNat bc.length)), sI 1] [(.int N), (.int (Int32.ofNat bc.length)), (.ref v1), (vI 0), (.ref t1)])) B0 := fun t k => P225 t (by
    refine X224.arraylength hx (by rw [e224]; exact Ar226.1) (State.isArrayOf_alike hZ.alike Ar226.2.1) (g := (mkF m 39 #[sR s1, sR v1, .val (.int (Int32.ofNat bc.length)), sI 1] [(.ref t1), (.int (Int32.ofNat bc.length)), (.ref v1), (vI 0), (.ref t1)])) rfl rfl (hb hby dj42_147_39) _ ?_
    rw [len_of S226 N226]
    show Sq p e below (T224.setTop (mkF m 40 #[sR s1, sR v1, .val (.int (Int32.ofNat bc.length)), sI 1] [(.int N), (.int (Int32.ofNat bc.length)), (.ref v1), (vI 0), (.ref t1)])) _
    exact k)
  have P228 : Rg p e below (T224.setTop (mkF m 40 #[sR s1, sR v1, .val (.int (Int32.ofNat bc.length)), sI 1] [(.int (Int32.ofNat cs.length)), (.int (Int32.ofNat bc.length)), (.ref v1), (vI 0), (.ref t1)])) B0 := fun t k => P227 t (by rw [hN9] at k; exact k)
  obtain ⟨_, _, ⟨T229, L229, k229, n229⟩, -, X229, ⟨Lc229, hQ229, l229, y229, z229⟩, st229⟩ := Jvm.LawKit.callS X224 hx (y := y_12) hown (mvT hZ (oH hw 253 rfl)) (mvT hZ (oH hw 236 rfl)) (mvT hZ (oH hw 187 rfl)) (mvT hZ (oH hw 237 rfl)) (by decide) (backOf (W := 0) (rm_lif l Z a0 hw [] t1 v1 kt kv N bc.length cs (own_by true bc) G1 G2 h0 n0 Z0 g_v1 A_s1 A_v1 (fun j hj => own_inN N_s1 (by omega) (by omega)) hbd L2.2 (by omega) (by omega) nTV Sg P5 Sf hG2 Sa Sh Sl Ol) hZ (oH hw 237 rfl) (oH hw 187 rfl) (by decide) (by decide)) (g := (mkF m 40 #[sR s1, sR v1, .val (.int (Int32.ofNat bc.length)), sI 1] [(.int (Int32.ofNat cs.length)), (.int (Int32.ofNat bc.length)), (.ref v1), (vI 0), (.ref t1)])) rfl (by rw [hml]; rfl) (argsL := [(.ref t1), (vI 0), (.ref v1), (.int (Int32.ofNat bc.length)), (.int (Int32.ofNat cs.length))]) (rest := []) (lenOf pd9 rfl) rfl (oW rfl) (hb hby dj42_147_40) (fun _ _ => ⟨rfl, e224, (oB rfl : 0 + 0 ≤ _), (oB rfl : 0 + 0 ≤ _)⟩)
  dsimp only [Pt.U, Pt.locs, Pt.cells, Pt.slots] at X229 l229 y229 z229 st229 hQ229
  subst l229 y229 z229
  obtain ⟨rfl, Nq229, K229, A229⟩ := hQ229
  have N230 := Fr.app N220 Nq229
  have P231 : Rg p e below (T229.setTop (mkF m 43 #[sR s1, sR v1, .val (.int (Int32.ofNat bc.length)), sI 1] [])) B0 := fun t k => P228 t (by
    exact st229 _ k)
  have Z232 : n0 ≤ T229.heap.size := Nat.le_trans Z0 K229.1
  have K233 : Keep h0 T229.heap [v1] := (Keep.refl h0 [v1]).trans K229 ((allS (Or.inl (List.mem_of_getElem? (i := 0) rfl)) all0))
  have O234 : Old Z n0 T229.heap := Ol.keep K229 (allS g_v1 all0)
  obtain ⟨fs235, hr235, hrun235, hended235, hW235, hsame235⟩ := X229.leave (v := none) (fun _ => rfl)
  refine ⟨_, _, pre0 _ (P231 _ ?_), hrun235, hended235, _, _, rfl, ?_, ⟨⟨_, rfl⟩, hW235, hsame235.mono (oB rfl) (oB rfl)⟩⟩
  · exact X229.returnOut hx Bd.returns (hb hby dj42_147_43) hr235
  · show Q_gby01 Z v1 kv bc cs h0 n0 _ T229.heap _
    exact ⟨rfl, N230, K233, by rw [own_byA]; exact A229⟩
theorem dj68_68_0 : decode j68_68 0 = .ok (.getstatic 18, 3) := by decide +kernel
theorem dj68_68_3 : decode j68_68 3 = .ok (.ifCond .eq 14, 3) := by decide +kernel
theorem dj68_68_6 : decode j68_68 6 = .ok (.aload_n 0, 1) := by decide +kernel
theorem dj68_68_7 : decode j68_68 7 = .ok (.getfield 22, 3) := by decide +kernel
theorem dj68_68_10 : decode j68_68 10 = .ok (.ifCond .ne 7, 3) := by decide +kernel
theorem dj68_68_13 : decode j68_68 13 = .ok (.iconst 1, 1) := by decide +kernel
theorem dj68_68_14 : decode j68_68 14 = .ok (.goto 4, 3) := by decide +kernel
theorem dj68_68_18 : decode j68_68 18 = .ok (.ireturn, 1) := by decide +kernel
theorem pn_java_lang_AbstractStringBuilder : plainName "java/lang/AbstractStringBuilder" = true := by first | (simp [plainName, overriddenIn]; done) | decide +kernel
theorem ef_bilfalse (m : MethodId) (x0 : Addr) : entryFrame m #[(.ref x0)] 1 = mkF m 0 #[sR x0] [] := by (first | (simp [entryFrame, mkF, argsToLocals, Value.category]; done) | rfl)
def Q_bilfalse  (h0 : Heap) (n0 : Nat) (v : Option Value) (h : Heap) (L : List Loc) : Prop := v = some (vI 1) ∧ Fr n0 L ∧ h = h0
theorem rm_bilfalse (l : Launch) (Z : State) (a0 : Array Value) (hw : Tb a0 Z) (ws : List Jvm.Cond) (b1 : Addr) (G1 : Int32) (G2 : Value) (h0 : Heap) (n0 : Nat) (Z0 : n0 ≤ h0.size) (F_coder : Fld Z h0 b1 nA "coder" "B" (vI 0)) (Sg : oSg Z G1) (P5 : ¬ (G1 = (0 : Int32))) (Sf : oSf Z G2) (hG2 : G2.isRef = true) (Sa : oSa Z) (Sh : oSh Z) (Sl : oSl Z) (Ol : Old Z n0 h0) :
    MF l Z h0 y_17 j68_68 1 (some .boolean) ws (rM 0 0 0 0) #[(.ref b1)] (Q_bilfalse  h0 n0) := by
  refine MetFree.of_bodySF (plainFor_of_name pn_java_lang_AbstractStringBuilder) hisR ?_
  intro p e s m args below meth c s₁ Bd hml hP hK
  obtain ⟨rfl, hZ, hh⟩ := hP
  have hx := Bd.exec
  have hby := Bd.bytes
  have hown : s.vm.findClass "java/lang/AbstractStringBuilder" = some m.cls := findClass_of_methodNamed Bd.named
  have X0 : Stand p l e (rM 0 0 0 0) s m #[(.ref b1)] below meth c s₁ [] 0 0 := Stand.of_body Bd
  have e0 : s₁.heap = h0 := by rw [← hh, Bd.state]; rfl
  have N0 := Fr.nil n0
  obtain ⟨B0, pre0, P0⟩ : ∃ B, Rg p e below B (s₁.setTop (entryFrame m #[(.ref b1)] 1)) ∧ Rg p e below (s₁.setTop (mkF m 0 #[sR b1] [])) B := ⟨_, fun t k => castTop (ef_bilfalse m b1) k, fun t k => k⟩
  obtain ⟨T236, X236, e236, st236⟩ := getS2 X0 hx hZ hown (host := "") (Or.inl (oH hw 73 rfl)) Via.refl e0 (Sg.ext Ol.2) (g := (mkF m 0 #[sR b1] [])) rfl (hb hby dj68_68_0)
  have P237 : Rg p e below (T236.setTop (mkF m 3 #[sR b1] [(.int G1)])) B0 := fun t k => P0 t (by
    exact st236 _ k)
  obtain ⟨T238, X238, e238, st238⟩ := getF X236 hx hZ hown (host := "") (Or.inl (oH hw 76 rfl)) Via.refl e236 F_coder (g := (mkF m 7 #[sR b1] [(.ref b1)])) rfl rfl (hb hby dj68_68_7)
  have P239 : Rg p e below (T238.setTop (mkF m 10 #[sR b1] [(vI 0)])) B0 := fun t k => P237 t (by
    refine XS.ifNo X236.here hx rfl (hb hby dj68_68_3) rfl ((if0 _ _).trans (feq (show ¬ (G1 = (0 : Int32)) from P5)).1) ?_
    refine XS.aloadN X236.here hx rfl (hb hby dj68_68_6) rfl rfl ?_
    exact st238 _ k)
  obtain ⟨fs240, hr240, hrun240, hended240, hW240, hsame240⟩ := X238.leave (v := some (vI 1)) (fun h => by rw [Bd.returns] at h; cases h)
  refine ⟨_, _, pre0 _ (P239 _ ?_), hrun240, hended240, _, _, rfl, ?_, ⟨⟨_, rfl⟩, hW240, hsame240.mono (oB rfl) (oB rfl)⟩⟩
  · show Sq p e below (T238.setTop (mkF m 10 #[sR b1] [(vI 0)])) _
    refine XS.ifNo X238.here hx rfl (hb hby dj68_68_10) rfl ((if0 _ _).trans (teq (show (0 : Int32) = (0 : Int32) from (by decide))).2) ?_
    refine XS.iconst X238.here hx rfl (hb hby dj68_68_13) ?_
    refine XS.goto X238.here hx rfl (pc0 := 14) (pc' := 18) rfl (hb hby dj68_68_14) (by decide) (by decide) ?_
    exact retN X238 hx (t := .boolean) Bd.returns (by simp) (hb hby dj68_68_18) hr240
  · show Q_bilfalse  h0 n0 _ T238.heap _
    rw [e238]
    exact ⟨rfl, N0, rfl⟩
theorem dj68_68_17 : decode j68_68 17 = .ok (.iconst 0, 1) := by decide +kernel
theorem ef_biltrue (m : MethodId) (x0 : Addr) : entryFrame m #[(.ref x0)] 1 = mkF m 0 #[sR x0] [] := by (first | (simp [entryFrame, mkF, argsToLocals, Value.category]; done) | rfl)
def Q_biltrue  (h0 : Heap) (n0 : Nat) (v : Option Value) (h : Heap) (L : List Loc) : Prop := v = some (vI 0) ∧ Fr n0 L ∧ h = h0
theorem rm_biltrue (l : Launch) (Z : State) (a0 : Array Value) (hw : Tb a0 Z) (ws : List Jvm.Cond) (b1 : Addr) (G1 : Int32) (G2 : Value) (h0 : Heap) (n0 : Nat) (Z0 : n0 ≤ h0.size) (F_coder : Fld Z h0 b1 nA "coder" "B" (vI 1)) (Sg : oSg Z G1) (P5 : ¬ (G1 = (0 : Int32))) (Sf : oSf Z G2) (hG2 : G2.isRef = true) (Sa : oSa Z) (Sh : oSh Z) (Sl : oSl Z) (Ol : Old Z n0 h0) :
    MF l Z h0 y_17 j68_68 1 (some .boolean) ws (rM 0 0 0 0) #[(.ref b1)] (Q_biltrue  h0 n0) := by
  refine MetFree.of_bodySF (plainFor_of_name pn_java_lang_AbstractStringBuilder) hisR ?_
  intro p e s m args below meth c s₁ Bd hml hP hK
  obtain ⟨rfl, hZ, hh⟩ := hP
  have hx := Bd.exec
  have hby := Bd.bytes
  have hown : s.vm.findClass "java/lang/AbstractStringBuilder" = some m.cls := findClass_of_methodNamed Bd.named
  have X0 : Stand p l e (rM 0 0 0 0) s m #[(.ref b1)] below meth c s₁ [] 0 0 := Stand.of_body Bd
  have e0 : s₁.heap = h0 := by rw [← hh, Bd.state]; rfl
  have N0 := Fr.nil n0
  obtain ⟨B0, pre0, P0⟩ : ∃ B, Rg p e below B (s₁.setTop (entryFrame m #[(.ref b1)] 1)) ∧ Rg p e below (s₁.setTop (mkF m 0 #[sR b1] [])) B := ⟨_, fun t k => castTop (ef_biltrue m b1) k, fun t k => k⟩
  obtain ⟨T241, X241, e241, st241⟩ := getS2 X0 hx hZ hown (host := "") (Or.inl (oH hw 73 rfl)) Via.refl e0 (Sg.ext Ol.2) (g := (mkF m 0 #[sR b1] [])) rfl (hb hby dj68_68_0)
  have P242 : Rg p e below (T241.setTop (mkF m 3 #[sR b1] [(.int G1)])) B0 := fun t k => P0 t (by
    exact st241 _ k)
  obtain ⟨T243, X243, e243, st243⟩ := getF X241 hx hZ hown (host := "") (Or.inl (oH hw 76 rfl)) Via.refl e241 F_coder (g := (mkF m 7 #[sR b1] [(.ref b1)])) rfl rfl (hb hby dj68_68_7)
  have P244 : Rg p e below (T243.setTop (mkF m 10 #[sR b1] [(vI 1)])) B0 := fun t k => P242 t (by
    refine XS.ifNo X241.here hx rfl (hb hby dj68_68_3) rfl ((if0 _ _).trans (feq (show ¬ (G1 = (0 : Int32)) from P5)).1) ?_
    refine XS.aloadN X241.here hx rfl (hb hby dj68_68_6) rfl rfl ?_
    exact st243 _ k)
  obtain ⟨fs245, hr245, hrun245, hended245, hW245, hsame245⟩ := X243.leave (v := some (vI 0)) (fun h => by rw [Bd.returns] at h; cases h)
  refine ⟨_, _, pre0 _ (P244 _ ?_), hrun245, hended245, _, _, rfl, ?_, ⟨⟨_, rfl⟩, hW245, hsame245.mono (oB rfl) (oB rfl)⟩⟩
  · show Sq p e below (T243.setTop (mkF m 10 #[sR b1] [(vI 1)])) _
    refine XS.ifYes X243.here hx rfl (pc0 := 10) (pc' := 17) rfl (hb hby dj68_68_10) rfl ((if0 _ _).trans (feq (show ¬ ((1 : Int32) = (0 : Int32)) from (by decide))).2) (by decide) (by decide) ?_
    refine XS.iconst X243.here hx rfl (hb hby dj68_68_17) ?_
    exact retN X243 hx (t := .boolean) Bd.returns (by simp) (hb hby dj68_68_18) hr245
  · show Q_biltrue  h0 n0 _ T243.heap _
    rw [e243]
    exact ⟨rfl, N0, rfl⟩
theorem dj68_11_0 : decode j68_11 0 = .ok (.aload_n 0, 1) := by decide +kernel
theorem dj68_11_1 : decode j68_11 1 = .ok (.invokevirtual 83, 3) := by decide +kernel
theorem pd11 : parseMethodDescriptor "()Z" = some ⟨[], some .boolean⟩ := by decide +kernel
theorem dj68_11_4 : decode j68_11 4 = .ok (.ifCond .ne 4, 3) := by decide +kernel
theorem dj68_11_8 : decode j68_11 8 = .ok (.aload_n 0, 1) := by decide +kernel
theorem dj68_11_9 : decode j68_11 9 = .ok (.getfield 15, 3) := by decide +kernel
theorem dj68_11_12 : decode j68_11 12 = .ok (.arraylength, 1) := by decide +kernel
theorem dj68_11_13 : decode j68_11 13 = .ok (.invokestatic 26, 3) := by decide +kernel
theorem pd12 : parseMethodDescriptor "(I)[B" = some ⟨[.int], some (.array .byte)⟩ := by decide +kernel
theorem dj68_11_16 : decode j68_11 16 = .ok (.astore_n 1, 1) := by decide +kernel
theorem dj68_11_17 : decode j68_11 17 = .ok (.aload_n 0, 1) := by decide +kernel
theorem dj68_11_18 : decode j68_11 18 = .ok (.getfield 15, 3) := by decide +kernel
theorem dj68_11_21 : decode j68_11 21 = .ok (.iconst 0, 1) := by decide +kernel
theorem dj68_11_22 : decode j68_11 22 = .ok (.aload_n 1, 1) := by decide +kernel
theorem dj68_11_23 : decode j68_11 23 = .ok (.iconst 0, 1) := by decide +kernel
theorem dj68_11_24 : decode j68_11 24 = .ok (.aload_n 0, 1) := by decide +kernel
theorem dj68_11_25 : decode j68_11 25 = .ok (.getfield 79, 3) := by decide +kernel
theorem dj68_11_28 : decode j68_11 28 = .ok (.invokestatic 125, 3) := by decide +kernel
theorem dj68_11_31 : decode j68_11 31 = .ok (.aload_n 0, 1) := by decide +kernel
theorem dj68_11_32 : decode j68_11 32 = .ok (.aload_n 1, 1) := by decide +kernel
theorem dj68_11_33 : decode j68_11 33 = .ok (.putfield 15, 3) := by decide +kernel
theorem dj68_11_36 : decode j68_11 36 = .ok (.aload_n 0, 1) := by decide +kernel
theorem dj68_11_37 : decode j68_11 37 = .ok (.iconst 1, 1) := by decide +kernel
theorem dj68_11_38 : decode j68_11 38 = .ok (.putfield 22, 3) := by decide +kernel
theorem dj68_11_41 : decode j68_11 41 = .ok (.return_, 1) := by decide +kernel
theorem ef_binf (m : MethodId) (x0 : Addr) : entryFrame m #[(.ref x0)] 2 = mkF m 0 #[sR x0, sU] [] := by (first | (simp [entryFrame, mkF, argsToLocals, Value.category]; done) | rfl)
def Q_binf (Z : State) (b1 : Addr) (bc : List Int32) (h0 : Heap) (n0 : Nat) (v : Option Value) (h : Heap) (L : List Loc) : Prop := v = none ∧ Fr n0 L ∧ Keep h0 h [b1] ∧ ∃ (v2 : Addr) (k2 : ClassId), Fld Z h b1 nA "value" "[B" (.ref v2) ∧ Fld Z h b1 nA "coder" "B" (vI 1) ∧ Fld Z h b1 nA "count" "I" (.int (Int32.ofNat bc.length)) ∧ Fld Z h b1 nA "maybeLatin1" "Z" (vI 0) ∧ Arv Z h v2 k2 .byte (32 : Int32) ((own_by true bc).map Value.int) (vI 0) ∧ Exa Z h v2 "[B" ∧ h0.size ≤ v2
theorem rm_binf (l : Launch) (Z : State) (a0 : Array Value) (hw : Tb a0 Z) (ws : List Jvm.Cond) (b1 v1 : Addr) (kv : ClassId) (bc : List Int32) (G1 : Int32) (G2 : Value) (h0 : Heap) (n0 : Nat) (Z0 : n0 ≤ h0.size) (g_b1 : n0 ≤ b1) (g_v1 : n0 ≤ v1) (E_b1 : Exa Z h0 b1 nB) (F_value : Fld Z h0 b1 nA "value" "[B" (.ref v1)) (F_coder : Fld Z h0 b1 nA "coder" "B" (vI 0)) (F_count : Fld Z h0 b1 nA "count" "I" (.int (Int32.ofNat bc.length))) (F_maybe : Fld Z h0 b1 nA "maybeLatin1" "Z" (vI 0)) (A_v1 : Arv Z h0 v1 kv .byte (16 : Int32) ((own_by false bc).map Value.int) (vI 0)) (E_v1 : Exa Z h0 v1 "[B") (hb4 : bc.length ≤ 4) (hbb : ∀ c ∈ bc, ¬ c < 0 ∧ ¬ (255 : Int32) < c) (Sg : oSg Z G1) (P5 : ¬ (G1 = (0 : Int32))) (Sf : oSf Z G2) (hG2 : G2.isRef = true) (Sa : oSa Z) (Sh : oSh Z) (Sl : oSl Z) (Ol : Old Z n0 h0) :
    MF l Z h0 y_18 j68_11 2 none ws (rM 5 1 32 76) #[(.ref b1)] (Q_binf Z b1 bc h0 n0) := by
  refine MetFree.of_bodySF (plainFor_of_name pn_java_lang_AbstractStringBuilder) hisR ?_
  intro p e s m args below meth c s₁ Bd hml hP hK
  obtain ⟨rfl, hZ, hh⟩ := hP
  have hx := Bd.exec
  have hby := Bd.bytes
  have hown : s.vm.findClass "java/lang/AbstractStringBuilder" = some m.cls := findClass_of_methodNamed Bd.named
  have X0 : Stand p l e (rM 5 1 32 76) s m #[(.ref b1)] below meth c s₁ [] 0 0 := Stand.of_body Bd
  have e0 : s₁.heap = h0 := by rw [← hh, Bd.state]; rfl
  have N0 := Fr.nil n0
  obtain ⟨B0, pre0, P0⟩ : ∃ B, Rg p e below B (s₁.setTop (entryFrame m #[(.ref b1)] 2)) ∧ Rg p e below (s₁.setTop (mkF m 0 #[sR b1, sU] [])) B := ⟨_, fun t k => castTop (ef_binf m b1) k, fun t k => k⟩
  obtain ⟨cq246, kq246, q246a, q246b, q246c⟩ := isOf hZ e0 E_b1
  obtain ⟨_, _, ⟨T246, L246, k246, n246⟩, -, X246, ⟨Lc246, hQ246, l246, y246, z246⟩, st246⟩ := X0.virtualBack hx (y := y_17) (z := y_17) hown (mvT hZ (oH hw 227 rfl)) (mvT hZ (oH hw 152 rfl)) (notFace_of_selects (args := #[]) (mvT hZ (oH hw 154 rfl))) (mvT hZ (oH hw 154 rfl)) (mvT hZ (oH hw 153 rfl)) (by decide) (backOf (W := 0) (rm_bilfalse l Z a0 hw [] b1 G1 G2 h0 n0 Z0 F_coder Sg P5 Sf hG2 Sa Sh Sl Ol) hZ (oH hw 155 rfl) (oH hw 70 rfl) (by decide) (by decide)) q246a q246c (g := (mkF m 1 #[sR b1, sU] [(.ref b1)])) rfl (by rw [hml]; rfl) (Steps.refl _) (argsL := []) (rest := []) (lenOf pd11 rfl) rfl (oW rfl) (hb hby dj68_11_1) (fun _ _ => ⟨rfl, e0, (oB rfl : 0 + 0 ≤ _), (oB rfl : 0 + 0 ≤ _)⟩)
  dsimp only [Pt.U, Pt.locs, Pt.cells, Pt.slots] at X246 l246 y246 z246 st246 hQ246
  subst l246 y246 z246
  obtain ⟨rfl, Nq246, e246⟩ := hQ246
  have N247 := Fr.app N0 Nq246
  have P248 : Rg p e below (T246.setTop (mkF m 4 #[sR b1, sU] [(vI 1)])) B0 := fun t k => P0 t (by
    refine XS.aloadN X0.here hx rfl (hb hby dj68_11_0) rfl rfl ?_
    exact st246.trans k)
  obtain ⟨T249, X249, e249, st249⟩ := getF X246 hx hZ hown (host := "") (Or.inl (oH hw 74 rfl)) Via.refl e246 F_value (g := (mkF m 9 #[sR b1, sU] [(.ref b1)])) rfl rfl (hb hby dj68_11_9)
  have P250 : Rg p e below (T249.setTop (mkF m 12 #[sR b1, sU] [(.ref v1)])) B0 := fun t k => P248 t (by
    refine XS.ifYes X246.here hx rfl (pc0 := 4) (pc' := 8) rfl (hb hby dj68_11_4) rfl ((if0 _ _).trans (feq (show ¬ ((1 : Int32) = (0 : Int32)) from (by decide))).2) (by decide) (by decide) ?_
    refine XS.aloadN X246.here hx rfl (hb hby dj68_11_8) rfl rfl ?_
    exact st249 _ k)
  obtain ⟨cl251, Ar251, -, S251, N251, -, -⟩ := id A_v1
  obtain ⟨_, _, ⟨T252, L252, k252, n252⟩, -, X252, ⟨Lc252, hQ252, l252, y252, z252⟩, st252⟩ := Jvm.LawKit.callS X249 hx (y := y_10) hown (mvT hZ (oH hw 228 rfl)) (mvT hZ (oH hw 229 rfl)) (mvT hZ (oH hw 23 rfl)) (mvT hZ (oH hw 230 rfl)) (by decide) (backOf (W := 0) (rm_nbf16 l Z a0 hw []  h0 n0 Z0 ) hZ (oH hw 230 rfl) (oH hw 23 rfl) (by decide) (by decide)) (g := (mkF m 13 #[sR b1, sU] [(vI 16)])) rfl (by rw [hml]; rfl) (argsL := [(vI 16)]) (rest := []) (lenOf pd12 rfl) rfl (oW rfl) (hb hby dj68_11_13) (fun _ _ => ⟨rfl, e249, (oB rfl : 0 + 1 ≤ _), (oB rfl : 0 + 32 ≤ _)⟩)
  dsimp only [Pt.U, Pt.locs, Pt.cells, Pt.slots] at X252 l252 y252 z252 st252 hQ252
  subst l252 y252 z252
  obtain ⟨t252, k252, rfl, Nq252, K252, A252, E252, s252⟩ := hQ252
  have N253 := Fr.app N247 Nq252
  have P254 : Rg p e below (T252.setTop (mkF m 16 #[sR b1, sU] [(.ref t252)])) B0 := fun t k => P250 t (by
    refine X249.arraylength hx (by rw [e249]; exact Ar251.1) (State.isArrayOf_alike hZ.alike Ar251.2.1) (g := (mkF m 12 #[sR b1, sU] [(.ref v1)])) rfl rfl (hb hby dj68_11_12) _ ?_
    rw [len_of S251 N251]
    exact st252 _ k)
  have Z255 : n0 ≤ T252.heap.size := Nat.le_trans Z0 K252.1
  have K256 : Keep h0 T252.heap [b1] := (Keep.refl h0 [b1]).trans K252 (all0)
  have O257 : Old Z n0 T252.heap := Ol.keep K252 all0
  have g_t252 : n0 ≤ t252 := Nat.le_trans Z0 s252
  have sz_t252 : h0.size ≤ t252 := Nat.le_trans (Keep.refl h0 [b1]).1 s252
  have L2 := own_byL bc
  have f258 := (F_value.keep K252 nin0)
  obtain ⟨T259, X259, e259, st259⟩ := getF X252 hx hZ hown (host := "") (Or.inl (oH hw 74 rfl)) Via.refl rfl f258 (g := (mkF m 18 #[sR b1, sR t252] [(.ref b1)])) rfl rfl (hb hby dj68_11_18)
  have P260 : Rg p e below (T259.setTop (mkF m 21 #[sR b1, sR t252] [(.ref v1)])) B0 := fun t k => P254 t (by
    refine XS.astoreN X252.here hx rfl (hb hby dj68_11_16) rfl rfl (l' := #[sR b1, sR t252]) rfl ?_
    refine XS.aloadN X252.here hx rfl (hb hby dj68_11_17) rfl rfl ?_
    exact st259 _ k)
  have f261 := (F_count.keep K252 nin0)
  obtain ⟨T262, X262, e262, st262⟩ := getF X259 hx hZ hown (host := "") (Or.inl (oH hw 98 rfl)) Via.refl e259 f261 (g := (mkF m 25 #[sR b1, sR t252] [(.ref b1), (vI 0), (.ref t252), (vI 0), (.ref v1)])) rfl rfl (hb hby dj68_11_25)
  have P263 : Rg p e below (T262.setTop (mkF m 28 #[sR b1, sR t252] [(.int (Int32.ofNat bc.length)), (vI 0), (.ref t252), (vI 0), (.ref v1)])) B0 := fun t k => P260 t (by
    refine XS.iconst X259.here hx rfl (hb hby dj68_11_21) ?_
    refine XS.aloadN X259.here hx rfl (hb hby dj68_11_22) rfl rfl ?_
    refine XS.iconst X259.here hx rfl (hb hby dj68_11_23) ?_
    refine XS.aloadN X259.here hx rfl (hb hby dj68_11_24) rfl rfl ?_
    exact st262 _ k)
  have f264 := (A_v1.keep K252 nin0)
  obtain ⟨_, _, ⟨T265, L265, k265, n265⟩, -, X265, ⟨Lc265, hQ265, l265, y265, z265⟩, st265⟩ := Jvm.LawKit.callS X262 hx (y := y_12) hown (mvT hZ (oH hw 235 rfl)) (mvT hZ (oH hw 236 rfl)) (mvT hZ (oH hw 187 rfl)) (mvT hZ (oH hw 237 rfl)) (by decide) (backOf (W := 0) (rm_lif l Z a0 hw [] v1 t252 kv k252 (16 : Int32) 0 bc [] G1 G2 T252.heap n0 Z255 g_t252 f264 A252 (fun j hj => own_in16 (by omega)) hbb rfl (by omega) hb4 (Nat.ne_of_lt (Nat.lt_of_lt_of_le A_v1.lt s252)) Sg P5 Sf hG2 Sa Sh Sl O257) hZ (oH hw 237 rfl) (oH hw 187 rfl) (by decide) (by decide)) (g := (mkF m 28 #[sR b1, sR t252] [(.int (Int32.ofNat bc.length)), (vI 0), (.ref t252), (vI 0), (.ref v1)])) rfl (by rw [hml]; rfl) (argsL := [(.ref v1), (vI 0), (.ref t252), (vI 0), (.int (Int32.ofNat bc.length))]) (rest := []) (lenOf pd9 rfl) rfl (oW rfl) (hb hby dj68_11_28) (fun _ _ => ⟨rfl, e262, (oB rfl : 1 + 0 ≤ _), (oB rfl : 32 + 0 ≤ _)⟩)
  dsimp only [Pt.U, Pt.locs, Pt.cells, Pt.slots] at X265 l265 y265 z265 st265 hQ265
  subst l265 y265 z265
  obtain ⟨rfl, Nq265, K265, A265⟩ := hQ265
  have N266 := Fr.app N253 Nq265
  have P267 : Rg p e below (T265.setTop (mkF m 31 #[sR b1, sR t252] [])) B0 := fun t k => P263 t (by
    exact st265 _ k)
  have Z268 : n0 ≤ T265.heap.size := Nat.le_trans Z255 K265.1
  have K269 : Keep h0 T265.heap [b1] := K256.trans K265 ((allS (Or.inr sz_t252) all0))
  have O270 : Old Z n0 T265.heap := O257.keep K265 (allS g_t252 all0)
  have f271 := (f258.keep K265 (ninS (Nat.ne_of_lt (Nat.lt_of_lt_of_le F_maybe.lt s252)) nin0))
  have f272 := ((E_b1.keep K252).keep K265)
  obtain ⟨T273, h273, X273, e273, W273, st273⟩ := putF X265 hx hZ hown (host := "") (Or.inl (oH hw 74 rfl)) Via.refl rfl f271 f272 (Or.inl (oH hw 75 rfl)) (oH hw 61 rfl) (ty := (.array .byte)) (by decide) rfl rfl (g := (mkF m 33 #[sR b1, sR t252] [(.ref t252), (.ref b1)])) rfl rfl (hb hby dj68_11_33)
  have P274 : Rg p e below (T273.setTop (mkF m 36 #[sR b1, sR t252] [])) B0 := fun t k => P267 t (by
    refine XS.aloadN X265.here hx rfl (hb hby dj68_11_31) rfl rfl ?_
    refine XS.aloadN X265.here hx rfl (hb hby dj68_11_32) rfl rfl ?_
    exact st273 _ k)
  have f275 := f271.same W273
  have N276 := Fr.snoc X273 N266 g_b1
  have Z277 : n0 ≤ h273.size := Nat.le_trans Z268 (Keep.of_wr W273).1
  have K278 : Keep h0 h273 [b1] := K269.wr W273 (Or.inl (List.mem_of_getElem? (i := 0) rfl))
  have O279 : Old Z n0 h273 := O270.wr W273 g_b1
  have f280 := (((F_coder.keep K252 nin0).keep K265 (ninS (Nat.ne_of_lt (Nat.lt_of_lt_of_le F_maybe.lt s252)) nin0)).other W273 (Or.inr (slot_ne (Or.inl (oH hw 77 rfl)) (Or.inl (oH hw 75 rfl)) (by decide) (t := .byte) (t' := (.array .byte)) (by decide) (by decide))))
  have f281 := (f272.wr W273)
  obtain ⟨T282, h282, X282, e282, W282, st282⟩ := putFN X273 hx hZ hown (oH hw 76 rfl) Via.refl e273 f280 f281 (Or.inl (oH hw 77 rfl)) (oH hw 61 rfl) (ty := .byte) (v' := .int (1 : Int32)) (by decide) rfl rfl (g := (mkF m 38 #[sR b1, sR t252] [(vI 1), (.ref b1)])) rfl rfl (hb hby dj68_11_38)
  have P283 : Rg p e below (T282.setTop (mkF m 41 #[sR b1, sR t252] [])) B0 := fun t k => P274 t (by
    refine XS.aloadN X273.here hx rfl (hb hby dj68_11_36) rfl rfl ?_
    refine XS.iconst X273.here hx rfl (hb hby dj68_11_37) ?_
    exact st282 _ k)
  have f284 := f280.same W282
  have N285 := Fr.snoc X282 N276 g_b1
  have Z286 : n0 ≤ h282.size := Nat.le_trans Z277 (Keep.of_wr W282).1
  have K287 : Keep h0 h282 [b1] := K278.wr W282 (Or.inl (List.mem_of_getElem? (i := 0) rfl))
  have O288 : Old Z n0 h282 := O279.wr W282 g_b1
  have f289 := (f275.other W282 (Or.inr (slot_ne (Or.inl (oH hw 75 rfl)) (Or.inl (oH hw 77 rfl)) (by decide) (t := (.array .byte)) (t' := .byte) (by decide) (by decide))))
  have f290 := (((f261.keep K265 (ninS (Nat.ne_of_lt (Nat.lt_of_lt_of_le F_maybe.lt s252)) nin0)).other W273 (Or.inr (slot_ne (Or.inl (oH hw 99 rfl)) (Or.inl (oH hw 75 rfl)) (by decide) (t := .int) (t' := (.array .byte)) (by decide) (by decide)))).other W282 (Or.inr (slot_ne (Or.inl (oH hw 99 rfl)) (Or.inl (oH hw 77 rfl)) (by decide) (t := .int) (t' := .byte) (by decide) (by decide))))
  have f291 := ((((F_maybe.keep K252 nin0).keep K265 (ninS (Nat.ne_of_lt (Nat.lt_of_lt_of_le F_maybe.lt s252)) nin0)).other W273 (Or.inr (slot_ne (Or.inl (oH hw 255 rfl)) (Or.inl (oH hw 75 rfl)) (by decide) (t := .boolean) (t' := (.array .byte)) (by decide) (by decide)))).other W282 (Or.inr (slot_ne (Or.inl (oH hw 255 rfl)) (Or.inl (oH hw 77 rfl)) (by decide) (t := .boolean) (t' := .byte) (by decide) (by decide))))
  have f292 := ((A265.other W273 (Ne.symm (Nat.ne_of_lt (Nat.lt_of_lt_of_le F_maybe.lt s252)))).other W282 (Ne.symm (Nat.ne_of_lt (Nat.lt_of_lt_of_le F_maybe.lt s252))))
  have f293 := (((E252.keep K265).wr W273).wr W282)
  obtain ⟨fs294, hr294, hrun294, hended294, hW294, hsame294⟩ := X282.leave (v := none) (fun _ => rfl)
  refine ⟨_, _, pre0 _ (P283 _ ?_), hrun294, hended294, _, _, rfl, ?_, ⟨⟨_, rfl⟩, hW294, hsame294.mono (oB rfl) (oB rfl)⟩⟩
  · exact X282.returnOut hx Bd.returns (hb hby dj68_11_41) hr294
  · show Q_binf Z b1 bc h0 n0 _ T282.heap _
    rw [e282]
    exact ⟨rfl, N285, K287, t252, _, f289, f284, f290, f291, f292, f293, sz_t252⟩
theorem dj68_11_7 : decode j68_11 7 = .ok (.return_, 1) := by decide +kernel
theorem ef_bint (m : MethodId) (x0 : Addr) : entryFrame m #[(.ref x0)] 2 = mkF m 0 #[sR x0, sU] [] := by (first | (simp [entryFrame, mkF, argsToLocals, Value.category]; done) | rfl)
def Q_bint  (h0 : Heap) (n0 : Nat) (v : Option Value) (h : Heap) (L : List Loc) : Prop := v = none ∧ Fr n0 L ∧ h = h0
theorem rm_bint (l : Launch) (Z : State) (a0 : Array Value) (hw : Tb a0 Z) (ws : List Jvm.Cond) (b1 : Addr) (G1 : Int32) (G2 : Value) (h0 : Heap) (n0 : Nat) (Z0 : n0 ≤ h0.size) (E_b1 : Exa Z h0 b1 nB) (F_coder : Fld Z h0 b1 nA "coder" "B" (vI 1)) (Sg : oSg Z G1) (P5 : ¬ (G1 = (0 : Int32))) (Sf : oSf Z G2) (hG2 : G2.isRef = true) (Sa : oSa Z) (Sh : oSh Z) (Sl : oSl Z) (Ol : Old Z n0 h0) :
    MF l Z h0 y_18 j68_11 2 none ws (rM 1 0 0 12) #[(.ref b1)] (Q_bint  h0 n0) := by
  refine MetFree.of_bodySF (plainFor_of_name pn_java_lang_AbstractStringBuilder) hisR ?_
  intro p e s m args below meth c s₁ Bd hml hP hK
  obtain ⟨rfl, hZ, hh⟩ := hP
  have hx := Bd.exec
  have hby := Bd.bytes
  have hown : s.vm.findClass "java/lang/AbstractStringBuilder" = some m.cls := findClass_of_methodNamed Bd.named
  have X0 : Stand p l e (rM 1 0 0 12) s m #[(.ref b1)] below meth c s₁ [] 0 0 := Stand.of_body Bd
  have e0 : s₁.heap = h0 := by rw [← hh, Bd.state]; rfl
  have N0 := Fr.nil n0
  obtain ⟨B0, pre0, P0⟩ : ∃ B, Rg p e below B (s₁.setTop (entryFrame m #[(.ref b1)] 2)) ∧ Rg p e below (s₁.setTop (mkF m 0 #[sR b1, sU] [])) B := ⟨_, fun t k => castTop (ef_bint m b1) k, fun t k => k⟩
  obtain ⟨cq295, kq295, q295a, q295b, q295c⟩ := isOf hZ e0 E_b1
  obtain ⟨_, _, ⟨T295, L295, k295, n295⟩, -, X295, ⟨Lc295, hQ295, l295, y295, z295⟩, st295⟩ := X0.virtualBack hx (y := y_17) (z := y_17) hown (mvT hZ (oH hw 227 rfl)) (mvT hZ (oH hw 152 rfl)) (notFace_of_selects (args := #[]) (mvT hZ (oH hw 154 rfl))) (mvT hZ (oH hw 154 rfl)) (mvT hZ (oH hw 153 rfl)) (by decide) (backOf (W := 0) (rm_biltrue l Z a0 hw [] b1 G1 G2 h0 n0 Z0 F_coder Sg P5 Sf hG2 Sa Sh Sl Ol) hZ (oH hw 155 rfl) (oH hw 70 rfl) (by decide) (by decide)) q295a q295c (g := (mkF m 1 #[sR b1, sU] [(.ref b1)])) rfl (by rw [hml]; rfl) (Steps.refl _) (argsL := []) (rest := []) (lenOf pd11 rfl) rfl (oW rfl) (hb hby dj68_11_1) (fun _ _ => ⟨rfl, e0, (oB rfl : 0 + 0 ≤ _), (oB rfl : 0 + 0 ≤ _)⟩)
  dsimp only [Pt.U, Pt.locs, Pt.cells, Pt.slots] at X295 l295 y295 z295 st295 hQ295
  subst l295 y295 z295
  obtain ⟨rfl, Nq295, e295⟩ := hQ295
  have N296 := Fr.app N0 Nq295
  have P297 : Rg p e below (T295.setTop (mkF m 4 #[sR b1, sU] [(vI 0)])) B0 := fun t k => P0 t (by
    refine XS.aloadN X0.here hx rfl (hb hby dj68_11_0) rfl rfl ?_
    exact st295.trans k)
  obtain ⟨fs298, hr298, hrun298, hended298, hW298, hsame298⟩ := X295.leave (v := none) (fun _ => rfl)
  refine ⟨_, _, pre0 _ (P297 _ ?_), hrun298, hended298, _, _, rfl, ?_, ⟨⟨_, rfl⟩, hW298, hsame298.mono (oB rfl) (oB rfl)⟩⟩
  · show Sq p e below (T295.setTop (mkF m 4 #[sR b1, sU] [(vI 0)])) _
    refine XS.ifNo X295.here hx rfl (hb hby dj68_11_4) rfl ((if0 _ _).trans (teq (show (0 : Int32) = (0 : Int32) from (by decide))).2) ?_
    exact X295.returnOut hx Bd.returns (hb hby dj68_11_7) hr298
  · show Q_bint  h0 n0 _ T295.heap _
    rw [e295]
    exact ⟨rfl, N296, rfl⟩
theorem dj68_71_0 : decode j68_71 0 = .ok (.getstatic 18, 3) := by decide +kernel
theorem dj68_71_3 : decode j68_71 3 = .ok (.ifCond .eq 18, 3) := by decide +kernel
theorem dj68_71_6 : decode j68_71 6 = .ok (.aload_n 0, 1) := by decide +kernel
theorem dj68_71_7 : decode j68_71 7 = .ok (.getfield 22, 3) := by decide +kernel
theorem dj68_71_10 : decode j68_71 10 = .ok (.aload_n 1, 1) := by decide +kernel
theorem dj68_71_11 : decode j68_71 11 = .ok (.invokevirtual 40, 3) := by decide +kernel
theorem dj68_71_14 : decode j68_71 14 = .ok (.if_icmp .eq 7, 3) := by decide +kernel
theorem dj68_71_21 : decode j68_71 21 = .ok (.return_, 1) := by decide +kernel
theorem ef_ifn00 (m : MethodId) (x0 : Addr) (x1 : Addr) : entryFrame m #[(.ref x0), (.ref x1)] 2 = mkF m 0 #[sR x0, sR x1] [] := by (first | (simp [entryFrame, mkF, argsToLocals, Value.category]; done) | rfl)
def Q_ifn00  (h0 : Heap) (n0 : Nat) (v : Option Value) (h : Heap) (L : List Loc) : Prop := v = none ∧ Fr n0 L ∧ h = h0
theorem rm_ifn00 (l : Launch) (Z : State) (a0 : Array Value) (hw : Tb a0 Z) (ws : List Jvm.Cond) (b1 v1 : Addr) (kv : ClassId) (bc : List Int32) (s1 : Addr) (G1 : Int32) (G2 : Value) (h0 : Heap) (n0 : Nat) (Z0 : n0 ≤ h0.size) (g_b1 : n0 ≤ b1) (g_v1 : n0 ≤ v1) (E_b1 : Exa Z h0 b1 nB) (F_value : Fld Z h0 b1 nA "value" "[B" (.ref v1)) (F_coder : Fld Z h0 b1 nA "coder" "B" (vI 0)) (F_count : Fld Z h0 b1 nA "count" "I" (.int (Int32.ofNat bc.length))) (F_maybe : Fld Z h0 b1 nA "maybeLatin1" "Z" (vI 0)) (A_v1 : Arv Z h0 v1 kv .byte (16 : Int32) ((own_by false bc).map Value.int) (vI 0)) (E_v1 : Exa Z h0 v1 "[B") (hb4 : bc.length ≤ 4) (E_s1 : Exa Z h0 s1 nS) (C_s1 : Fld Z h0 s1 nS "coder" "B" (vI 0)) (Sg : oSg Z G1) (P5 : ¬ (G1 = (0 : Int32))) (Sf : oSf Z G2) (hG2 : G2.isRef = true) (Sa : oSa Z) (Sh : oSh Z) (Sl : oSl Z) (Ol : Old Z n0 h0) :
    MF l Z h0 y_19 j68_71 2 none ws (rM 1 0 0 13) #[(.ref b1), (.ref s1)] (Q_ifn00  h0 n0) := by
  refine MetFree.of_bodySF (plainFor_of_name pn_java_lang_AbstractStringBuilder) hisR ?_
  intro p e s m args below meth c s₁ Bd hml hP hK
  obtain ⟨rfl, hZ, hh⟩ := hP
  have hx := Bd.exec
  have hby := Bd.bytes
  have hown : s.vm.findClass "java/lang/AbstractStringBuilder" = some m.cls := findClass_of_methodNamed Bd.named
  have X0 : Stand p l e (rM 1 0 0 13) s m #[(.ref b1), (.ref s1)] below meth c s₁ [] 0 0 := Stand.of_body Bd
  have e0 : s₁.heap = h0 := by rw [← hh, Bd.state]; rfl
  have N0 := Fr.nil n0
  obtain ⟨B0, pre0, P0⟩ : ∃ B, Rg p e below B (s₁.setTop (entryFrame m #[(.ref b1), (.ref s1)] 2)) ∧ Rg p e below (s₁.setTop (mkF m 0 #[sR b1, sR s1] [])) B := ⟨_, fun t k => castTop (ef_ifn00 m b1 s1) k, fun t k => k⟩
  obtain ⟨T299, X299, e299, st299⟩ := getS2 X0 hx hZ hown (host := "") (Or.inl (oH hw 73 rfl)) Via.refl e0 (Sg.ext Ol.2) (g := (mkF m 0 #[sR b1, sR s1] [])) rfl (hb hby dj68_71_0)
  have P300 : Rg p e below (T299.setTop (mkF m 3 #[sR b1, sR s1] [(.int G1)])) B0 := fun t k => P0 t (by
    exact st299 _ k)
  obtain ⟨T301, X301, e301, st301⟩ := getF X299 hx hZ hown (host := "") (Or.inl (oH hw 76 rfl)) Via.refl e299 F_coder (g := (mkF m 7 #[sR b1, sR s1] [(.ref b1)])) rfl rfl (hb hby dj68_71_7)
  have P302 : Rg p e below (T301.setTop (mkF m 10 #[sR b1, sR s1] [(vI 0)])) B0 := fun t k => P300 t (by
    refine XS.ifNo X299.here hx rfl (hb hby dj68_71_3) rfl ((if0 _ _).trans (feq (show ¬ (G1 = (0 : Int32)) from P5)).1) ?_
    refine XS.aloadN X299.here hx rfl (hb hby dj68_71_6) rfl rfl ?_
    exact st301 _ k)
  obtain ⟨cq303, kq303, q303a, q303b, q303c⟩ := isOf hZ e301 E_s1
  obtain ⟨_, _, ⟨T303, L303, k303, n303⟩, -, X303, ⟨Lc303, hQ303, l303, y303, z303⟩, st303⟩ := X301.virtualBack hx (y := y_13) (z := y_13) hown (mvT hZ (oH hw 115 rfl)) (mvT hZ (oH hw 94 rfl)) (notFace_of_selects (args := #[]) (mvT hZ (oH hw 96 rfl))) (mvT hZ (oH hw 96 rfl)) (mvT hZ (oH hw 95 rfl)) (by decide) (backOf (W := 1) (rm_scofalse l Z a0 hw [] s1 G1 G2 h0 n0 Z0 C_s1 Sg P5 Sf hG2 Sa Sh Sl Ol) hZ (oH hw 97 rfl) (oH hw 8 rfl) (by decide) (by decide)) q303a q303c (g := (mkF m 11 #[sR b1, sR s1] [(.ref s1), (vI 0)])) rfl (by rw [hml]; rfl) (Steps.refl _) (argsL := []) (rest := [(vI 0)]) (lenOf pd10 rfl) rfl (oW rfl) (hb hby dj68_71_11) (fun _ _ => ⟨rfl, e301, (oB rfl : 0 + 0 ≤ _), (oB rfl : 0 + 0 ≤ _)⟩)
  dsimp only [Pt.U, Pt.locs, Pt.cells, Pt.slots] at X303 l303 y303 z303 st303 hQ303
  subst l303 y303 z303
  obtain ⟨rfl, Nq303, e303⟩ := hQ303
  have N304 := Fr.app N0 Nq303
  have P305 : Rg p e below (T303.setTop (mkF m 14 #[sR b1, sR s1] [(vI 0), (vI 0)])) B0 := fun t k => P302 t (by
    refine XS.aloadN X301.here hx rfl (hb hby dj68_71_10) rfl rfl ?_
    exact st303.trans k)
  obtain ⟨fs306, hr306, hrun306, hended306, hW306, hsame306⟩ := X303.leave (v := none) (fun _ => rfl)
  refine ⟨_, _, pre0 _ (P305 _ ?_), hrun306, hended306, _, _, rfl, ?_, ⟨⟨_, rfl⟩, hW306, hsame306.mono (oB rfl) (oB rfl)⟩⟩
  · show Sq p e below (T303.setTop (mkF m 14 #[sR b1, sR s1] [(vI 0), (vI 0)])) _
    refine XS.icmpYes X303.here hx rfl (pc0 := 14) (pc' := 21) rfl (hb hby dj68_71_14) rfl (teq (show (0 : Int32) = (0 : Int32) from (by decide))).1 (by decide) (by decide) ?_
    exact X303.returnOut hx Bd.returns (hb hby dj68_71_21) hr306
  · show Q_ifn00  h0 n0 _ T303.heap _
    rw [e303]
    exact ⟨rfl, N304, rfl⟩
theorem ef_ifn11 (m : MethodId) (x0 : Addr) (x1 : Addr) : entryFrame m #[(.ref x0), (.ref x1)] 2 = mkF m 0 #[sR x0, sR x1] [] := by (first | (simp [entryFrame, mkF, argsToLocals, Value.category]; done) | rfl)
def Q_ifn11  (h0 : Heap) (n0 : Nat) (v : Option Value) (h : Heap) (L : List Loc) : Prop := v = none ∧ Fr n0 L ∧ h = h0
theorem rm_ifn11 (l : Launch) (Z : State) (a0 : Array Value) (hw : Tb a0 Z) (ws : List Jvm.Cond) (b1 v1 : Addr) (kv : ClassId) (bc : List Int32) (s1 : Addr) (G1 : Int32) (G2 : Value) (h0 : Heap) (n0 : Nat) (Z0 : n0 ≤ h0.size) (g_b1 : n0 ≤ b1) (g_v1 : n0 ≤ v1) (E_b1 : Exa Z h0 b1 nB) (F_value : Fld Z h0 b1 nA "value" "[B" (.ref v1)) (F_coder : Fld Z h0 b1 nA "coder" "B" (vI 1)) (F_count : Fld Z h0 b1 nA "count" "I" (.int (Int32.ofNat bc.length))) (F_maybe : Fld Z h0 b1 nA "maybeLatin1" "Z" (vI 0)) (A_v1 : Arv Z h0 v1 kv .byte (32 : Int32) ((own_by true bc).map Value.int) (vI 0)) (E_v1 : Exa Z h0 v1 "[B") (hb4 : bc.length ≤ 4) (E_s1 : Exa Z h0 s1 nS) (C_s1 : Fld Z h0 s1 nS "coder" "B" (vI 1)) (Sg : oSg Z G1) (P5 : ¬ (G1 = (0 : Int32))) (Sf : oSf Z G2) (hG2 : G2.isRef = true) (Sa : oSa Z) (Sh : oSh Z) (Sl : oSl Z) (Ol : Old Z n0 h0) :
    MF l Z h0 y_19 j68_71 2 none ws (rM 1 0 0 13) #[(.ref b1), (.ref s1)] (Q_ifn11  h0 n0) := by
  refine MetFree.of_bodySF (plainFor_of_name pn_java_lang_AbstractStringBuilder) hisR ?_
  intro p e s m args below meth c s₁ Bd hml hP hK
  obtain ⟨rfl, hZ, hh⟩ := hP
  have hx := Bd.exec
  have hby := Bd.bytes
  have hown : s.vm.findClass "java/lang/AbstractStringBuilder" = some m.cls := findClass_of_methodNamed Bd.named
  have X0 : Stand p l e (rM 1 0 0 13) s m #[(.ref b1), (.ref s1)] below meth c s₁ [] 0 0 := Stand.of_body Bd
  have e0 : s₁.heap = h0 := by rw [← hh, Bd.state]; rfl
  have N0 := Fr.nil n0
  obtain ⟨B0, pre0, P0⟩ : ∃ B, Rg p e below B (s₁.setTop (entryFrame m #[(.ref b1), (.ref s1)] 2)) ∧ Rg p e below (s₁.setTop (mkF m 0 #[sR b1, sR s1] [])) B := ⟨_, fun t k => castTop (ef_ifn11 m b1 s1) k, fun t k => k⟩
  obtain ⟨T307, X307, e307, st307⟩ := getS2 X0 hx hZ hown (host := "") (Or.inl (oH hw 73 rfl)) Via.refl e0 (Sg.ext Ol.2) (g := (mkF m 0 #[sR b1, sR s1] [])) rfl (hb hby dj68_71_0)
  have P308 : Rg p e below (T307.setTop (mkF m 3 #[sR b1, sR s1] [(.int G1)])) B0 := fun t k => P0 t (by
    exact st307 _ k)
  obtain ⟨T309, X309, e309, st309⟩ := getF X307 hx hZ hown (host := "") (Or.inl (oH hw 76 rfl)) Via.refl e307 F_coder (g := (mkF m 7 #[sR b1, sR s1] [(.ref b1)])) rfl rfl (hb hby dj68_71_7)
  have P310 : Rg p e below (T309.setTop (mkF m 10 #[sR b1, sR s1] [(vI 1)])) B0 := fun t k => P308 t (by
    refine XS.ifNo X307.here hx rfl (hb hby dj68_71_3) rfl ((if0 _ _).trans (feq (show ¬ (G1 = (0 : Int32)) from P5)).1) ?_
    refine XS.aloadN X307.here hx rfl (hb hby dj68_71_6) rfl rfl ?_
    exact st309 _ k)
  obtain ⟨cq311, kq311, q311a, q311b, q311c⟩ := isOf hZ e309 E_s1
  obtain ⟨_, _, ⟨T311, L311, k311, n311⟩, -, X311, ⟨Lc311, hQ311, l311, y311, z311⟩, st311⟩ := X309.virtualBack hx (y := y_13) (z := y_13) hown (mvT hZ (oH hw 115 rfl)) (mvT hZ (oH hw 94 rfl)) (notFace_of_selects (args := #[]) (mvT hZ (oH hw 96 rfl))) (mvT hZ (oH hw 96 rfl)) (mvT hZ (oH hw 95 rfl)) (by decide) (backOf (W := 1) (rm_scotrue l Z a0 hw [] s1 G1 G2 h0 n0 Z0 C_s1 Sg P5 Sf hG2 Sa Sh Sl Ol) hZ (oH hw 97 rfl) (oH hw 8 rfl) (by decide) (by decide)) q311a q311c (g := (mkF m 11 #[sR b1, sR s1] [(.ref s1), (vI 1)])) rfl (by rw [hml]; rfl) (Steps.refl _) (argsL := []) (rest := [(vI 1)]) (lenOf pd10 rfl) rfl (oW rfl) (hb hby dj68_71_11) (fun _ _ => ⟨rfl, e309, (oB rfl : 0 + 0 ≤ _), (oB rfl : 0 + 0 ≤ _)⟩)
  dsimp only [Pt.U, Pt.locs, Pt.cells, Pt.slots] at X311 l311 y311 z311 st311 hQ311
  subst l311 y311 z311
  obtain ⟨rfl, Nq311, e311⟩ := hQ311
  have N312 := Fr.app N0 Nq311
  have P313 : Rg p e below (T311.setTop (mkF m 14 #[sR b1, sR s1] [(vI 1), (vI 1)])) B0 := fun t k => P310 t (by
    refine XS.aloadN X309.here hx rfl (hb hby dj68_71_10) rfl rfl ?_
    exact st311.trans k)
  obtain ⟨fs314, hr314, hrun314, hended314, hW314, hsame314⟩ := X311.leave (v := none) (fun _ => rfl)
  refine ⟨_, _, pre0 _ (P313 _ ?_), hrun314, hended314, _, _, rfl, ?_, ⟨⟨_, rfl⟩, hW314, hsame314.mono (oB rfl) (oB rfl)⟩⟩
  · show Sq p e below (T311.setTop (mkF m 14 #[sR b1, sR s1] [(vI 1), (vI 1)])) _
    refine XS.icmpYes X311.here hx rfl (pc0 := 14) (pc' := 21) rfl (hb hby dj68_71_14) rfl (teq (show (1 : Int32) = (1 : Int32) from (by decide))).1 (by decide) (by decide) ?_
    exact X311.returnOut hx Bd.returns (hb hby dj68_71_21) hr314
  · show Q_ifn11  h0 n0 _ T311.heap _
    rw [e311]
    exact ⟨rfl, N312, rfl⟩
theorem dj68_71_17 : decode j68_71 17 = .ok (.aload_n 0, 1) := by decide +kernel
theorem dj68_71_18 : decode j68_71 18 = .ok (.invokevirtual 195, 3) := by decide +kernel
theorem pd13 : parseMethodDescriptor "()V" = some ⟨[], none⟩ := by decide +kernel
theorem ef_ifn01 (m : MethodId) (x0 : Addr) (x1 : Addr) : entryFrame m #[(.ref x0), (.ref x1)] 2 = mkF m 0 #[sR x0, sR x1] [] := by (first | (simp [entryFrame, mkF, argsToLocals, Value.category]; done) | rfl)
def Q_ifn01  (h0 : Heap) (n0 : Nat) (v : Option Value) (h : Heap) (L : List Loc) : Prop := v = none ∧ Fr n0 L ∧ h = h0
theorem rm_ifn01 (l : Launch) (Z : State) (a0 : Array Value) (hw : Tb a0 Z) (ws : List Jvm.Cond) (b1 v1 : Addr) (kv : ClassId) (bc : List Int32) (s1 : Addr) (G1 : Int32) (G2 : Value) (h0 : Heap) (n0 : Nat) (Z0 : n0 ≤ h0.size) (g_b1 : n0 ≤ b1) (g_v1 : n0 ≤ v1) (E_b1 : Exa Z h0 b1 nB) (F_value : Fld Z h0 b1 nA "value" "[B" (.ref v1)) (F_coder : Fld Z h0 b1 nA "coder" "B" (vI 1)) (F_count : Fld Z h0 b1 nA "count" "I" (.int (Int32.ofNat bc.length))) (F_maybe : Fld Z h0 b1 nA "maybeLatin1" "Z" (vI 0)) (A_v1 : Arv Z h0 v1 kv .byte (32 : Int32) ((own_by true bc).map Value.int) (vI 0)) (E_v1 : Exa Z h0 v1 "[B") (hb4 : bc.length ≤ 4) (E_s1 : Exa Z h0 s1 nS) (C_s1 : Fld Z h0 s1 nS "coder" "B" (vI 0)) (Sg : oSg Z G1) (P5 : ¬ (G1 = (0 : Int32))) (Sf : oSf Z G2) (hG2 : G2.isRef = true) (Sa : oSa Z) (Sh : oSh Z) (Sl : oSl Z) (Ol : Old Z n0 h0) :
    MF l Z h0 y_19 j68_71 2 none ws (rM 2 0 0 25) #[(.ref b1), (.ref s1)] (Q_ifn01  h0 n0) := by
  refine MetFree.of_bodySF (plainFor_of_name pn_java_lang_AbstractStringBuilder) hisR ?_
  intro p e s m args below meth c s₁ Bd hml hP hK
  obtain ⟨rfl, hZ, hh⟩ := hP
  have hx := Bd.exec
  have hby := Bd.bytes
  have hown : s.vm.findClass "java/lang/AbstractStringBuilder" = some m.cls := findClass_of_methodNamed Bd.named
  have X0 : Stand p l e (rM 2 0 0 25) s m #[(.ref b1), (.ref s1)] below meth c s₁ [] 0 0 := Stand.of_body Bd
  have e0 : s₁.heap = h0 := by rw [← hh, Bd.state]; rfl
  have N0 := Fr.nil n0
  obtain ⟨B0, pre0, P0⟩ : ∃ B, Rg p e below B (s₁.setTop (entryFrame m #[(.ref b1), (.ref s1)] 2)) ∧ Rg p e below (s₁.setTop (mkF m 0 #[sR b1, sR s1] [])) B := ⟨_, fun t k => castTop (ef_ifn01 m b1 s1) k, fun t k => k⟩
  obtain ⟨T315, X315, e315, st315⟩ := getS2 X0 hx hZ hown (host := "") (Or.inl (oH hw 73 rfl)) Via.refl e0 (Sg.ext Ol.2) (g := (mkF m 0 #[sR b1, sR s1] [])) rfl (hb hby dj68_71_0)
  have P316 : Rg p e below (T315.setTop (mkF m 3 #[sR b1, sR s1] [(.int G1)])) B0 := fun t k => P0 t (by
    exact st315 _ k)
  obtain ⟨T317, X317, e317, st317⟩ := getF X315 hx hZ hown (host := "") (Or.inl (oH hw 76 rfl)) Via.refl e315 F_coder (g := (mkF m 7 #[sR b1, sR s1] [(.ref b1)])) rfl rfl (hb hby dj68_71_7)
  have P318 : Rg p e below (T317.setTop (mkF m 10 #[sR b1, sR s1] [(vI 1)])) B0 := fun t k => P316 t (by
    refine XS.ifNo X315.here hx rfl (hb hby dj68_71_3) rfl ((if0 _ _).trans (feq (show ¬ (G1 = (0 : Int32)) from P5)).1) ?_
    refine XS.aloadN X315.here hx rfl (hb hby dj68_71_6) rfl rfl ?_
    exact st317 _ k)
  obtain ⟨cq319, kq319, q319a, q319b, q319c⟩ := isOf hZ e317 E_s1
  obtain ⟨_, _, ⟨T319, L319, k319, n319⟩, -, X319, ⟨Lc319, hQ319, l319, y319, z319⟩, st319⟩ := X317.virtualBack hx (y := y_13) (z := y_13) hown (mvT hZ (oH hw 115 rfl)) (mvT hZ (oH hw 94 rfl)) (notFace_of_selects (args := #[]) (mvT hZ (oH hw 96 rfl))) (mvT hZ (oH hw 96 rfl)) (mvT hZ (oH hw 95 rfl)) (by decide) (backOf (W := 1) (rm_scofalse l Z a0 hw [] s1 G1 G2 h0 n0 Z0 C_s1 Sg P5 Sf hG2 Sa Sh Sl Ol) hZ (oH hw 97 rfl) (oH hw 8 rfl) (by decide) (by decide)) q319a q319c (g := (mkF m 11 #[sR b1, sR s1] [(.ref s1), (vI 1)])) rfl (by rw [hml]; rfl) (Steps.refl _) (argsL := []) (rest := [(vI 1)]) (lenOf pd10 rfl) rfl (oW rfl) (hb hby dj68_71_11) (fun _ _ => ⟨rfl, e317, (oB rfl : 0 + 0 ≤ _), (oB rfl : 0 + 0 ≤ _)⟩)
  dsimp only [Pt.U, Pt.locs, Pt.cells, Pt.slots] at X319 l319 y319 z319 st319 hQ319
  subst l319 y319 z319
  obtain ⟨rfl, Nq319, e319⟩ := hQ319
  have N320 := Fr.app N0 Nq319
  have P321 : Rg p e below (T319.setTop (mkF m 14 #[sR b1, sR s1] [(vI 0), (vI 1)])) B0 := fun t k => P318 t (by
    refine XS.aloadN X317.here hx rfl (hb hby dj68_71_10) rfl rfl ?_
    exact st319.trans k)
  obtain ⟨cq322, q322a, q322b⟩ := E_b1.cell
  obtain ⟨_, _, ⟨T322, L322, k322, n322⟩, -, X322, ⟨Lc322, hQ322, l322, y322, z322⟩, st322⟩ := X319.privateBack hx (y := y_18) hown (mvT hZ (oH hw 222 rfl)) (mvT hZ (oH hw 223 rfl)) (own_selPriv2 (y2 := y_18) rfl (mvT hZ (oH hw 223 rfl)) (Cond.privateMethod_at (mvP hZ (oH hw 224 rfl) (args := #[]))) (mvT hZ (oH hw 225 rfl) (args := #[])) (by decide)) (Cond.privateMethod_at (mvP hZ (oH hw 224 rfl) (args := #[]))) (mvT hZ (oH hw 226 rfl)) (by decide) (backOf (W := 0) (rm_bint l Z a0 hw [] b1 G1 G2 h0 n0 Z0 E_b1 F_coder Sg P5 Sf hG2 Sa Sh Sl Ol) hZ (oH hw 226 rfl) (oH hw 70 rfl) (by decide) (by decide)) (g := (mkF m 18 #[sR b1, sR s1] [(.ref b1)])) rfl (by rw [hml]; rfl) (Steps.refl _) (a := b1) (by rw [e319]; exact q322a) q322b (argsL := []) (rest := []) (lenOf pd13 rfl) rfl (oW rfl) (hb hby dj68_71_18) (fun _ _ => ⟨rfl, e319, (oB rfl : 0 + 0 ≤ _), (oB rfl : 0 + 0 ≤ _)⟩)
  dsimp only [Pt.U, Pt.locs, Pt.cells, Pt.slots] at X322 l322 y322 z322 st322 hQ322
  subst l322 y322 z322
  obtain ⟨rfl, Nq322, e322⟩ := hQ322
  have N323 := Fr.app N320 Nq322
  have P324 : Rg p e below (T322.setTop (mkF m 21 #[sR b1, sR s1] [])) B0 := fun t k => P321 t (by
    refine XS.icmpNo X319.here hx rfl (hb hby dj68_71_14) rfl (feq (show ¬ ((1 : Int32) = (0 : Int32)) from (by decide))).1 ?_
    refine XS.aloadN X319.here hx rfl (hb hby dj68_71_17) rfl rfl ?_
    exact st322.trans k)
  obtain ⟨fs325, hr325, hrun325, hended325, hW325, hsame325⟩ := X322.leave (v := none) (fun _ => rfl)
  refine ⟨_, _, pre0 _ (P324 _ ?_), hrun325, hended325, _, _, rfl, ?_, ⟨⟨_, rfl⟩, hW325, hsame325.mono (oB rfl) (oB rfl)⟩⟩
  · exact X322.returnOut hx Bd.returns (hb hby dj68_71_21) hr325
  · show Q_ifn01  h0 n0 _ T322.heap _
    rw [e322]
    exact ⟨rfl, N323, rfl⟩
theorem ef_ifn10 (m : MethodId) (x0 : Addr) (x1 : Addr) : entryFrame m #[(.ref x0), (.ref x1)] 2 = mkF m 0 #[sR x0, sR x1] [] := by (first | (simp [entryFrame, mkF, argsToLocals, Value.category]; done) | rfl)
def Q_ifn10 (Z : State) (b1 : Addr) (bc : List Int32) (h0 : Heap) (n0 : Nat) (v : Option Value) (h : Heap) (L : List Loc) : Prop := v = none ∧ Fr n0 L ∧ Keep h0 h [b1] ∧ ∃ (v2 : Addr) (k2 : ClassId), Fld Z h b1 nA "value" "[B" (.ref v2) ∧ Fld Z h b1 nA "coder" "B" (vI 1) ∧ Fld Z h b1 nA "count" "I" (.int (Int32.ofNat bc.length)) ∧ Fld Z h b1 nA "maybeLatin1" "Z" (vI 0) ∧ Arv Z h v2 k2 .byte (32 : Int32) ((own_by true bc).map Value.int) (vI 0) ∧ Exa Z h v2 "[B" ∧ h0.size ≤ v2
theorem rm_ifn10 (l : Launch) (Z : State) (a0 : Array Value) (hw : Tb a0 Z) (ws : List Jvm.Cond) (b1 v1 : Addr) (kv : ClassId) (bc : List Int32) (s1 : Addr) (G1 : Int32) (G2 : Value) (h0 : Heap) (n0 : Nat) (Z0 : n0 ≤ h0.size) (g_b1 : n0 ≤ b1) (g_v1 : n0 ≤ v1) (E_b1 : Exa Z h0 b1 nB) (F_value : Fld Z h0 b1 nA "value" "[B" (.ref v1)) (F_coder : Fld Z h0 b1 nA "coder" "B" (vI 0)) (F_count : Fld Z h0 b1 nA "count" "I" (.int (Int32.ofNat bc.length))) (F_maybe : Fld Z h0 b1 nA "maybeLatin1" "Z" (vI 0)) (A_v1 : Arv Z h0 v1 kv .byte (16 : Int32) ((own_by false bc).map Value.int) (vI 0)) (E_v1 : Exa Z h0 v1 "[B") (hb4 : bc.length ≤ 4) (E_s1 : Exa Z h0 s1 nS) (C_s1 : Fld Z h0 s1 nS "coder" "B" (vI 1)) (hbb : ∀ c ∈ bc, ¬ c < 0 ∧ ¬ (255 : Int32) < c) (Sg : oSg Z G1) (P5 : ¬ (G1 = (0 : Int32))) (Sf : oSf Z G2) (hG2 : G2.isRef = true) (Sa : oSa Z) (Sh : oSh Z) (Sl : oSl Z) (Ol : Old Z n0 h0) :
    MF l Z h0 y_19 j68_71 2 none ws (rM 6 1 32 89) #[(.ref b1), (.ref s1)] (Q_ifn10 Z b1 bc h0 n0) := by
  refine MetFree.of_bodySF (plainFor_of_name pn_java_lang_AbstractStringBuilder) hisR ?_
  intro p e s m args below meth c s₁ Bd hml hP hK
  obtain ⟨rfl, hZ, hh⟩ := hP
  have hx := Bd.exec
  have hby := Bd.bytes
  have hown : s.vm.findClass "java/lang/AbstractStringBuilder" = some m.cls := findClass_of_methodNamed Bd.named
  have X0 : Stand p l e (rM 6 1 32 89) s m #[(.ref b1), (.ref s1)] below meth c s₁ [] 0 0 := Stand.of_body Bd
  have e0 : s₁.heap = h0 := by rw [← hh, Bd.state]; rfl
  have N0 := Fr.nil n0
  obtain ⟨B0, pre0, P0⟩ : ∃ B, Rg p e below B (s₁.setTop (entryFrame m #[(.ref b1), (.ref s1)] 2)) ∧ Rg p e below (s₁.setTop (mkF m 0 #[sR b1, sR s1] [])) B := ⟨_, fun t k => castTop (ef_ifn10 m b1 s1) k, fun t k => k⟩
  obtain ⟨T326, X326, e326, st326⟩ := getS2 X0 hx hZ hown (host := "") (Or.inl (oH hw 73 rfl)) Via.refl e0 (Sg.ext Ol.2) (g := (mkF m 0 #[sR b1, sR s1] [])) rfl (hb hby dj68_71_0)
  have P327 : Rg p e below (T326.setTop (mkF m 3 #[sR b1, sR s1] [(.int G1)])) B0 := fun t k => P0 t (by
    exact st326 _ k)
  obtain ⟨T328, X328, e328, st328⟩ := getF X326 hx hZ hown (host := "") (Or.inl (oH hw 76 rfl)) Via.refl e326 F_coder (g := (mkF m 7 #[sR b1, sR s1] [(.ref b1)])) rfl rfl (hb hby dj68_71_7)
  have P329 : Rg p e below (T328.setTop (mkF m 10 #[sR b1, sR s1] [(vI 0)])) B0 := fun t k => P327 t (by
    refine XS.ifNo X326.here hx rfl (hb hby dj68_71_3) rfl ((if0 _ _).trans (feq (show ¬ (G1 = (0 : Int32)) from P5)).1) ?_
    refine XS.aloadN X326.here hx rfl (hb hby dj68_71_6) rfl rfl ?_
    exact st328 _ k)
  obtain ⟨cq330, kq330, q330a, q330b, q330c⟩ := isOf hZ e328 E_s1
  obtain ⟨_, _, ⟨T330, L330, k330, n330⟩, -, X330, ⟨Lc330, hQ330, l330, y330, z330⟩, st330⟩ := X328.virtualBack hx (y := y_13) (z := y_13) hown (mvT hZ (oH hw 115 rfl)) (mvT hZ (oH hw 94 rfl)) (notFace_of_selects (args := #[]) (mvT hZ (oH hw 96 rfl))) (mvT hZ (oH hw 96 rfl)) (mvT hZ (oH hw 95 rfl)) (by decide) (backOf (W := 1) (rm_scotrue l Z a0 hw [] s1 G1 G2 h0 n0 Z0 C_s1 Sg P5 Sf hG2 Sa Sh Sl Ol) hZ (oH hw 97 rfl) (oH hw 8 rfl) (by decide) (by decide)) q330a q330c (g := (mkF m 11 #[sR b1, sR s1] [(.ref s1), (vI 0)])) rfl (by rw [hml]; rfl) (Steps.refl _) (argsL := []) (rest := [(vI 0)]) (lenOf pd10 rfl) rfl (oW rfl) (hb hby dj68_71_11) (fun _ _ => ⟨rfl, e328, (oB rfl : 0 + 0 ≤ _), (oB rfl : 0 + 0 ≤ _)⟩)
  dsimp only [Pt.U, Pt.locs, Pt.cells, Pt.slots] at X330 l330 y330 z330 st330 hQ330
  subst l330 y330 z330
  obtain ⟨rfl, Nq330, e330⟩ := hQ330
  have N331 := Fr.app N0 Nq330
  have P332 : Rg p e below (T330.setTop (mkF m 14 #[sR b1, sR s1] [(vI 1), (vI 0)])) B0 := fun t k => P329 t (by
    refine XS.aloadN X328.here hx rfl (hb hby dj68_71_10) rfl rfl ?_
    exact st330.trans k)
  obtain ⟨cq333, q333a, q333b⟩ := E_b1.cell
  obtain ⟨_, _, ⟨T333, L333, k333, n333⟩, -, X333, ⟨Lc333, hQ333, l333, y333, z333⟩, st333⟩ := X330.privateBack hx (y := y_18) hown (mvT hZ (oH hw 222 rfl)) (mvT hZ (oH hw 223 rfl)) (own_selPriv2 (y2 := y_18) rfl (mvT hZ (oH hw 223 rfl)) (Cond.privateMethod_at (mvP hZ (oH hw 224 rfl) (args := #[]))) (mvT hZ (oH hw 225 rfl) (args := #[])) (by decide)) (Cond.privateMethod_at (mvP hZ (oH hw 224 rfl) (args := #[]))) (mvT hZ (oH hw 226 rfl)) (by decide) (backOf (W := 0) (rm_binf l Z a0 hw [] b1 v1 kv bc G1 G2 h0 n0 Z0 g_b1 g_v1 E_b1 F_value F_coder F_count F_maybe A_v1 E_v1 hb4 hbb Sg P5 Sf hG2 Sa Sh Sl Ol) hZ (oH hw 226 rfl) (oH hw 70 rfl) (by decide) (by decide)) (g := (mkF m 18 #[sR b1, sR s1] [(.ref b1)])) rfl (by rw [hml]; rfl) (Steps.refl _) (a := b1) (by rw [e330]; exact q333a) q333b (argsL := []) (rest := []) (lenOf pd13 rfl) rfl (oW rfl) (hb hby dj68_71_18) (fun _ _ => ⟨rfl, e330, (oB rfl : 0 + 1 ≤ _), (oB rfl : 0 + 32 ≤ _)⟩)
  dsimp only [Pt.U, Pt.locs, Pt.cells, Pt.slots] at X333 l333 y333 z333 st333 hQ333
  subst l333 y333 z333
  obtain ⟨rfl, Nq333, K333, v2333, k2333, F1333, F2333, F3333, F4333, A333, E333, s333⟩ := hQ333
  have N334 := Fr.app N331 Nq333
  have P335 : Rg p e below (T333.setTop (mkF m 21 #[sR b1, sR s1] [])) B0 := fun t k => P332 t (by
    refine XS.icmpNo X330.here hx rfl (hb hby dj68_71_14) rfl (feq (show ¬ ((0 : Int32) = (1 : Int32)) from (by decide))).1 ?_
    refine XS.aloadN X330.here hx rfl (hb hby dj68_71_17) rfl rfl ?_
    exact st333.trans k)
  have Z336 : n0 ≤ T333.heap.size := Nat.le_trans Z0 K333.1
  have K337 : Keep h0 T333.heap [b1] := (Keep.refl h0 [b1]).trans K333 ((allS (Or.inl (List.mem_of_getElem? (i := 0) rfl)) all0))
  have O338 : Old Z n0 T333.heap := Ol.keep K333 (allS g_b1 all0)
  obtain ⟨fs339, hr339, hrun339, hended339, hW339, hsame339⟩ := X333.leave (v := none) (fun _ => rfl)
  refine ⟨_, _, pre0 _ (P335 _ ?_), hrun339, hended339, _, _, rfl, ?_, ⟨⟨_, rfl⟩, hW339, hsame339.mono (oB rfl) (oB rfl)⟩⟩
  · exact X333.returnOut hx Bd.returns (hb hby dj68_71_21) hr339
  · show Q_ifn10 Z b1 bc h0 n0 _ T333.heap _
    exact ⟨rfl, N334, K337, v2333, k2333, F1333, F2333, F3333, F4333, A333, E333, s333⟩
theorem dj68_73_0 : decode j68_73 0 = .ok (.aload_n 0, 1) := by decide +kernel
theorem dj68_73_1 : decode j68_73 1 = .ok (.aload_n 2, 1) := by decide +kernel
theorem dj68_73_2 : decode j68_73 2 = .ok (.invokevirtual 397, 3) := by decide +kernel
theorem pd14 : parseMethodDescriptor "(Ljava/lang/String;)V" = some ⟨[(.object nS)], none⟩ := by decide +kernel
theorem dj68_73_5 : decode j68_73 5 = .ok (.aload_n 2, 1) := by decide +kernel
theorem dj68_73_6 : decode j68_73 6 = .ok (.aload_n 0, 1) := by decide +kernel
theorem dj68_73_7 : decode j68_73 7 = .ok (.getfield 15, 3) := by decide +kernel
theorem dj68_73_10 : decode j68_73 10 = .ok (.iload_n 1, 1) := by decide +kernel
theorem dj68_73_11 : decode j68_73 11 = .ok (.aload_n 0, 1) := by decide +kernel
theorem dj68_73_12 : decode j68_73 12 = .ok (.getfield 22, 3) := by decide +kernel
theorem dj68_73_15 : decode j68_73 15 = .ok (.invokevirtual 399, 3) := by decide +kernel
theorem pd15 : parseMethodDescriptor "([BIB)V" = some ⟨[(.array .byte), .int, .byte], none⟩ := by decide +kernel
theorem dj68_73_18 : decode j68_73 18 = .ok (.return_, 1) := by decide +kernel
theorem ef_pst00 (m : MethodId) (x0 : Addr) (x1 : Int32) (x2 : Addr) : entryFrame m #[(.ref x0), (.int x1), (.ref x2)] 3 = mkF m 0 #[sR x0, sI x1, sR x2] [] := by (first | (simp [entryFrame, mkF, argsToLocals, Value.category]; done) | rfl)
def Q_pst00 (Z : State) (b1 v1 : Addr) (bc cs : List Int32) (h0 : Heap) (n0 : Nat) (v : Option Value) (h : Heap) (L : List Loc) : Prop := v = none ∧ Fr n0 L ∧ Keep h0 h [b1, v1] ∧ ∃ (v2 : Addr) (k2 : ClassId), Fld Z h b1 nA "value" "[B" (.ref v2) ∧ Fld Z h b1 nA "coder" "B" (vI 0) ∧ Fld Z h b1 nA "count" "I" (.int (Int32.ofNat bc.length)) ∧ Fld Z h b1 nA "maybeLatin1" "Z" (vI 0) ∧ Arv Z h v2 k2 .byte (16 : Int32) ((own_by false (bc ++ cs)).map Value.int) (vI 0) ∧ Exa Z h v2 "[B" ∧ n0 ≤ v2 ∧ (v2 = v1 ∨ h0.size ≤ v2)
theorem rm_pst00 (l : Launch) (Z : State) (a0 : Array Value) (hw : Tb a0 Z) (ws : List Jvm.Cond) (b1 v1 : Addr) (kv : ClassId) (bc : List Int32) (s1 t1 : Addr) (kt : ClassId) (N : Int32) (cs : List Int32) (G1 : Int32) (G2 : Value) (h0 : Heap) (n0 : Nat) (Z0 : n0 ≤ h0.size) (g_b1 : n0 ≤ b1) (g_v1 : n0 ≤ v1) (E_b1 : Exa Z h0 b1 nB) (F_value : Fld Z h0 b1 nA "value" "[B" (.ref v1)) (F_coder : Fld Z h0 b1 nA "coder" "B" (vI 0)) (F_count : Fld Z h0 b1 nA "count" "I" (.int (Int32.ofNat bc.length))) (F_maybe : Fld Z h0 b1 nA "maybeLatin1" "Z" (vI 0)) (A_v1 : Arv Z h0 v1 kv .byte (16 : Int32) ((own_by false bc).map Value.int) (vI 0)) (E_v1 : Exa Z h0 v1 "[B") (hb4 : bc.length ≤ 4) (E_s1 : Exa Z h0 s1 nS) (V_s1 : Fld Z h0 s1 nS "value" "[B" (.ref t1)) (C_s1 : Fld Z h0 s1 nS "coder" "B" (vI 0)) (A_s1 : Arv Z h0 t1 kt .byte N ((own_by false cs).map Value.int) (vI 0)) (N_s1 : N = Int32.ofNat (own_by false cs).length) (hc2 : cs.length ≤ 2) (nTV : t1 ≠ v1) (Sg : oSg Z G1) (P5 : ¬ (G1 = (0 : Int32))) (Sf : oSf Z G2) (hG2 : G2.isRef = true) (Sa : oSa Z) (Sh : oSh Z) (Sl : oSl Z) (Ol : Old Z n0 h0) :
    MF l Z h0 y_20 j68_73 3 none ws (rM 2 0 0 33) #[(.ref b1), (.int (Int32.ofNat bc.length)), (.ref s1)] (Q_pst00 Z b1 v1 bc cs h0 n0) := by
  refine MetFree.of_bodySF (plainFor_of_name pn_java_lang_AbstractStringBuilder) hisR ?_
  intro p e s m args below meth c s₁ Bd hml hP hK
  obtain ⟨rfl, hZ, hh⟩ := hP
  have hx := Bd.exec
  have hby := Bd.bytes
  have hown : s.vm.findClass "java/lang/AbstractStringBuilder" = some m.cls := findClass_of_methodNamed Bd.named
  have X0 : Stand p l e (rM 2 0 0 33) s m #[(.ref b1), (.int (Int32.ofNat bc.length)), (.ref s1)] below meth c s₁ [] 0 0 := Stand.of_body Bd
  have e0 : s₁.heap = h0 := by rw [← hh, Bd.state]; rfl
  have N0 := Fr.nil n0
  obtain ⟨B0, pre0, P0⟩ : ∃ B, Rg p e below B (s₁.setTop (entryFrame m #[(.ref b1), (.int (Int32.ofNat bc.length)), (.ref s1)] 3)) ∧ Rg p e below (s₁.setTop (mkF m 0 #[sR b1, .val (.int (Int32.ofNat bc.length)), sR s1] [])) B := ⟨_, fun t k => castTop (ef_pst00 m b1 (Int32.ofNat bc.length) s1) k, fun t k => k⟩
  obtain ⟨cq340, q340a, q340b⟩ := E_b1.cell
  obtain ⟨_, _, ⟨T340, L340, k340, n340⟩, -, X340, ⟨Lc340, hQ340, l340, y340, z340⟩, st340⟩ := X0.privateBack hx (y := y_19) hown (mvT hZ (oH hw 110 rfl)) (mvT hZ (oH hw 111 rfl)) (own_selPriv2 (y2 := y_19) rfl (mvT hZ (oH hw 111 rfl)) (Cond.privateMethod_at (mvP hZ (oH hw 112 rfl) (args := #[]))) (mvT hZ (oH hw 113 rfl) (args := #[])) (by decide)) (Cond.privateMethod_at (mvP hZ (oH hw 112 rfl) (args := #[]))) (mvT hZ (oH hw 114 rfl)) (by decide) (backOf (W := 0) (rm_ifn00 l Z a0 hw [] b1 v1 kv bc s1 G1 G2 h0 n0 Z0 g_b1 g_v1 E_b1 F_value F_coder F_count F_maybe A_v1 E_v1 hb4 E_s1 C_s1 Sg P5 Sf hG2 Sa Sh Sl Ol) hZ (oH hw 114 rfl) (oH hw 70 rfl) (by decide) (by decide)) (g := (mkF m 2 #[sR b1, .val (.int (Int32.ofNat bc.length)), sR s1] [(.ref s1), (.ref b1)])) rfl (by rw [hml]; rfl) (Steps.refl _) (a := b1) (by rw [e0]; exact q340a) q340b (argsL := [(.ref s1)]) (rest := []) (lenOf pd14 rfl) rfl (oW rfl) (hb hby dj68_73_2) (fun _ _ => ⟨rfl, e0, (oB rfl : 0 + 0 ≤ _), (oB rfl : 0 + 0 ≤ _)⟩)
  dsimp only [Pt.U, Pt.locs, Pt.cells, Pt.slots] at X340 l340 y340 z340 st340 hQ340
  subst l340 y340 z340
  obtain ⟨rfl, Nq340, e340⟩ := hQ340
  have N341 := Fr.app N0 Nq340
  have P342 : Rg p e below (T340.setTop (mkF m 5 #[sR b1, .val (.int (Int32.ofNat bc.length)), sR s1] [])) B0 := fun t k => P0 t (by
    refine XS.aloadN X0.here hx rfl (hb hby dj68_73_0) rfl rfl ?_
    refine XS.aloadN X0.here hx rfl (hb hby dj68_73_1) rfl rfl ?_
    exact st340.trans k)
  obtain ⟨T343, X343, e343, st343⟩ := getF X340 hx hZ hown (host := "") (Or.inl (oH hw 74 rfl)) Via.refl e340 F_value (g := (mkF m 7 #[sR b1, .val (.int (Int32.ofNat bc.length)), sR s1] [(.ref b1), (.ref s1)])) rfl rfl (hb hby dj68_73_7)
  have P344 : Rg p e below (T343.setTop (mkF m 10 #[sR b1, .val (.int (Int32.ofNat bc.length)), sR s1] [(.ref v1), (.ref s1)])) B0 := fun t k => P342 t (by
    refine XS.aloadN X340.here hx rfl (hb hby dj68_73_5) rfl rfl ?_
    refine XS.aloadN X340.here hx rfl (hb hby dj68_73_6) rfl rfl ?_
    exact st343 _ k)
  obtain ⟨T345, X345, e345, st345⟩ := getF X343 hx hZ hown (host := "") (Or.inl (oH hw 76 rfl)) Via.refl e343 F_coder (g := (mkF m 12 #[sR b1, .val (.int (Int32.ofNat bc.length)), sR s1] [(.ref b1), (.int (Int32.ofNat bc.length)), (.ref v1), (.ref s1)])) rfl rfl (hb hby dj68_73_12)
  have P346 : Rg p e below (T345.setTop (mkF m 15 #[sR b1, .val (.int (Int32.ofNat bc.length)), sR s1] [(vI 0), (.int (Int32.ofNat bc.length)), (.ref v1), (.ref s1)])) B0 := fun t k => P344 t (by
    refine XS.iloadN X343.here hx rfl (hb hby dj68_73_10) rfl ?_
    refine XS.aloadN X343.here hx rfl (hb hby dj68_73_11) rfl rfl ?_
    exact st345 _ k)
  obtain ⟨cq347, kq347, q347a, q347b, q347c⟩ := isOf hZ e345 E_s1
  obtain ⟨_, _, ⟨T347, L347, k347, n347⟩, -, X347, ⟨Lc347, hQ347, l347, y347, z347⟩, st347⟩ := X345.virtualBack hx (y := y_16) (z := y_16) hown (mvT hZ (oH hw 116 rfl)) (mvT hZ (oH hw 117 rfl)) (notFace_of_selects (args := #[]) (mvT hZ (oH hw 119 rfl))) (mvT hZ (oH hw 119 rfl)) (mvT hZ (oH hw 118 rfl)) (by decide) (backOf (W := 0) (rm_gby00 l Z a0 hw [] s1 t1 kt N cs v1 kv bc G1 G2 h0 n0 Z0 E_s1 V_s1 C_s1 A_s1 N_s1 hc2 hb4 g_v1 A_v1 nTV Sg P5 Sf hG2 Sa Sh Sl Ol) hZ (oH hw 120 rfl) (oH hw 8 rfl) (by decide) (by decide)) q347a q347c (g := (mkF m 15 #[sR b1, .val (.int (Int32.ofNat bc.length)), sR s1] [(vI 0), (.int (Int32.ofNat bc.length)), (.ref v1), (.ref s1)])) rfl (by rw [hml]; rfl) (Steps.refl _) (argsL := [(.ref v1), (.int (Int32.ofNat bc.length)), (vI 0)]) (rest := []) (lenOf pd15 rfl) rfl (oW rfl) (hb hby dj68_73_15) (fun _ _ => ⟨rfl, e345, (oB rfl : 0 + 0 ≤ _), (oB rfl : 0 + 0 ≤ _)⟩)
  dsimp only [Pt.U, Pt.locs, Pt.cells, Pt.slots] at X347 l347 y347 z347 st347 hQ347
  subst l347 y347 z347
  obtain ⟨rfl, Nq347, K347, A347⟩ := hQ347
  have N348 := Fr.app N341 Nq347
  have P349 : Rg p e below (T347.setTop (mkF m 18 #[sR b1, .val (.int (Int32.ofNat bc.length)), sR s1] [])) B0 := fun t k => P346 t (by
    exact st347.trans k)
  have Z350 : n0 ≤ T347.heap.size := Nat.le_trans Z0 K347.1
  have K351 : Keep h0 T347.heap [b1, v1] := (Keep.refl h0 [b1, v1]).trans K347 ((allS (Or.inl (List.mem_of_getElem? (i := 1) rfl)) all0))
  have O352 : Old Z n0 T347.heap := Ol.keep K347 (allS g_v1 all0)
  have f353 := (F_value.keep K347 (ninS (Exa.ne E_b1 E_v1 (by decide)) nin0))
  have f354 := (F_coder.keep K347 (ninS (Exa.ne E_b1 E_v1 (by decide)) nin0))
  have f355 := (F_count.keep K347 (ninS (Exa.ne E_b1 E_v1 (by decide)) nin0))
  have f356 := (F_maybe.keep K347 (ninS (Exa.ne E_b1 E_v1 (by decide)) nin0))
  have f357 := (E_v1.keep K347)
  obtain ⟨fs358, hr358, hrun358, hended358, hW358, hsame358⟩ := X347.leave (v := none) (fun _ => rfl)
  refine ⟨_, _, pre0 _ (P349 _ ?_), hrun358, hended358, _, _, rfl, ?_, ⟨⟨_, rfl⟩, hW358, hsame358.mono (oB rfl) (oB rfl)⟩⟩
  · exact X347.returnOut hx Bd.returns (hb hby dj68_73_18) hr358
  · show Q_pst00 Z b1 v1 bc cs h0 n0 _ T347.heap _
    exact ⟨rfl, N348, K351, v1, kv, f353, f354, f355, f356, A347, f357, g_v1, Or.inl rfl⟩
theorem ef_pst11 (m : MethodId) (x0 : Addr) (x1 : Int32) (x2 : Addr) : entryFrame m #[(.ref x0), (.int x1), (.ref x2)] 3 = mkF m 0 #[sR x0, sI x1, sR x2] [] := by (first | (simp [entryFrame, mkF, argsToLocals, Value.category]; done) | rfl)
def Q_pst11 (Z : State) (b1 v1 : Addr) (bc cs : List Int32) (h0 : Heap) (n0 : Nat) (v : Option Value) (h : Heap) (L : List Loc) : Prop := v = none ∧ Fr n0 L ∧ Keep h0 h [b1, v1] ∧ ∃ (v2 : Addr) (k2 : ClassId), Fld Z h b1 nA "value" "[B" (.ref v2) ∧ Fld Z h b1 nA "coder" "B" (vI 1) ∧ Fld Z h b1 nA "count" "I" (.int (Int32.ofNat bc.length)) ∧ Fld Z h b1 nA "maybeLatin1" "Z" (vI 0) ∧ Arv Z h v2 k2 .byte (32 : Int32) ((own_by true (bc ++ cs)).map Value.int) (vI 0) ∧ Exa Z h v2 "[B" ∧ n0 ≤ v2 ∧ (v2 = v1 ∨ h0.size ≤ v2)
theorem rm_pst11 (l : Launch) (Z : State) (a0 : Array Value) (hw : Tb a0 Z) (ws : List Jvm.Cond) (b1 v1 : Addr) (kv : ClassId) (bc : List Int32) (s1 t1 : Addr) (kt : ClassId) (N : Int32) (cs : List Int32) (G1 : Int32) (G2 : Value) (h0 : Heap) (n0 : Nat) (Z0 : n0 ≤ h0.size) (g_b1 : n0 ≤ b1) (g_v1 : n0 ≤ v1) (E_b1 : Exa Z h0 b1 nB) (F_value : Fld Z h0 b1 nA "value" "[B" (.ref v1)) (F_coder : Fld Z h0 b1 nA "coder" "B" (vI 1)) (F_count : Fld Z h0 b1 nA "count" "I" (.int (Int32.ofNat bc.length))) (F_maybe : Fld Z h0 b1 nA "maybeLatin1" "Z" (vI 0)) (A_v1 : Arv Z h0 v1 kv .byte (32 : Int32) ((own_by true bc).map Value.int) (vI 0)) (E_v1 : Exa Z h0 v1 "[B") (hb4 : bc.length ≤ 4) (E_s1 : Exa Z h0 s1 nS) (V_s1 : Fld Z h0 s1 nS "value" "[B" (.ref t1)) (C_s1 : Fld Z h0 s1 nS "coder" "B" (vI 1)) (A_s1 : Arv Z h0 t1 kt .byte N ((own_by true cs).map Value.int) (vI 0)) (N_s1 : N = Int32.ofNat (own_by true cs).length) (hc2 : cs.length ≤ 2) (nTV : t1 ≠ v1) (Sg : oSg Z G1) (P5 : ¬ (G1 = (0 : Int32))) (Sf : oSf Z G2) (hG2 : G2.isRef = true) (Sa : oSa Z) (Sh : oSh Z) (Sl : oSl Z) (Ol : Old Z n0 h0) :
    MF l Z h0 y_20 j68_73 3 none ws (rM 2 0 0 33) #[(.ref b1), (.int (Int32.ofNat bc.length)), (.ref s1)] (Q_pst11 Z b1 v1 bc cs h0 n0) := by
  refine MetFree.of_bodySF (plainFor_of_name pn_java_lang_AbstractStringBuilder) hisR ?_
  intro p e s m args below meth c s₁ Bd hml hP hK
  obtain ⟨rfl, hZ, hh⟩ := hP
  have hx := Bd.exec
  have hby := Bd.bytes
  have hown : s.vm.findClass "java/lang/AbstractStringBuilder" = some m.cls := findClass_of_methodNamed Bd.named
  have X0 : Stand p l e (rM 2 0 0 33) s m #[(.ref b1), (.int (Int32.ofNat bc.length)), (.ref s1)] below meth c s₁ [] 0 0 := Stand.of_body Bd
  have e0 : s₁.heap = h0 := by rw [← hh, Bd.state]; rfl
  have N0 := Fr.nil n0
  obtain ⟨B0, pre0, P0⟩ : ∃ B, Rg p e below B (s₁.setTop (entryFrame m #[(.ref b1), (.int (Int32.ofNat bc.length)), (.ref s1)] 3)) ∧ Rg p e below (s₁.setTop (mkF m 0 #[sR b1, .val (.int (Int32.ofNat bc.length)), sR s1] [])) B := ⟨_, fun t k => castTop (ef_pst11 m b1 (Int32.ofNat bc.length) s1) k, fun t k => k⟩
  obtain ⟨cq359, q359a, q359b⟩ := E_b1.cell
  obtain ⟨_, _, ⟨T359, L359, k359, n359⟩, -, X359, ⟨Lc359, hQ359, l359, y359, z359⟩, st359⟩ := X0.privateBack hx (y := y_19) hown (mvT hZ (oH hw 110 rfl)) (mvT hZ (oH hw 111 rfl)) (own_selPriv2 (y2 := y_19) rfl (mvT hZ (oH hw 111 rfl)) (Cond.privateMethod_at (mvP hZ (oH hw 112 rfl) (args := #[]))) (mvT hZ (oH hw 113 rfl) (args := #[])) (by decide)) (Cond.privateMethod_at (mvP hZ (oH hw 112 rfl) (args := #[]))) (mvT hZ (oH hw 114 rfl)) (by decide) (backOf (W := 0) (rm_ifn11 l Z a0 hw [] b1 v1 kv bc s1 G1 G2 h0 n0 Z0 g_b1 g_v1 E_b1 F_value F_coder F_count F_maybe A_v1 E_v1 hb4 E_s1 C_s1 Sg P5 Sf hG2 Sa Sh Sl Ol) hZ (oH hw 114 rfl) (oH hw 70 rfl) (by decide) (by decide)) (g := (mkF m 2 #[sR b1, .val (.int (Int32.ofNat bc.length)), sR s1] [(.ref s1), (.ref b1)])) rfl (by rw [hml]; rfl) (Steps.refl _) (a := b1) (by rw [e0]; exact q359a) q359b (argsL := [(.ref s1)]) (rest := []) (lenOf pd14 rfl) rfl (oW rfl) (hb hby dj68_73_2) (fun _ _ => ⟨rfl, e0, (oB rfl : 0 + 0 ≤ _), (oB rfl : 0 + 0 ≤ _)⟩)
  dsimp only [Pt.U, Pt.locs, Pt.cells, Pt.slots] at X359 l359 y359 z359 st359 hQ359
  subst l359 y359 z359
  obtain ⟨rfl, Nq359, e359⟩ := hQ359
  have N360 := Fr.app N0 Nq359
  have P361 : Rg p e below (T359.setTop (mkF m 5 #[sR b1, .val (.int (Int32.ofNat bc.length)), sR s1] [])) B0 := fun t k => P0 t (by
    refine XS.aloadN X0.here hx rfl (hb hby dj68_73_0) rfl rfl ?_
    refine XS.aloadN X0.here hx rfl (hb hby dj68_73_1) rfl rfl ?_
    exact st359.trans k)
  obtain ⟨T362, X362, e362, st362⟩ := getF X359 hx hZ hown (host := "") (Or.inl (oH hw 74 rfl)) Via.refl e359 F_value (g := (mkF m 7 #[sR b1, .val (.int (Int32.ofNat bc.length)), sR s1] [(.ref b1), (.ref s1)])) rfl rfl (hb hby dj68_73_7)
  have P363 : Rg p e below (T362.setTop (mkF m 10 #[sR b1, .val (.int (Int32.ofNat bc.length)), sR s1] [(.ref v1), (.ref s1)])) B0 := fun t k => P361 t (by
    refine XS.aloadN X359.here hx rfl (hb hby dj68_73_5) rfl rfl ?_
    refine XS.aloadN X359.here hx rfl (hb hby dj68_73_6) rfl rfl ?_
    exact st362 _ k)
  obtain ⟨T364, X364, e364, st364⟩ := getF X362 hx hZ hown (host := "") (Or.inl (oH hw 76 rfl)) Via.refl e362 F_coder (g := (mkF m 12 #[sR b1, .val (.int (Int32.ofNat bc.length)), sR s1] [(.ref b1), (.int (Int32.ofNat bc.length)), (.ref v1), (.ref s1)])) rfl rfl (hb hby dj68_73_12)
  have P365 : Rg p e below (T364.setTop (mkF m 15 #[sR b1, .val (.int (Int32.ofNat bc.length)), sR s1] [(vI 1), (.int (Int32.ofNat bc.length)), (.ref v1), (.ref s1)])) B0 := fun t k => P363 t (by
    refine XS.iloadN X362.here hx rfl (hb hby dj68_73_10) rfl ?_
    refine XS.aloadN X362.here hx rfl (hb hby dj68_73_11) rfl rfl ?_
    exact st364 _ k)
  obtain ⟨cq366, kq366, q366a, q366b, q366c⟩ := isOf hZ e364 E_s1
  obtain ⟨_, _, ⟨T366, L366, k366, n366⟩, -, X366, ⟨Lc366, hQ366, l366, y366, z366⟩, st366⟩ := X364.virtualBack hx (y := y_16) (z := y_16) hown (mvT hZ (oH hw 116 rfl)) (mvT hZ (oH hw 117 rfl)) (notFace_of_selects (args := #[]) (mvT hZ (oH hw 119 rfl))) (mvT hZ (oH hw 119 rfl)) (mvT hZ (oH hw 118 rfl)) (by decide) (backOf (W := 0) (rm_gby11 l Z a0 hw [] s1 t1 kt N cs v1 kv bc G1 G2 h0 n0 Z0 E_s1 V_s1 C_s1 A_s1 N_s1 hc2 hb4 g_v1 A_v1 nTV Sg P5 Sf hG2 Sa Sh Sl Ol) hZ (oH hw 120 rfl) (oH hw 8 rfl) (by decide) (by decide)) q366a q366c (g := (mkF m 15 #[sR b1, .val (.int (Int32.ofNat bc.length)), sR s1] [(vI 1), (.int (Int32.ofNat bc.length)), (.ref v1), (.ref s1)])) rfl (by rw [hml]; rfl) (Steps.refl _) (argsL := [(.ref v1), (.int (Int32.ofNat bc.length)), (vI 1)]) (rest := []) (lenOf pd15 rfl) rfl (oW rfl) (hb hby dj68_73_15) (fun _ _ => ⟨rfl, e364, (oB rfl : 0 + 0 ≤ _), (oB rfl : 0 + 0 ≤ _)⟩)
  dsimp only [Pt.U, Pt.locs, Pt.cells, Pt.slots] at X366 l366 y366 z366 st366 hQ366
  subst l366 y366 z366
  obtain ⟨rfl, Nq366, K366, A366⟩ := hQ366
  have N367 := Fr.app N360 Nq366
  have P368 : Rg p e below (T366.setTop (mkF m 18 #[sR b1, .val (.int (Int32.ofNat bc.length)), sR s1] [])) B0 := fun t k => P365 t (by
    exact st366.trans k)
  have Z369 : n0 ≤ T366.heap.size := Nat.le_trans Z0 K366.1
  have K370 : Keep h0 T366.heap [b1, v1] := (Keep.refl h0 [b1, v1]).trans K366 ((allS (Or.inl (List.mem_of_getElem? (i := 1) rfl)) all0))
  have O371 : Old Z n0 T366.heap := Ol.keep K366 (allS g_v1 all0)
  have f372 := (F_value.keep K366 (ninS (Exa.ne E_b1 E_v1 (by decide)) nin0))
  have f373 := (F_coder.keep K366 (ninS (Exa.ne E_b1 E_v1 (by decide)) nin0))
  have f374 := (F_count.keep K366 (ninS (Exa.ne E_b1 E_v1 (by decide)) nin0))
  have f375 := (F_maybe.keep K366 (ninS (Exa.ne E_b1 E_v1 (by decide)) nin0))
  have f376 := (E_v1.keep K366)
  obtain ⟨fs377, hr377, hrun377, hended377, hW377, hsame377⟩ := X366.leave (v := none) (fun _ => rfl)
  refine ⟨_, _, pre0 _ (P368 _ ?_), hrun377, hended377, _, _, rfl, ?_, ⟨⟨_, rfl⟩, hW377, hsame377.mono (oB rfl) (oB rfl)⟩⟩
  · exact X366.returnOut hx Bd.returns (hb hby dj68_73_18) hr377
  · show Q_pst11 Z b1 v1 bc cs h0 n0 _ T366.heap _
    exact ⟨rfl, N367, K370, v1, kv, f372, f373, f374, f375, A366, f376, g_v1, Or.inl rfl⟩
theorem ef_pst01 (m : MethodId) (x0 : Addr) (x1 : Int32) (x2 : Addr) : entryFrame m #[(.ref x0), (.int x1), (.ref x2)] 3 = mkF m 0 #[sR x0, sI x1, sR x2] [] := by (first | (simp [entryFrame, mkF, argsToLocals, Value.category]; done) | rfl)
def Q_pst01 (Z : State) (b1 v1 : Addr) (bc cs : List Int32) (h0 : Heap) (n0 : Nat) (v : Option Value) (h : Heap) (L : List Loc) : Prop := v = none ∧ Fr n0 L ∧ Keep h0 h [b1, v1] ∧ ∃ (v2 : Addr) (k2 : ClassId), Fld Z h b1 nA "value" "[B" (.ref v2) ∧ Fld Z h b1 nA "coder" "B" (vI 1) ∧ Fld Z h b1 nA "count" "I" (.int (Int32.ofNat bc.length)) ∧ Fld Z h b1 nA "maybeLatin1" "Z" (vI 0) ∧ Arv Z h v2 k2 .byte (32 : Int32) ((own_by true (bc ++ cs)).map Value.int) (vI 0) ∧ Exa Z h v2 "[B" ∧ n0 ≤ v2 ∧ (v2 = v1 ∨ h0.size ≤ v2)
theorem rm_pst01 (l : Launch) (Z : State) (a0 : Array Value) (hw : Tb a0 Z) (ws : List Jvm.Cond) (b1 v1 : Addr) (kv : ClassId) (bc : List Int32) (s1 t1 : Addr) (kt : ClassId) (N : Int32) (cs : List Int32) (G1 : Int32) (G2 : Value) (h0 : Heap) (n0 : Nat) (Z0 : n0 ≤ h0.size) (g_b1 : n0 ≤ b1) (g_v1 : n0 ≤ v1) (E_b1 : Exa Z h0 b1 nB) (F_value : Fld Z h0 b1 nA "value" "[B" (.ref v1)) (F_coder : Fld Z h0 b1 nA "coder" "B" (vI 1)) (F_count : Fld Z h0 b1 nA "count" "I" (.int (Int32.ofNat bc.length))) (F_maybe : Fld Z h0 b1 nA "maybeLatin1" "Z" (vI 0)) (A_v1 : Arv Z h0 v1 kv .byte (32 : Int32) ((own_by true bc).map Value.int) (vI 0)) (E_v1 : Exa Z h0 v1 "[B") (hb4 : bc.length ≤ 4) (E_s1 : Exa Z h0 s1 nS) (V_s1 : Fld Z h0 s1 nS "value" "[B" (.ref t1)) (C_s1 : Fld Z h0 s1 nS "coder" "B" (vI 0)) (A_s1 : Arv Z h0 t1 kt .byte N ((own_by false cs).map Value.int) (vI 0)) (N_s1 : N = Int32.ofNat (own_by false cs).length) (hc2 : cs.length ≤ 2) (nTV : t1 ≠ v1) (hbd : ∀ c ∈ cs, ¬ c < 0 ∧ ¬ (255 : Int32) < c) (Sg : oSg Z G1) (P5 : ¬ (G1 = (0 : Int32))) (Sf : oSf Z G2) (hG2 : G2.isRef = true) (Sa : oSa Z) (Sh : oSh Z) (Sl : oSl Z) (Ol : Old Z n0 h0) :
    MF l Z h0 y_20 j68_73 3 none ws (rM 6 0 0 91) #[(.ref b1), (.int (Int32.ofNat bc.length)), (.ref s1)] (Q_pst01 Z b1 v1 bc cs h0 n0) := by
  refine MetFree.of_bodySF (plainFor_of_name pn_java_lang_AbstractStringBuilder) hisR ?_
  intro p e s m args below meth c s₁ Bd hml hP hK
  obtain ⟨rfl, hZ, hh⟩ := hP
  have hx := Bd.exec
  have hby := Bd.bytes
  have hown : s.vm.findClass "java/lang/AbstractStringBuilder" = some m.cls := findClass_of_methodNamed Bd.named
  have X0 : Stand p l e (rM 6 0 0 91) s m #[(.ref b1), (.int (Int32.ofNat bc.length)), (.ref s1)] below meth c s₁ [] 0 0 := Stand.of_body Bd
  have e0 : s₁.heap = h0 := by rw [← hh, Bd.state]; rfl
  have N0 := Fr.nil n0
  obtain ⟨B0, pre0, P0⟩ : ∃ B, Rg p e below B (s₁.setTop (entryFrame m #[(.ref b1), (.int (Int32.ofNat bc.length)), (.ref s1)] 3)) ∧ Rg p e below (s₁.setTop (mkF m 0 #[sR b1, .val (.int (Int32.ofNat bc.length)), sR s1] [])) B := ⟨_, fun t k => castTop (ef_pst01 m b1 (Int32.ofNat bc.length) s1) k, fun t k => k⟩
  obtain ⟨cq378, q378a, q378b⟩ := E_b1.cell
  obtain ⟨_, _, ⟨T378, L378, k378, n378⟩, -, X378, ⟨Lc378, hQ378, l378, y378, z378⟩, st378⟩ := X0.privateBack hx (y := y_19) hown (mvT hZ (oH hw 110 rfl)) (mvT hZ (oH hw 111 rfl)) (own_selPriv2 (y2 := y_19) rfl (mvT hZ (oH hw 111 rfl)) (Cond.privateMethod_at (mvP hZ (oH hw 112 rfl) (args := #[]))) (mvT hZ (oH hw 113 rfl) (args := #[])) (by decide)) (Cond.privateMethod_at (mvP hZ (oH hw 112 rfl) (args := #[]))) (mvT hZ (oH hw 114 rfl)) (by decide) (backOf (W := 0) (rm_ifn01 l Z a0 hw [] b1 v1 kv bc s1 G1 G2 h0 n0 Z0 g_b1 g_v1 E_b1 F_value F_coder F_count F_maybe A_v1 E_v1 hb4 E_s1 C_s1 Sg P5 Sf hG2 Sa Sh Sl Ol) hZ (oH hw 114 rfl) (oH hw 70 rfl) (by decide) (by decide)) (g := (mkF m 2 #[sR b1, .val (.int (Int32.ofNat bc.length)), sR s1] [(.ref s1), (.ref b1)])) rfl (by rw [hml]; rfl) (Steps.refl _) (a := b1) (by rw [e0]; exact q378a) q378b (argsL := [(.ref s1)]) (rest := []) (lenOf pd14 rfl) rfl (oW rfl) (hb hby dj68_73_2) (fun _ _ => ⟨rfl, e0, (oB rfl : 0 + 0 ≤ _), (oB rfl : 0 + 0 ≤ _)⟩)
  dsimp only [Pt.U, Pt.locs, Pt.cells, Pt.slots] at X378 l378 y378 z378 st378 hQ378
  subst l378 y378 z378
  obtain ⟨rfl, Nq378, e378⟩ := hQ378
  have N379 := Fr.app N0 Nq378
  have P380 : Rg p e below (T378.setTop (mkF m 5 #[sR b1, .val (.int (Int32.ofNat bc.length)), sR s1] [])) B0 := fun t k => P0 t (by
    refine XS.aloadN X0.here hx rfl (hb hby dj68_73_0) rfl rfl ?_
    refine XS.aloadN X0.here hx rfl (hb hby dj68_73_1) rfl rfl ?_
    exact st378.trans k)
  obtain ⟨T381, X381, e381, st381⟩ := getF X378 hx hZ hown (host := "") (Or.inl (oH hw 74 rfl)) Via.refl e378 F_value (g := (mkF m 7 #[sR b1, .val (.int (Int32.ofNat bc.length)), sR s1] [(.ref b1), (.ref s1)])) rfl rfl (hb hby dj68_73_7)
  have P382 : Rg p e below (T381.setTop (mkF m 10 #[sR b1, .val (.int (Int32.ofNat bc.length)), sR s1] [(.ref v1), (.ref s1)])) B0 := fun t k => P380 t (by
    refine XS.aloadN X378.here hx rfl (hb hby dj68_73_5) rfl rfl ?_
    refine XS.aloadN X378.here hx rfl (hb hby dj68_73_6) rfl rfl ?_
    exact st381 _ k)
  obtain ⟨T383, X383, e383, st383⟩ := getF X381 hx hZ hown (host := "") (Or.inl (oH hw 76 rfl)) Via.refl e381 F_coder (g := (mkF m 12 #[sR b1, .val (.int (Int32.ofNat bc.length)), sR s1] [(.ref b1), (.int (Int32.ofNat bc.length)), (.ref v1), (.ref s1)])) rfl rfl (hb hby dj68_73_12)
  have P384 : Rg p e below (T383.setTop (mkF m 15 #[sR b1, .val (.int (Int32.ofNat bc.length)), sR s1] [(vI 1), (.int (Int32.ofNat bc.length)), (.ref v1), (.ref s1)])) B0 := fun t k => P382 t (by
    refine XS.iloadN X381.here hx rfl (hb hby dj68_73_10) rfl ?_
    refine XS.aloadN X381.here hx rfl (hb hby dj68_73_11) rfl rfl ?_
    exact st383 _ k)
  obtain ⟨cq385, kq385, q385a, q385b, q385c⟩ := isOf hZ e383 E_s1
  obtain ⟨_, _, ⟨T385, L385, k385, n385⟩, -, X385, ⟨Lc385, hQ385, l385, y385, z385⟩, st385⟩ := X383.virtualBack hx (y := y_16) (z := y_16) hown (mvT hZ (oH hw 116 rfl)) (mvT hZ (oH hw 117 rfl)) (notFace_of_selects (args := #[]) (mvT hZ (oH hw 119 rfl))) (mvT hZ (oH hw 119 rfl)) (mvT hZ (oH hw 118 rfl)) (by decide) (backOf (W := 0) (rm_gby01 l Z a0 hw [] s1 t1 kt N cs v1 kv bc G1 G2 h0 n0 Z0 E_s1 V_s1 C_s1 A_s1 N_s1 hc2 hb4 g_v1 A_v1 nTV hbd Sg P5 Sf hG2 Sa Sh Sl Ol) hZ (oH hw 120 rfl) (oH hw 8 rfl) (by decide) (by decide)) q385a q385c (g := (mkF m 15 #[sR b1, .val (.int (Int32.ofNat bc.length)), sR s1] [(vI 1), (.int (Int32.ofNat bc.length)), (.ref v1), (.ref s1)])) rfl (by rw [hml]; rfl) (Steps.refl _) (argsL := [(.ref v1), (.int (Int32.ofNat bc.length)), (vI 1)]) (rest := []) (lenOf pd15 rfl) rfl (oW rfl) (hb hby dj68_73_15) (fun _ _ => ⟨rfl, e383, (oB rfl : 0 + 0 ≤ _), (oB rfl : 0 + 0 ≤ _)⟩)
  dsimp only [Pt.U, Pt.locs, Pt.cells, Pt.slots] at X385 l385 y385 z385 st385 hQ385
  subst l385 y385 z385
  obtain ⟨rfl, Nq385, K385, A385⟩ := hQ385
  have N386 := Fr.app N379 Nq385
  have P387 : Rg p e below (T385.setTop (mkF m 18 #[sR b1, .val (.int (Int32.ofNat bc.length)), sR s1] [])) B0 := fun t k => P384 t (by
    exact st385.trans k)
  have Z388 : n0 ≤ T385.heap.size := Nat.le_trans Z0 K385.1
  have K389 : Keep h0 T385.heap [b1, v1] := (Keep.refl h0 [b1, v1]).trans K385 ((allS (Or.inl (List.mem_of_getElem? (i := 1) rfl)) all0))
  have O390 : Old Z n0 T385.heap := Ol.keep K385 (allS g_v1 all0)
  have f391 := (F_value.keep K385 (ninS (Exa.ne E_b1 E_v1 (by decide)) nin0))
  have f392 := (F_coder.keep K385 (ninS (Exa.ne E_b1 E_v1 (by decide)) nin0))
  have f393 := (F_count.keep K385 (ninS (Exa.ne E_b1 E_v1 (by decide)) nin0))
  have f394 := (F_maybe.keep K385 (ninS (Exa.ne E_b1 E_v1 (by decide)) nin0))
  have f395 := (E_v1.keep K385)
  obtain ⟨fs396, hr396, hrun396, hended396, hW396, hsame396⟩ := X385.leave (v := none) (fun _ => rfl)
  refine ⟨_, _, pre0 _ (P387 _ ?_), hrun396, hended396, _, _, rfl, ?_, ⟨⟨_, rfl⟩, hW396, hsame396.mono (oB rfl) (oB rfl)⟩⟩
  · exact X385.returnOut hx Bd.returns (hb hby dj68_73_18) hr396
  · show Q_pst01 Z b1 v1 bc cs h0 n0 _ T385.heap _
    exact ⟨rfl, N386, K389, v1, kv, f391, f392, f393, f394, A385, f395, g_v1, Or.inl rfl⟩
theorem ef_pst10 (m : MethodId) (x0 : Addr) (x1 : Int32) (x2 : Addr) : entryFrame m #[(.ref x0), (.int x1), (.ref x2)] 3 = mkF m 0 #[sR x0, sI x1, sR x2] [] := by (first | (simp [entryFrame, mkF, argsToLocals, Value.category]; done) | rfl)
def Q_pst10 (Z : State) (b1 v1 : Addr) (bc cs : List Int32) (h0 : Heap) (n0 : Nat) (v : Option Value) (h : Heap) (L : List Loc) : Prop := v = none ∧ Fr n0 L ∧ Keep h0 h [b1, v1] ∧ ∃ (v2 : Addr) (k2 : ClassId), Fld Z h b1 nA "value" "[B" (.ref v2) ∧ Fld Z h b1 nA "coder" "B" (vI 1) ∧ Fld Z h b1 nA "count" "I" (.int (Int32.ofNat bc.length)) ∧ Fld Z h b1 nA "maybeLatin1" "Z" (vI 0) ∧ Arv Z h v2 k2 .byte (32 : Int32) ((own_by true (bc ++ cs)).map Value.int) (vI 0) ∧ Exa Z h v2 "[B" ∧ n0 ≤ v2 ∧ (v2 = v1 ∨ h0.size ≤ v2)
theorem rm_pst10 (l : Launch) (Z : State) (a0 : Array Value) (hw : Tb a0 Z) (ws : List Jvm.Cond) (b1 v1 : Addr) (kv : ClassId) (bc : List Int32) (s1 t1 : Addr) (kt : ClassId) (N : Int32) (cs : List Int32) (G1 : Int32) (G2 : Value) (h0 : Heap) (n0 : Nat) (Z0 : n0 ≤ h0.size) (g_b1 : n0 ≤ b1) (g_v1 : n0 ≤ v1) (E_b1 : Exa Z h0 b1 nB) (F_value : Fld Z h0 b1 nA "value" "[B" (.ref v1)) (F_coder : Fld Z h0 b1 nA "coder" "B" (vI 0)) (F_count : Fld Z h0 b1 nA "count" "I" (.int (Int32.ofNat bc.length))) (F_maybe : Fld Z h0 b1 nA "maybeLatin1" "Z" (vI 0)) (A_v1 : Arv Z h0 v1 kv .byte (16 : Int32) ((own_by false bc).map Value.int) (vI 0)) (E_v1 : Exa Z h0 v1 "[B") (hb4 : bc.length ≤ 4) (E_s1 : Exa Z h0 s1 nS) (V_s1 : Fld Z h0 s1 nS "value" "[B" (.ref t1)) (C_s1 : Fld Z h0 s1 nS "coder" "B" (vI 1)) (A_s1 : Arv Z h0 t1 kt .byte N ((own_by true cs).map Value.int) (vI 0)) (N_s1 : N = Int32.ofNat (own_by true cs).length) (hc2 : cs.length ≤ 2) (nTV : t1 ≠ v1) (hbb : ∀ c ∈ bc, ¬ c < 0 ∧ ¬ (255 : Int32) < c) (Sg : oSg Z G1) (P5 : ¬ (G1 = (0 : Int32))) (Sf : oSf Z G2) (hG2 : G2.isRef = true) (Sa : oSa Z) (Sh : oSh Z) (Sl : oSl Z) (Ol : Old Z n0 h0) :
    MF l Z h0 y_20 j68_73 3 none ws (rM 7 1 32 102) #[(.ref b1), (.int (Int32.ofNat bc.length)), (.ref s1)] (Q_pst10 Z b1 v1 bc cs h0 n0) := by
  refine MetFree.of_bodySF (plainFor_of_name pn_java_lang_AbstractStringBuilder) hisR ?_
  intro p e s m args below meth c s₁ Bd hml hP hK
  obtain ⟨rfl, hZ, hh⟩ := hP
  have hx := Bd.exec
  have hby := Bd.bytes
  have hown : s.vm.findClass "java/lang/AbstractStringBuilder" = some m.cls := findClass_of_methodNamed Bd.named
  have X0 : Stand p l e (rM 7 1 32 102) s m #[(.ref b1), (.int (Int32.ofNat bc.length)), (.ref s1)] below meth c s₁ [] 0 0 := Stand.of_body Bd
  have e0 : s₁.heap = h0 := by rw [← hh, Bd.state]; rfl
  have N0 := Fr.nil n0
  obtain ⟨B0, pre0, P0⟩ : ∃ B, Rg p e below B (s₁.setTop (entryFrame m #[(.ref b1), (.int (Int32.ofNat bc.length)), (.ref s1)] 3)) ∧ Rg p e below (s₁.setTop (mkF m 0 #[sR b1, .val (.int (Int32.ofNat bc.length)), sR s1] [])) B := ⟨_, fun t k => castTop (ef_pst10 m b1 (Int32.ofNat bc.length) s1) k, fun t k => k⟩
  obtain ⟨cq397, q397a, q397b⟩ := E_b1.cell
  obtain ⟨_, _, ⟨T397, L397, k397, n397⟩, -, X397, ⟨Lc397, hQ397, l397, y397, z397⟩, st397⟩ := X0.privateBack hx (y := y_19) hown (mvT hZ (oH hw 110 rfl)) (mvT hZ (oH hw 111 rfl)) (own_selPriv2 (y2 := y_19) rfl (mvT hZ (oH hw 111 rfl)) (Cond.privateMethod_at (mvP hZ (oH hw 112 rfl) (args := #[]))) (mvT hZ (oH hw 113 rfl) (args := #[])) (by decide)) (Cond.privateMethod_at (mvP hZ (oH hw 112 rfl) (args := #[]))) (mvT hZ (oH hw 114 rfl)) (by decide) (backOf (W := 0) (rm_ifn10 l Z a0 hw [] b1 v1 kv bc s1 G1 G2 h0 n0 Z0 g_b1 g_v1 E_b1 F_value F_coder F_count F_maybe A_v1 E_v1 hb4 E_s1 C_s1 hbb Sg P5 Sf hG2 Sa Sh Sl Ol) hZ (oH hw 114 rfl) (oH hw 70 rfl) (by decide) (by decide)) (g := (mkF m 2 #[sR b1, .val (.int (Int32.ofNat bc.length)), sR s1] [(.ref s1), (.ref b1)])) rfl (by rw [hml]; rfl) (Steps.refl _) (a := b1) (by rw [e0]; exact q397a) q397b (argsL := [(.ref s1)]) (rest := []) (lenOf pd14 rfl) rfl (oW rfl) (hb hby dj68_73_2) (fun _ _ => ⟨rfl, e0, (oB rfl : 0 + 1 ≤ _), (oB rfl : 0 + 32 ≤ _)⟩)
  dsimp only [Pt.U, Pt.locs, Pt.cells, Pt.slots] at X397 l397 y397 z397 st397 hQ397
  subst l397 y397 z397
  obtain ⟨rfl, Nq397, K397, v2397, k2397, F1397, F2397, F3397, F4397, A397, E397, s397⟩ := hQ397
  have N398 := Fr.app N0 Nq397
  have P399 : Rg p e below (T397.setTop (mkF m 5 #[sR b1, .val (.int (Int32.ofNat bc.length)), sR s1] [])) B0 := fun t k => P0 t (by
    refine XS.aloadN X0.here hx rfl (hb hby dj68_73_0) rfl rfl ?_
    refine XS.aloadN X0.here hx rfl (hb hby dj68_73_1) rfl rfl ?_
    exact st397.trans k)
  have Z400 : n0 ≤ T397.heap.size := Nat.le_trans Z0 K397.1
  have K401 : Keep h0 T397.heap [b1, v1] := (Keep.refl h0 [b1, v1]).trans K397 ((allS (Or.inl (List.mem_of_getElem? (i := 0) rfl)) all0))
  have O402 : Old Z n0 T397.heap := Ol.keep K397 (allS g_b1 all0)
  have g_v2397 : n0 ≤ v2397 := Nat.le_trans Z0 s397
  have sz_v2397 : h0.size ≤ v2397 := Nat.le_trans (Keep.refl h0 [b1, v1]).1 s397
  obtain ⟨T403, X403, e403, st403⟩ := getF X397 hx hZ hown (host := "") (Or.inl (oH hw 74 rfl)) Via.refl rfl F1397 (g := (mkF m 7 #[sR b1, .val (.int (Int32.ofNat bc.length)), sR s1] [(.ref b1), (.ref s1)])) rfl rfl (hb hby dj68_73_7)
  have P404 : Rg p e below (T403.setTop (mkF m 10 #[sR b1, .val (.int (Int32.ofNat bc.length)), sR s1] [(.ref v2397), (.ref s1)])) B0 := fun t k => P399 t (by
    refine XS.aloadN X397.here hx rfl (hb hby dj68_73_5) rfl rfl ?_
    refine XS.aloadN X397.here hx rfl (hb hby dj68_73_6) rfl rfl ?_
    exact st403 _ k)
  obtain ⟨T405, X405, e405, st405⟩ := getF X403 hx hZ hown (host := "") (Or.inl (oH hw 76 rfl)) Via.refl e403 F2397 (g := (mkF m 12 #[sR b1, .val (.int (Int32.ofNat bc.length)), sR s1] [(.ref b1), (.int (Int32.ofNat bc.length)), (.ref v2397), (.ref s1)])) rfl rfl (hb hby dj68_73_12)
  have P406 : Rg p e below (T405.setTop (mkF m 15 #[sR b1, .val (.int (Int32.ofNat bc.length)), sR s1] [(vI 1), (.int (Int32.ofNat bc.length)), (.ref v2397), (.ref s1)])) B0 := fun t k => P404 t (by
    refine XS.iloadN X403.here hx rfl (hb hby dj68_73_10) rfl ?_
    refine XS.aloadN X403.here hx rfl (hb hby dj68_73_11) rfl rfl ?_
    exact st405 _ k)
  have f407 := (E_s1.keep K397)
  have f408 := (V_s1.keep K397 (ninS (Exa.ne E_s1 E_b1 (by decide)) nin0))
  have f409 := (C_s1.keep K397 (ninS (Exa.ne E_s1 E_b1 (by decide)) nin0))
  have f410 := (A_s1.keep K397 (ninS (Ne.symm (Exa.neArv E_b1 A_s1 (oH hw 61 rfl))) nin0))
  obtain ⟨cq411, kq411, q411a, q411b, q411c⟩ := isOf hZ e405 f407
  obtain ⟨_, _, ⟨T411, L411, k411, n411⟩, -, X411, ⟨Lc411, hQ411, l411, y411, z411⟩, st411⟩ := X405.virtualBack hx (y := y_16) (z := y_16) hown (mvT hZ (oH hw 116 rfl)) (mvT hZ (oH hw 117 rfl)) (notFace_of_selects (args := #[]) (mvT hZ (oH hw 119 rfl))) (mvT hZ (oH hw 119 rfl)) (mvT hZ (oH hw 118 rfl)) (by decide) (backOf (W := 0) (rm_gby11 l Z a0 hw [] s1 t1 kt N cs v2397 k2397 bc G1 G2 T397.heap n0 Z400 f407 f408 f409 f410 N_s1 hc2 hb4 g_v2397 A397 (Nat.ne_of_lt (Nat.lt_of_lt_of_le A_s1.lt s397)) Sg P5 Sf hG2 Sa Sh Sl O402) hZ (oH hw 120 rfl) (oH hw 8 rfl) (by decide) (by decide)) q411a q411c (g := (mkF m 15 #[sR b1, .val (.int (Int32.ofNat bc.length)), sR s1] [(vI 1), (.int (Int32.ofNat bc.length)), (.ref v2397), (.ref s1)])) rfl (by rw [hml]; rfl) (Steps.refl _) (argsL := [(.ref v2397), (.int (Int32.ofNat bc.length)), (vI 1)]) (rest := []) (lenOf pd15 rfl) rfl (oW rfl) (hb hby dj68_73_15) (fun _ _ => ⟨rfl, e405, (oB rfl : 1 + 0 ≤ _), (oB rfl : 32 + 0 ≤ _)⟩)
  dsimp only [Pt.U, Pt.locs, Pt.cells, Pt.slots] at X411 l411 y411 z411 st411 hQ411
  subst l411 y411 z411
  obtain ⟨rfl, Nq411, K411, A411⟩ := hQ411
  have N412 := Fr.app N398 Nq411
  have P413 : Rg p e below (T411.setTop (mkF m 18 #[sR b1, .val (.int (Int32.ofNat bc.length)), sR s1] [])) B0 := fun t k => P406 t (by
    exact st411.trans k)
  have Z414 : n0 ≤ T411.heap.size := Nat.le_trans Z400 K411.1
  have K415 : Keep h0 T411.heap [b1, v1] := K401.trans K411 ((allS (Or.inr sz_v2397) all0))
  have O416 : Old Z n0 T411.heap := O402.keep K411 (allS g_v2397 all0)
  have f417 := (F1397.keep K411 (ninS (Nat.ne_of_lt (Nat.lt_of_lt_of_le F_maybe.lt s397)) nin0))
  have f418 := (F2397.keep K411 (ninS (Nat.ne_of_lt (Nat.lt_of_lt_of_le F_maybe.lt s397)) nin0))
  have f419 := (F3397.keep K411 (ninS (Nat.ne_of_lt (Nat.lt_of_lt_of_le F_maybe.lt s397)) nin0))
  have f420 := (F4397.keep K411 (ninS (Nat.ne_of_lt (Nat.lt_of_lt_of_le F_maybe.lt s397)) nin0))
  have f421 := (E397.keep K411)
  obtain ⟨fs422, hr422, hrun422, hended422, hW422, hsame422⟩ := X411.leave (v := none) (fun _ => rfl)
  refine ⟨_, _, pre0 _ (P413 _ ?_), hrun422, hended422, _, _, rfl, ?_, ⟨⟨_, rfl⟩, hW422, hsame422.mono (oB rfl) (oB rfl)⟩⟩
  · exact X411.returnOut hx Bd.returns (hb hby dj68_73_18) hr422
  · show Q_pst10 Z b1 v1 bc cs h0 n0 _ T411.heap _
    exact ⟨rfl, N412, K415, v2397, k2397, f417, f418, f419, f420, A411, f421, g_v2397, Or.inr sz_v2397⟩
theorem dj68_9_0 : decode j68_9 0 = .ok (.aload_n 0, 1) := by decide +kernel
theorem dj68_9_1 : decode j68_9 1 = .ok (.getfield 15, 3) := by decide +kernel
theorem dj68_9_4 : decode j68_9 4 = .ok (.arraylength, 1) := by decide +kernel
theorem dj68_9_5 : decode j68_9 5 = .ok (.aload_n 0, 1) := by decide +kernel
theorem dj68_9_6 : decode j68_9 6 = .ok (.getfield 22, 3) := by decide +kernel
theorem dj68_9_9 : decode j68_9 9 = .ok (.ishr, 1) := by decide +kernel
theorem dj68_9_10 : decode j68_9 10 = .ok (.istore_n 2, 1) := by decide +kernel
theorem dj68_9_11 : decode j68_9 11 = .ok (.iload_n 1, 1) := by decide +kernel
theorem dj68_9_12 : decode j68_9 12 = .ok (.iload_n 2, 1) := by decide +kernel
theorem dj68_9_13 : decode j68_9 13 = .ok (.isub, 1) := by decide +kernel
theorem dj68_9_14 : decode j68_9 14 = .ok (.ifCond .le 24, 3) := by decide +kernel
theorem dj68_9_38 : decode j68_9 38 = .ok (.return_, 1) := by decide +kernel
theorem ef_ens0 (m : MethodId) (x0 : Addr) (x1 : Int32) : entryFrame m #[(.ref x0), (.int x1)] 3 = mkF m 0 #[sR x0, sI x1, sU] [] := by (first | (simp [entryFrame, mkF, argsToLocals, Value.category]; done) | rfl)
def Q_ens0  (h0 : Heap) (n0 : Nat) (v : Option Value) (h : Heap) (L : List Loc) : Prop := v = none ∧ Fr n0 L ∧ h = h0
theorem rm_ens0 (l : Launch) (Z : State) (a0 : Array Value) (hw : Tb a0 Z) (ws : List Jvm.Cond) (b1 v1 : Addr) (kv : ClassId) (bc : List Int32) (mn : Int32) (G1 : Int32) (G2 : Value) (h0 : Heap) (n0 : Nat) (Z0 : n0 ≤ h0.size) (g_b1 : n0 ≤ b1) (g_v1 : n0 ≤ v1) (E_b1 : Exa Z h0 b1 nB) (F_value : Fld Z h0 b1 nA "value" "[B" (.ref v1)) (F_coder : Fld Z h0 b1 nA "coder" "B" (vI 0)) (F_count : Fld Z h0 b1 nA "count" "I" (.int (Int32.ofNat bc.length))) (F_maybe : Fld Z h0 b1 nA "maybeLatin1" "Z" (vI 0)) (A_v1 : Arv Z h0 v1 kv .byte (16 : Int32) ((own_by false bc).map Value.int) (vI 0)) (E_v1 : Exa Z h0 v1 "[B") (hb4 : bc.length ≤ 4) (hmn : ¬ (0 : Int32) < (mn - (16 : Int32))) (Sg : oSg Z G1) (P5 : ¬ (G1 = (0 : Int32))) (Sf : oSf Z G2) (hG2 : G2.isRef = true) (Sa : oSa Z) (Sh : oSh Z) (Sl : oSl Z) (Ol : Old Z n0 h0) :
    MF l Z h0 y_21 j68_9 3 none ws (rM 0 0 0 0) #[(.ref b1), (.int mn)] (Q_ens0  h0 n0) := by
  refine MetFree.of_bodySF (plainFor_of_name pn_java_lang_AbstractStringBuilder) hisR ?_
  intro p e s m args below meth c s₁ Bd hml hP hK
  obtain ⟨rfl, hZ, hh⟩ := hP
  have hx := Bd.exec
  have hby := Bd.bytes
  have hown : s.vm.findClass "java/lang/AbstractStringBuilder" = some m.cls := findClass_of_methodNamed Bd.named
  have X0 : Stand p l e (rM 0 0 0 0) s m #[(.ref b1), (.int mn)] below meth c s₁ [] 0 0 := Stand.of_body Bd
  have e0 : s₁.heap = h0 := by rw [← hh, Bd.state]; rfl
  have N0 := Fr.nil n0
  obtain ⟨B0, pre0, P0⟩ : ∃ B, Rg p e below B (s₁.setTop (entryFrame m #[(.ref b1), (.int mn)] 3)) ∧ Rg p e below (s₁.setTop (mkF m 0 #[sR b1, sI mn, sU] [])) B := ⟨_, fun t k => castTop (ef_ens0 m b1 mn) k, fun t k => k⟩
  obtain ⟨T423, X423, e423, st423⟩ := getF X0 hx hZ hown (host := "") (Or.inl (oH hw 74 rfl)) Via.refl e0 F_value (g := (mkF m 1 #[sR b1, sI mn, sU] [(.ref b1)])) rfl rfl (hb hby dj68_9_1)
  have P424 : Rg p e below (T423.setTop (mkF m 4 #[sR b1, sI mn, sU] [(.ref v1)])) B0 := fun t k => P0 t (by
    refine XS.aloadN X0.here hx rfl (hb hby dj68_9_0) rfl rfl ?_
    exact st423 _ k)
  obtain ⟨cl425, Ar425, -, S425, N425, -, -⟩ := id A_v1
  obtain ⟨T426, X426, e426, st426⟩ := getF X423 hx hZ hown (host := "") (Or.inl (oH hw 76 rfl)) Via.refl e423 F_coder (g := (mkF m 6 #[sR b1, sI mn, sU] [(.ref b1), (vI 16)])) rfl rfl (hb hby dj68_9_6)
  have P427 : Rg p e below (T426.setTop (mkF m 9 #[sR b1, sI mn, sU] [(vI 0), (vI 16)])) B0 := fun t k => P424 t (by
    refine X423.arraylength hx (by rw [e423]; exact Ar425.1) (State.isArrayOf_alike hZ.alike Ar425.2.1) (g := (mkF m 4 #[sR b1, sI mn, sU] [(.ref v1)])) rfl rfl (hb hby dj68_9_4) _ ?_
    rw [len_of S425 N425]
    show Sq p e below (T423.setTop (mkF m 5 #[sR b1, sI mn, sU] [(vI 16)])) _
    refine XS.aloadN X423.here hx rfl (hb hby dj68_9_5) rfl rfl ?_
    exact st426 _ k)
  obtain ⟨fs428, hr428, hrun428, hended428, hW428, hsame428⟩ := X426.leave (v := none) (fun _ => rfl)
  refine ⟨_, _, pre0 _ (P427 _ ?_), hrun428, hended428, _, _, rfl, ?_, ⟨⟨_, rfl⟩, hW428, hsame428.mono (oB rfl) (oB rfl)⟩⟩
  · show Sq p e below (T426.setTop (mkF m 9 #[sR b1, sI mn, sU] [(vI 0), (vI 16)])) _
    refine XS.ishr X426.here hx rfl (hb hby dj68_9_9) rfl ?_
    refine XS.istoreN X426.here hx rfl (hb hby dj68_9_10) rfl (l' := #[sR b1, sI mn, sI 16]) rfl ?_
    refine XS.iloadN X426.here hx rfl (hb hby dj68_9_11) rfl ?_
    refine XS.iloadN X426.here hx rfl (hb hby dj68_9_12) rfl ?_
    refine XS.isub X426.here hx rfl (hb hby dj68_9_13) rfl ?_
    refine XS.ifYes X426.here hx rfl (pc0 := 14) (pc' := 38) rfl (hb hby dj68_9_14) rfl ((if0 _ _).trans (flt (show ¬ ((0 : Int32) < (mn - (16 : Int32))) from hmn)).2.2.2) (by decide) (by decide) ?_
    exact X426.returnOut hx Bd.returns (hb hby dj68_9_38) hr428
  · show Q_ens0  h0 n0 _ T426.heap _
    rw [e426]
    exact ⟨rfl, N0, rfl⟩
theorem ef_ens1 (m : MethodId) (x0 : Addr) (x1 : Int32) : entryFrame m #[(.ref x0), (.int x1)] 3 = mkF m 0 #[sR x0, sI x1, sU] [] := by (first | (simp [entryFrame, mkF, argsToLocals, Value.category]; done) | rfl)
def Q_ens1  (h0 : Heap) (n0 : Nat) (v : Option Value) (h : Heap) (L : List Loc) : Prop := v = none ∧ Fr n0 L ∧ h = h0
theorem rm_ens1 (l : Launch) (Z : State) (a0 : Array Value) (hw : Tb a0 Z) (ws : List Jvm.Cond) (b1 v1 : Addr) (kv : ClassId) (bc : List Int32) (mn : Int32) (G1 : Int32) (G2 : Value) (h0 : Heap) (n0 : Nat) (Z0 : n0 ≤ h0.size) (g_b1 : n0 ≤ b1) (g_v1 : n0 ≤ v1) (E_b1 : Exa Z h0 b1 nB) (F_value : Fld Z h0 b1 nA "value" "[B" (.ref v1)) (F_coder : Fld Z h0 b1 nA "coder" "B" (vI 1)) (F_count : Fld Z h0 b1 nA "count" "I" (.int (Int32.ofNat bc.length))) (F_maybe : Fld Z h0 b1 nA "maybeLatin1" "Z" (vI 0)) (A_v1 : Arv Z h0 v1 kv .byte (32 : Int32) ((own_by true bc).map Value.int) (vI 0)) (E_v1 : Exa Z h0 v1 "[B") (hb4 : bc.length ≤ 4) (hmn : ¬ (0 : Int32) < (mn - (16 : Int32))) (Sg : oSg Z G1) (P5 : ¬ (G1 = (0 : Int32))) (Sf : oSf Z G2) (hG2 : G2.isRef = true) (Sa : oSa Z) (Sh : oSh Z) (Sl : oSl Z) (Ol : Old Z n0 h0) :
    MF l Z h0 y_21 j68_9 3 none ws (rM 0 0 0 0) #[(.ref b1), (.int mn)] (Q_ens1  h0 n0) := by
  refine MetFree.of_bodySF (plainFor_of_name pn_java_lang_AbstractStringBuilder) hisR ?_
  intro p e s m args below meth c s₁ Bd hml hP hK
  obtain ⟨rfl, hZ, hh⟩ := hP
  have hx := Bd.exec
  have hby := Bd.bytes
  have hown : s.vm.findClass "java/lang/AbstractStringBuilder" = some m.cls := findClass_of_methodNamed Bd.named
  have X0 : Stand p l e (rM 0 0 0 0) s m #[(.ref b1), (.int mn)] below meth c s₁ [] 0 0 := Stand.of_body Bd
  have e0 : s₁.heap = h0 := by rw [← hh, Bd.state]; rfl
  have N0 := Fr.nil n0
  obtain ⟨B0, pre0, P0⟩ : ∃ B, Rg p e below B (s₁.setTop (entryFrame m #[(.ref b1), (.int mn)] 3)) ∧ Rg p e below (s₁.setTop (mkF m 0 #[sR b1, sI mn, sU] [])) B := ⟨_, fun t k => castTop (ef_ens1 m b1 mn) k, fun t k => k⟩
  obtain ⟨T429, X429, e429, st429⟩ := getF X0 hx hZ hown (host := "") (Or.inl (oH hw 74 rfl)) Via.refl e0 F_value (g := (mkF m 1 #[sR b1, sI mn, sU] [(.ref b1)])) rfl rfl (hb hby dj68_9_1)
  have P430 : Rg p e below (T429.setTop (mkF m 4 #[sR b1, sI mn, sU] [(.ref v1)])) B0 := fun t k => P0 t (by
    refine XS.aloadN X0.here hx rfl (hb hby dj68_9_0) rfl rfl ?_
    exact st429 _ k)
  obtain ⟨cl431, Ar431, -, S431, N431, -, -⟩ := id A_v1
  obtain ⟨T432, X432, e432, st432⟩ := getF X429 hx hZ hown (host := "") (Or.inl (oH hw 76 rfl)) Via.refl e429 F_coder (g := (mkF m 6 #[sR b1, sI mn, sU] [(.ref b1), (vI 32)])) rfl rfl (hb hby dj68_9_6)
  have P433 : Rg p e below (T432.setTop (mkF m 9 #[sR b1, sI mn, sU] [(vI 1), (vI 32)])) B0 := fun t k => P430 t (by
    refine X429.arraylength hx (by rw [e429]; exact Ar431.1) (State.isArrayOf_alike hZ.alike Ar431.2.1) (g := (mkF m 4 #[sR b1, sI mn, sU] [(.ref v1)])) rfl rfl (hb hby dj68_9_4) _ ?_
    rw [len_of S431 N431]
    show Sq p e below (T429.setTop (mkF m 5 #[sR b1, sI mn, sU] [(vI 32)])) _
    refine XS.aloadN X429.here hx rfl (hb hby dj68_9_5) rfl rfl ?_
    exact st432 _ k)
  obtain ⟨fs434, hr434, hrun434, hended434, hW434, hsame434⟩ := X432.leave (v := none) (fun _ => rfl)
  refine ⟨_, _, pre0 _ (P433 _ ?_), hrun434, hended434, _, _, rfl, ?_, ⟨⟨_, rfl⟩, hW434, hsame434.mono (oB rfl) (oB rfl)⟩⟩
  · show Sq p e below (T432.setTop (mkF m 9 #[sR b1, sI mn, sU] [(vI 1), (vI 32)])) _
    refine XS.ishr X432.here hx rfl (hb hby dj68_9_9) rfl ?_
    refine XS.istoreN X432.here hx rfl (hb hby dj68_9_10) rfl (l' := #[sR b1, sI mn, sI 16]) rfl ?_
    refine XS.iloadN X432.here hx rfl (hb hby dj68_9_11) rfl ?_
    refine XS.iloadN X432.here hx rfl (hb hby dj68_9_12) rfl ?_
    refine XS.isub X432.here hx rfl (hb hby dj68_9_13) rfl ?_
    refine XS.ifYes X432.here hx rfl (pc0 := 14) (pc' := 38) rfl (hb hby dj68_9_14) rfl ((if0 _ _).trans (flt (show ¬ ((0 : Int32) < (mn - (16 : Int32))) from hmn)).2.2.2) (by decide) (by decide) ?_
    exact X432.returnOut hx Bd.returns (hb hby dj68_9_38) hr434
  · show Q_ens1  h0 n0 _ T432.heap _
    rw [e432]
    exact ⟨rfl, N0, rfl⟩
theorem dj68_22_0 : decode j68_22 0 = .ok (.aload_n 1, 1) := by decide +kernel
theorem dj68_22_1 : decode j68_22 1 = .ok (.ifnonnull 8, 3) := by decide +kernel
theorem dj68_22_9 : decode j68_22 9 = .ok (.aload_n 1, 1) := by decide +kernel
theorem dj68_22_10 : decode j68_22 10 = .ok (.invokevirtual 32, 3) := by decide +kernel
theorem pd16 : parseMethodDescriptor "()I" = some ⟨[], some .int⟩ := by decide +kernel
theorem dj68_22_13 : decode j68_22 13 = .ok (.istore_n 2, 1) := by decide +kernel
theorem dj68_22_14 : decode j68_22 14 = .ok (.aload_n 0, 1) := by decide +kernel
theorem dj68_22_15 : decode j68_22 15 = .ok (.aload_n 0, 1) := by decide +kernel
theorem dj68_22_16 : decode j68_22 16 = .ok (.getfield 79, 3) := by decide +kernel
theorem dj68_22_19 : decode j68_22 19 = .ok (.iload_n 2, 1) := by decide +kernel
theorem dj68_22_20 : decode j68_22 20 = .ok (.iadd, 1) := by decide +kernel
theorem dj68_22_21 : decode j68_22 21 = .ok (.invokevirtual 100, 3) := by decide +kernel
theorem pd17 : parseMethodDescriptor "(I)V" = some ⟨[.int], none⟩ := by decide +kernel
theorem dj68_22_24 : decode j68_22 24 = .ok (.aload_n 0, 1) := by decide +kernel
theorem dj68_22_25 : decode j68_22 25 = .ok (.aload_n 0, 1) := by decide +kernel
theorem dj68_22_26 : decode j68_22 26 = .ok (.getfield 79, 3) := by decide +kernel
theorem dj68_22_29 : decode j68_22 29 = .ok (.aload_n 1, 1) := by decide +kernel
theorem dj68_22_30 : decode j68_22 30 = .ok (.invokevirtual 208, 3) := by decide +kernel
theorem pd18 : parseMethodDescriptor "(ILjava/lang/String;)V" = some ⟨[.int, (.object nS)], none⟩ := by decide +kernel
theorem dj68_22_33 : decode j68_22 33 = .ok (.aload_n 0, 1) := by decide +kernel
theorem dj68_22_34 : decode j68_22 34 = .ok (.dup, 1) := by decide +kernel
theorem dj68_22_35 : decode j68_22 35 = .ok (.getfield 79, 3) := by decide +kernel
theorem dj68_22_38 : decode j68_22 38 = .ok (.iload_n 2, 1) := by decide +kernel
theorem dj68_22_39 : decode j68_22 39 = .ok (.iadd, 1) := by decide +kernel
theorem dj68_22_40 : decode j68_22 40 = .ok (.putfield 79, 3) := by decide +kernel
theorem dj68_22_43 : decode j68_22 43 = .ok (.aload_n 0, 1) := by decide +kernel
theorem dj68_22_44 : decode j68_22 44 = .ok (.areturn, 1) := by decide +kernel
theorem ef_apa00 (m : MethodId) (x0 : Addr) (x1 : Addr) : entryFrame m #[(.ref x0), (.ref x1)] 3 = mkF m 0 #[sR x0, sR x1, sU] [] := by (first | (simp [entryFrame, mkF, argsToLocals, Value.category]; done) | rfl)
def Q_apa00 (Z : State) (b1 v1 : Addr) (bc cs : List Int32) (h0 : Heap) (n0 : Nat) (v : Option Value) (h : Heap) (L : List Loc) : Prop := v = some (.ref b1) ∧ Fr n0 L ∧ Keep h0 h [b1, v1] ∧ ∃ (v2 : Addr) (k2 : ClassId), Fld Z h b1 nA "value" "[B" (.ref v2) ∧ Fld Z h b1 nA "coder" "B" (vI 0) ∧ Fld Z h b1 nA "count" "I" (.int (Int32.ofNat (bc ++ cs).length)) ∧ Fld Z h b1 nA "maybeLatin1" "Z" (vI 0) ∧ Arv Z h v2 k2 .byte (16 : Int32) ((own_by false (bc ++ cs)).map Value.int) (vI 0) ∧ Exa Z h v2 "[B" ∧ n0 ≤ v2 ∧ (v2 = v1 ∨ h0.size ≤ v2)
theorem rm_apa00 (l : Launch) (Z : State) (a0 : Array Value) (hw : Tb a0 Z) (ws : List Jvm.Cond) (b1 v1 : Addr) (kv : ClassId) (bc : List Int32) (s1 t1 : Addr) (kt : ClassId) (N : Int32) (cs : List Int32) (G1 : Int32) (G2 : Value) (h0 : Heap) (n0 : Nat) (Z0 : n0 ≤ h0.size) (g_b1 : n0 ≤ b1) (g_v1 : n0 ≤ v1) (E_b1 : Exa Z h0 b1 nB) (F_value : Fld Z h0 b1 nA "value" "[B" (.ref v1)) (F_coder : Fld Z h0 b1 nA "coder" "B" (vI 0)) (F_count : Fld Z h0 b1 nA "count" "I" (.int (Int32.ofNat bc.length))) (F_maybe : Fld Z h0 b1 nA "maybeLatin1" "Z" (vI 0)) (A_v1 : Arv Z h0 v1 kv .byte (16 : Int32) ((own_by false bc).map Value.int) (vI 0)) (E_v1 : Exa Z h0 v1 "[B") (hb4 : bc.length ≤ 4) (E_s1 : Exa Z h0 s1 nS) (V_s1 : Fld Z h0 s1 nS "value" "[B" (.ref t1)) (C_s1 : Fld Z h0 s1 nS "coder" "B" (vI 0)) (A_s1 : Arv Z h0 t1 kt .byte N ((own_by false cs).map Value.int) (vI 0)) (N_s1 : N = Int32.ofNat (own_by false cs).length) (hc2 : cs.length ≤ 2) (nTV : t1 ≠ v1) (Sg : oSg Z G1) (P5 : ¬ (G1 = (0 : Int32))) (Sf : oSf Z G2) (hG2 : G2.isRef = true) (Sa : oSa Z) (Sh : oSh Z) (Sl : oSl Z) (Ol : Old Z n0 h0) :
    MF l Z h0 y_22 j68_22 3 (some (.object "java/lang/AbstractStringBuilder")) ws (rM 3 0 0 47) #[(.ref b1), (.ref s1)] (Q_apa00 Z b1 v1 bc cs h0 n0) := by
  refine MetFree.of_bodySF (plainFor_of_name pn_java_lang_AbstractStringBuilder) hisR ?_
  intro p e s m args below meth c s₁ Bd hml hP hK
  obtain ⟨rfl, hZ, hh⟩ := hP
  have hx := Bd.exec
  have hby := Bd.bytes
  have hown : s.vm.findClass "java/lang/AbstractStringBuilder" = some m.cls := findClass_of_methodNamed Bd.named
  have X0 : Stand p l e (rM 3 0 0 47) s m #[(.ref b1), (.ref s1)] below meth c s₁ [] 0 0 := Stand.of_body Bd
  have e0 : s₁.heap = h0 := by rw [← hh, Bd.state]; rfl
  have N0 := Fr.nil n0
  obtain ⟨B0, pre0, P0⟩ : ∃ B, Rg p e below B (s₁.setTop (entryFrame m #[(.ref b1), (.ref s1)] 3)) ∧ Rg p e below (s₁.setTop (mkF m 0 #[sR b1, sR s1, sU] [])) B := ⟨_, fun t k => castTop (ef_apa00 m b1 s1) k, fun t k => k⟩
  obtain ⟨cq435, kq435, q435a, q435b, q435c⟩ := isOf hZ e0 E_s1
  obtain ⟨_, _, ⟨T435, L435, k435, n435⟩, -, X435, ⟨Lc435, hQ435, l435, y435, z435⟩, st435⟩ := X0.virtualBack hx (y := y_14) (z := y_14) hown (mvT hZ (oH hw 88 rfl)) (mvT hZ (oH hw 89 rfl)) (notFace_of_selects (args := #[]) (mvT hZ (oH hw 91 rfl))) (mvT hZ (oH hw 91 rfl)) (mvT hZ (oH hw 90 rfl)) (by decide) (backOf (W := 0) (rm_slefalse l Z a0 hw [] s1 t1 kt N cs G1 G2 h0 n0 Z0 E_s1 V_s1 C_s1 A_s1 N_s1 (by omega) Sg P5 Sf hG2 Sa Sh Sl Ol) hZ (oH hw 92 rfl) (oH hw 8 rfl) (by decide) (by decide)) q435a q435c (g := (mkF m 10 #[sR b1, sR s1, sU] [(.ref s1)])) rfl (by rw [hml]; rfl) (Steps.refl _) (argsL := []) (rest := []) (lenOf pd16 rfl) rfl (oW rfl) (hb hby dj68_22_10) (fun _ _ => ⟨rfl, e0, (oB rfl : 0 + 0 ≤ _), (oB rfl : 0 + 0 ≤ _)⟩)
  dsimp only [Pt.U, Pt.locs, Pt.cells, Pt.slots] at X435 l435 y435 z435 st435 hQ435
  subst l435 y435 z435
  obtain ⟨rfl, Nq435, e435⟩ := hQ435
  have N436 := Fr.app N0 Nq435
  have P437 : Rg p e below (T435.setTop (mkF m 13 #[sR b1, sR s1, sU] [(.int (Int32.ofNat cs.length))])) B0 := fun t k => P0 t (by
    refine XS.aloadN X0.here hx rfl (hb hby dj68_22_0) rfl rfl ?_
    refine XS.ifnonnullYes X0.here hx rfl (pc0 := 1) (pc' := 9) rfl (hb hby dj68_22_1) rfl (by decide) (by decide) ?_
    refine XS.aloadN X0.here hx rfl (hb hby dj68_22_9) rfl rfl ?_
    exact st435.trans k)
  obtain ⟨T438, X438, e438, st438⟩ := getF X435 hx hZ hown (host := "") (Or.inl (oH hw 98 rfl)) Via.refl e435 F_count (g := (mkF m 16 #[sR b1, sR s1, .val (.int (Int32.ofNat cs.length))] [(.ref b1), (.ref b1)])) rfl rfl (hb hby dj68_22_16)
  have P439 : Rg p e below (T438.setTop (mkF m 19 #[sR b1, sR s1, .val (.int (Int32.ofNat cs.length))] [(.int (Int32.ofNat bc.length)), (.ref b1)])) B0 := fun t k => P437 t (by
    refine XS.istoreN X435.here hx rfl (hb hby dj68_22_13) rfl (l' := #[sR b1, sR s1, .val (.int (Int32.ofNat cs.length))]) rfl ?_
    refine XS.aloadN X435.here hx rfl (hb hby dj68_22_14) rfl rfl ?_
    refine XS.aloadN X435.here hx rfl (hb hby dj68_22_15) rfl rfl ?_
    exact st438 _ k)
  obtain ⟨cq440, q440a, q440b⟩ := E_b1.cell
  obtain ⟨_, _, ⟨T440, L440, k440, n440⟩, -, X440, ⟨Lc440, hQ440, l440, y440, z440⟩, st440⟩ := X438.privateBack hx (y := y_21) hown (mvT hZ (oH hw 100 rfl)) (mvT hZ (oH hw 101 rfl)) (own_selPriv2 (y2 := y_21) rfl (mvT hZ (oH hw 101 rfl)) (Cond.privateMethod_at (mvP hZ (oH hw 102 rfl) (args := #[]))) (mvT hZ (oH hw 103 rfl) (args := #[])) (by decide)) (Cond.privateMethod_at (mvP hZ (oH hw 102 rfl) (args := #[]))) (mvT hZ (oH hw 104 rfl)) (by decide) (backOf (W := 0) (rm_ens0 l Z a0 hw [] b1 v1 kv bc ((Int32.ofNat bc.length) + (Int32.ofNat cs.length)) G1 G2 h0 n0 Z0 g_b1 g_v1 E_b1 F_value F_coder F_count F_maybe A_v1 E_v1 hb4 (own_en hb4 hc2) Sg P5 Sf hG2 Sa Sh Sl Ol) hZ (oH hw 104 rfl) (oH hw 70 rfl) (by decide) (by decide)) (g := (mkF m 21 #[sR b1, sR s1, .val (.int (Int32.ofNat cs.length))] [(.int ((Int32.ofNat bc.length) + (Int32.ofNat cs.length))), (.ref b1)])) rfl (by rw [hml]; rfl) (Steps.refl _) (a := b1) (by rw [e438]; exact q440a) q440b (argsL := [(.int ((Int32.ofNat bc.length) + (Int32.ofNat cs.length)))]) (rest := []) (lenOf pd17 rfl) rfl (oW rfl) (hb hby dj68_22_21) (fun _ _ => ⟨rfl, e438, (oB rfl : 0 + 0 ≤ _), (oB rfl : 0 + 0 ≤ _)⟩)
  dsimp only [Pt.U, Pt.locs, Pt.cells, Pt.slots] at X440 l440 y440 z440 st440 hQ440
  subst l440 y440 z440
  obtain ⟨rfl, Nq440, e440⟩ := hQ440
  have N441 := Fr.app N436 Nq440
  have P442 : Rg p e below (T440.setTop (mkF m 24 #[sR b1, sR s1, .val (.int (Int32.ofNat cs.length))] [])) B0 := fun t k => P439 t (by
    refine XS.iloadN X438.here hx rfl (hb hby dj68_22_19) rfl ?_
    refine XS.iadd X438.here hx rfl (hb hby dj68_22_20) rfl ?_
    exact st440.trans k)
  obtain ⟨T443, X443, e443, st443⟩ := getF X440 hx hZ hown (host := "") (Or.inl (oH hw 98 rfl)) Via.refl e440 F_count (g := (mkF m 26 #[sR b1, sR s1, .val (.int (Int32.ofNat cs.length))] [(.ref b1), (.ref b1)])) rfl rfl (hb hby dj68_22_26)
  have P444 : Rg p e below (T443.setTop (mkF m 29 #[sR b1, sR s1, .val (.int (Int32.ofNat cs.length))] [(.int (Int32.ofNat bc.length)), (.ref b1)])) B0 := fun t k => P442 t (by
    refine XS.aloadN X440.here hx rfl (hb hby dj68_22_24) rfl rfl ?_
    refine XS.aloadN X440.here hx rfl (hb hby dj68_22_25) rfl rfl ?_
    exact st443 _ k)
  obtain ⟨cq445, q445a, q445b⟩ := E_b1.cell
  obtain ⟨_, _, ⟨T445, L445, k445, n445⟩, -, X445, ⟨Lc445, hQ445, l445, y445, z445⟩, st445⟩ := X443.privateBack hx (y := y_20) hown (mvT hZ (oH hw 105 rfl)) (mvT hZ (oH hw 106 rfl)) (own_selPriv2 (y2 := y_20) rfl (mvT hZ (oH hw 106 rfl)) (Cond.privateMethod_at (mvP hZ (oH hw 107 rfl) (args := #[]))) (mvT hZ (oH hw 108 rfl) (args := #[])) (by decide)) (Cond.privateMethod_at (mvP hZ (oH hw 107 rfl) (args := #[]))) (mvT hZ (oH hw 109 rfl)) (by decide) (backOf (W := 0) (rm_pst00 l Z a0 hw [] b1 v1 kv bc s1 t1 kt N cs G1 G2 h0 n0 Z0 g_b1 g_v1 E_b1 F_value F_coder F_count F_maybe A_v1 E_v1 hb4 E_s1 V_s1 C_s1 A_s1 N_s1 hc2 nTV Sg P5 Sf hG2 Sa Sh Sl Ol) hZ (oH hw 109 rfl) (oH hw 70 rfl) (by decide) (by decide)) (g := (mkF m 30 #[sR b1, sR s1, .val (.int (Int32.ofNat cs.length))] [(.ref s1), (.int (Int32.ofNat bc.length)), (.ref b1)])) rfl (by rw [hml]; rfl) (Steps.refl _) (a := b1) (by rw [e443]; exact q445a) q445b (argsL := [(.int (Int32.ofNat bc.length)), (.ref s1)]) (rest := []) (lenOf pd18 rfl) rfl (oW rfl) (hb hby dj68_22_30) (fun _ _ => ⟨rfl, e443, (oB rfl : 0 + 0 ≤ _), (oB rfl : 0 + 0 ≤ _)⟩)
  dsimp only [Pt.U, Pt.locs, Pt.cells, Pt.slots] at X445 l445 y445 z445 st445 hQ445
  subst l445 y445 z445
  obtain ⟨rfl, Nq445, K445, v2445, k2445, F1445, F2445, F3445, F4445, A445, E445, g_v2445, hv445⟩ := hQ445
  have N446 := Fr.app N441 Nq445
  have P447 : Rg p e below (T445.setTop (mkF m 33 #[sR b1, sR s1, .val (.int (Int32.ofNat cs.length))] [])) B0 := fun t k => P444 t (by
    refine XS.aloadN X443.here hx rfl (hb hby dj68_22_29) rfl rfl ?_
    exact st445.trans k)
  have Z448 : n0 ≤ T445.heap.size := Nat.le_trans Z0 K445.1
  have K449 : Keep h0 T445.heap [b1, v1] := (Keep.refl h0 [b1, v1]).trans K445 ((allS (Or.inl (List.mem_of_getElem? (i := 0) rfl)) (allS (Or.inl (List.mem_of_getElem? (i := 1) rfl)) all0)))
  have O450 : Old Z n0 T445.heap := Ol.keep K445 (allS g_b1 (allS g_v1 all0))
  obtain ⟨T451, X451, e451, st451⟩ := getF X445 hx hZ hown (host := "") (Or.inl (oH hw 98 rfl)) Via.refl rfl F3445 (g := (mkF m 35 #[sR b1, sR s1, .val (.int (Int32.ofNat cs.length))] [(.ref b1), (.ref b1)])) rfl rfl (hb hby dj68_22_35)
  have P452 : Rg p e below (T451.setTop (mkF m 38 #[sR b1, sR s1, .val (.int (Int32.ofNat cs.length))] [(.int (Int32.ofNat bc.length)), (.ref b1)])) B0 := fun t k => P447 t (by
    refine XS.aloadN X445.here hx rfl (hb hby dj68_22_33) rfl rfl ?_
    refine XS.dup X445.here hx rfl (hb hby dj68_22_34) rfl rfl ?_
    exact st451 _ k)
  have hq9 : Int32.ofNat (bc ++ cs).length = ((Int32.ofNat bc.length) + (Int32.ofNat cs.length)) := own_cnt bc cs
  have P453 : Rg p e below (T451.setTop (mkF m 40 #[sR b1, sR s1, .val (.int (Int32.ofNat cs.length))] [(.int ((Int32.ofNat bc.length) + (Int32.ofNat cs.length))), (.ref b1)])) B0 := fun t k => P452 t (by
    refine XS.iloadN X451.here hx rfl (hb hby dj68_22_38) rfl ?_
    refine XS.iadd X451.here hx rfl (hb hby dj68_22_39) rfl ?_
    show Sq p e below (T451.setTop (mkF m 40 #[sR b1, sR s1, .val (.int (Int32.ofNat cs.length))] [(.int ((Int32.ofNat bc.length) + (Int32.ofNat cs.length))), (.ref b1)])) _
    exact k)
  have P454 : Rg p e below (T451.setTop (mkF m 40 #[sR b1, sR s1, .val (.int (Int32.ofNat cs.length))] [(.int (Int32.ofNat (bc ++ cs).length)), (.ref b1)])) B0 := fun t k => P453 t (by rw [hq9] at k; exact k)
  have f455 := (E_b1.keep K445)
  obtain ⟨T456, h456, X456, e456, W456, st456⟩ := putF X451 hx hZ hown (host := "") (Or.inl (oH hw 98 rfl)) Via.refl e451 F3445 f455 (Or.inl (oH hw 99 rfl)) (oH hw 61 rfl) (ty := .int) (by decide) rfl rfl (g := (mkF m 40 #[sR b1, sR s1, .val (.int (Int32.ofNat cs.length))] [(.int (Int32.ofNat (bc ++ cs).length)), (.ref b1)])) rfl rfl (hb hby dj68_22_40)
  have P457 : Rg p e below (T456.setTop (mkF m 43 #[sR b1, sR s1, .val (.int (Int32.ofNat cs.length))] [])) B0 := fun t k => P454 t (by
    exact st456 _ k)
  have f458 := F3445.same W456
  have N459 := Fr.snoc X456 N446 g_b1
  have Z460 : n0 ≤ h456.size := Nat.le_trans Z448 (Keep.of_wr W456).1
  have K461 : Keep h0 h456 [b1, v1] := K449.wr W456 (Or.inl (List.mem_of_getElem? (i := 0) rfl))
  have O462 : Old Z n0 h456 := O450.wr W456 g_b1
  have f463 := (F1445.other W456 (Or.inr (slot_ne (Or.inl (oH hw 75 rfl)) (Or.inl (oH hw 99 rfl)) (by decide) (t := (.array .byte)) (t' := .int) (by decide) (by decide))))
  have f464 := (F2445.other W456 (Or.inr (slot_ne (Or.inl (oH hw 77 rfl)) (Or.inl (oH hw 99 rfl)) (by decide) (t := .byte) (t' := .int) (by decide) (by decide))))
  have f465 := (F4445.other W456 (Or.inr (slot_ne (Or.inl (oH hw 255 rfl)) (Or.inl (oH hw 99 rfl)) (by decide) (t := .boolean) (t' := .int) (by decide) (by decide))))
  have f466 := (A445.other W456 (Exa.ne E445 (E_b1.keep K445) (by decide)))
  have f467 := (E445.wr W456)
  obtain ⟨fs468, hr468, hrun468, hended468, hW468, hsame468⟩ := X456.leave (v := some (.ref b1)) (fun h => by rw [Bd.returns] at h; cases h)
  refine ⟨_, _, pre0 _ (P457 _ ?_), hrun468, hended468, _, _, rfl, ?_, ⟨⟨_, rfl⟩, hW468, hsame468.mono (oB rfl) (oB rfl)⟩⟩
  · show Sq p e below (T456.setTop (mkF m 43 #[sR b1, sR s1, .val (.int (Int32.ofNat cs.length))] [])) _
    refine XS.aloadN X456.here hx rfl (hb hby dj68_22_43) rfl rfl ?_
    exact retOut X456 hx Bd.returns rfl (Or.inr (Or.inr (Or.inr (Or.inr ⟨rfl, rfl, rfl⟩)))) (hb hby dj68_22_44) hr468
  · show Q_apa00 Z b1 v1 bc cs h0 n0 _ T456.heap _
    rw [e456]
    exact ⟨rfl, N459, K461, v2445, _, f463, f464, f458, f465, f466, f467, g_v2445, hv445.imp id (fun q => Nat.le_trans (Nat.le_refl _) q)⟩
theorem ef_apa11 (m : MethodId) (x0 : Addr) (x1 : Addr) : entryFrame m #[(.ref x0), (.ref x1)] 3 = mkF m 0 #[sR x0, sR x1, sU] [] := by (first | (simp [entryFrame, mkF, argsToLocals, Value.category]; done) | rfl)
def Q_apa11 (Z : State) (b1 v1 : Addr) (bc cs : List Int32) (h0 : Heap) (n0 : Nat) (v : Option Value) (h : Heap) (L : List Loc) : Prop := v = some (.ref b1) ∧ Fr n0 L ∧ Keep h0 h [b1, v1] ∧ ∃ (v2 : Addr) (k2 : ClassId), Fld Z h b1 nA "value" "[B" (.ref v2) ∧ Fld Z h b1 nA "coder" "B" (vI 1) ∧ Fld Z h b1 nA "count" "I" (.int (Int32.ofNat (bc ++ cs).length)) ∧ Fld Z h b1 nA "maybeLatin1" "Z" (vI 0) ∧ Arv Z h v2 k2 .byte (32 : Int32) ((own_by true (bc ++ cs)).map Value.int) (vI 0) ∧ Exa Z h v2 "[B" ∧ n0 ≤ v2 ∧ (v2 = v1 ∨ h0.size ≤ v2)
theorem rm_apa11 (l : Launch) (Z : State) (a0 : Array Value) (hw : Tb a0 Z) (ws : List Jvm.Cond) (b1 v1 : Addr) (kv : ClassId) (bc : List Int32) (s1 t1 : Addr) (kt : ClassId) (N : Int32) (cs : List Int32) (G1 : Int32) (G2 : Value) (h0 : Heap) (n0 : Nat) (Z0 : n0 ≤ h0.size) (g_b1 : n0 ≤ b1) (g_v1 : n0 ≤ v1) (E_b1 : Exa Z h0 b1 nB) (F_value : Fld Z h0 b1 nA "value" "[B" (.ref v1)) (F_coder : Fld Z h0 b1 nA "coder" "B" (vI 1)) (F_count : Fld Z h0 b1 nA "count" "I" (.int (Int32.ofNat bc.length))) (F_maybe : Fld Z h0 b1 nA "maybeLatin1" "Z" (vI 0)) (A_v1 : Arv Z h0 v1 kv .byte (32 : Int32) ((own_by true bc).map Value.int) (vI 0)) (E_v1 : Exa Z h0 v1 "[B") (hb4 : bc.length ≤ 4) (E_s1 : Exa Z h0 s1 nS) (V_s1 : Fld Z h0 s1 nS "value" "[B" (.ref t1)) (C_s1 : Fld Z h0 s1 nS "coder" "B" (vI 1)) (A_s1 : Arv Z h0 t1 kt .byte N ((own_by true cs).map Value.int) (vI 0)) (N_s1 : N = Int32.ofNat (own_by true cs).length) (hc2 : cs.length ≤ 2) (nTV : t1 ≠ v1) (Sg : oSg Z G1) (P5 : ¬ (G1 = (0 : Int32))) (Sf : oSf Z G2) (hG2 : G2.isRef = true) (Sa : oSa Z) (Sh : oSh Z) (Sl : oSl Z) (Ol : Old Z n0 h0) :
    MF l Z h0 y_22 j68_22 3 (some (.object "java/lang/AbstractStringBuilder")) ws (rM 3 0 0 47) #[(.ref b1), (.ref s1)] (Q_apa11 Z b1 v1 bc cs h0 n0) := by
  refine MetFree.of_bodySF (plainFor_of_name pn_java_lang_AbstractStringBuilder) hisR ?_
  intro p e s m args below meth c s₁ Bd hml hP hK
  obtain ⟨rfl, hZ, hh⟩ := hP
  have hx := Bd.exec
  have hby := Bd.bytes
  have hown : s.vm.findClass "java/lang/AbstractStringBuilder" = some m.cls := findClass_of_methodNamed Bd.named
  have X0 : Stand p l e (rM 3 0 0 47) s m #[(.ref b1), (.ref s1)] below meth c s₁ [] 0 0 := Stand.of_body Bd
  have e0 : s₁.heap = h0 := by rw [← hh, Bd.state]; rfl
  have N0 := Fr.nil n0
  obtain ⟨B0, pre0, P0⟩ : ∃ B, Rg p e below B (s₁.setTop (entryFrame m #[(.ref b1), (.ref s1)] 3)) ∧ Rg p e below (s₁.setTop (mkF m 0 #[sR b1, sR s1, sU] [])) B := ⟨_, fun t k => castTop (ef_apa11 m b1 s1) k, fun t k => k⟩
  obtain ⟨cq469, kq469, q469a, q469b, q469c⟩ := isOf hZ e0 E_s1
  obtain ⟨_, _, ⟨T469, L469, k469, n469⟩, -, X469, ⟨Lc469, hQ469, l469, y469, z469⟩, st469⟩ := X0.virtualBack hx (y := y_14) (z := y_14) hown (mvT hZ (oH hw 88 rfl)) (mvT hZ (oH hw 89 rfl)) (notFace_of_selects (args := #[]) (mvT hZ (oH hw 91 rfl))) (mvT hZ (oH hw 91 rfl)) (mvT hZ (oH hw 90 rfl)) (by decide) (backOf (W := 0) (rm_sletrue l Z a0 hw [] s1 t1 kt N cs G1 G2 h0 n0 Z0 E_s1 V_s1 C_s1 A_s1 N_s1 (by omega) Sg P5 Sf hG2 Sa Sh Sl Ol) hZ (oH hw 92 rfl) (oH hw 8 rfl) (by decide) (by decide)) q469a q469c (g := (mkF m 10 #[sR b1, sR s1, sU] [(.ref s1)])) rfl (by rw [hml]; rfl) (Steps.refl _) (argsL := []) (rest := []) (lenOf pd16 rfl) rfl (oW rfl) (hb hby dj68_22_10) (fun _ _ => ⟨rfl, e0, (oB rfl : 0 + 0 ≤ _), (oB rfl : 0 + 0 ≤ _)⟩)
  dsimp only [Pt.U, Pt.locs, Pt.cells, Pt.slots] at X469 l469 y469 z469 st469 hQ469
  subst l469 y469 z469
  obtain ⟨rfl, Nq469, e469⟩ := hQ469
  have N470 := Fr.app N0 Nq469
  have P471 : Rg p e below (T469.setTop (mkF m 13 #[sR b1, sR s1, sU] [(.int (Int32.ofNat cs.length))])) B0 := fun t k => P0 t (by
    refine XS.aloadN X0.here hx rfl (hb hby dj68_22_0) rfl rfl ?_
    refine XS.ifnonnullYes X0.here hx rfl (pc0 := 1) (pc' := 9) rfl (hb hby dj68_22_1) rfl (by decide) (by decide) ?_
    refine XS.aloadN X0.here hx rfl (hb hby dj68_22_9) rfl rfl ?_
    exact st469.trans k)
  obtain ⟨T472, X472, e472, st472⟩ := getF X469 hx hZ hown (host := "") (Or.inl (oH hw 98 rfl)) Via.refl e469 F_count (g := (mkF m 16 #[sR b1, sR s1, .val (.int (Int32.ofNat cs.length))] [(.ref b1), (.ref b1)])) rfl rfl (hb hby dj68_22_16)
  have P473 : Rg p e below (T472.setTop (mkF m 19 #[sR b1, sR s1, .val (.int (Int32.ofNat cs.length))] [(.int (Int32.ofNat bc.length)), (.ref b1)])) B0 := fun t k => P471 t (by
    refine XS.istoreN X469.here hx rfl (hb hby dj68_22_13) rfl (l' := #[sR b1, sR s1, .val (.int (Int32.ofNat cs.length))]) rfl ?_
    refine XS.aloadN X469.here hx rfl (hb hby dj68_22_14) rfl rfl ?_
    refine XS.aloadN X469.here hx rfl (hb hby dj68_22_15) rfl rfl ?_
    exact st472 _ k)
  obtain ⟨cq474, q474a, q474b⟩ := E_b1.cell
  obtain ⟨_, _, ⟨T474, L474, k474, n474⟩, -, X474, ⟨Lc474, hQ474, l474, y474, z474⟩, st474⟩ := X472.privateBack hx (y := y_21) hown (mvT hZ (oH hw 100 rfl)) (mvT hZ (oH hw 101 rfl)) (own_selPriv2 (y2 := y_21) rfl (mvT hZ (oH hw 101 rfl)) (Cond.privateMethod_at (mvP hZ (oH hw 102 rfl) (args := #[]))) (mvT hZ (oH hw 103 rfl) (args := #[])) (by decide)) (Cond.privateMethod_at (mvP hZ (oH hw 102 rfl) (args := #[]))) (mvT hZ (oH hw 104 rfl)) (by decide) (backOf (W := 0) (rm_ens1 l Z a0 hw [] b1 v1 kv bc ((Int32.ofNat bc.length) + (Int32.ofNat cs.length)) G1 G2 h0 n0 Z0 g_b1 g_v1 E_b1 F_value F_coder F_count F_maybe A_v1 E_v1 hb4 (own_en hb4 hc2) Sg P5 Sf hG2 Sa Sh Sl Ol) hZ (oH hw 104 rfl) (oH hw 70 rfl) (by decide) (by decide)) (g := (mkF m 21 #[sR b1, sR s1, .val (.int (Int32.ofNat cs.length))] [(.int ((Int32.ofNat bc.length) + (Int32.ofNat cs.length))), (.ref b1)])) rfl (by rw [hml]; rfl) (Steps.refl _) (a := b1) (by rw [e472]; exact q474a) q474b (argsL := [(.int ((Int32.ofNat bc.length) + (Int32.ofNat cs.length)))]) (rest := []) (lenOf pd17 rfl) rfl (oW rfl) (hb hby dj68_22_21) (fun _ _ => ⟨rfl, e472, (oB rfl : 0 + 0 ≤ _), (oB rfl : 0 + 0 ≤ _)⟩)
  dsimp only [Pt.U, Pt.locs, Pt.cells, Pt.slots] at X474 l474 y474 z474 st474 hQ474
  subst l474 y474 z474
  obtain ⟨rfl, Nq474, e474⟩ := hQ474
  have N475 := Fr.app N470 Nq474
  have P476 : Rg p e below (T474.setTop (mkF m 24 #[sR b1, sR s1, .val (.int (Int32.ofNat cs.length))] [])) B0 := fun t k => P473 t (by
    refine XS.iloadN X472.here hx rfl (hb hby dj68_22_19) rfl ?_
    refine XS.iadd X472.here hx rfl (hb hby dj68_22_20) rfl ?_
    exact st474.trans k)
  obtain ⟨T477, X477, e477, st477⟩ := getF X474 hx hZ hown (host := "") (Or.inl (oH hw 98 rfl)) Via.refl e474 F_count (g := (mkF m 26 #[sR b1, sR s1, .val (.int (Int32.ofNat cs.length))] [(.ref b1), (.ref b1)])) rfl rfl (hb hby dj68_22_26)
  have P478 : Rg p e below (T477.setTop (mkF m 29 #[sR b1, sR s1, .val (.int (Int32.ofNat cs.length))] [(.int (Int32.ofNat bc.length)), (.ref b1)])) B0 := fun t k => P476 t (by
    refine XS.aloadN X474.here hx rfl (hb hby dj68_22_24) rfl rfl ?_
    refine XS.aloadN X474.here hx rfl (hb hby dj68_22_25) rfl rfl ?_
    exact st477 _ k)
  obtain ⟨cq479, q479a, q479b⟩ := E_b1.cell
  obtain ⟨_, _, ⟨T479, L479, k479, n479⟩, -, X479, ⟨Lc479, hQ479, l479, y479, z479⟩, st479⟩ := X477.privateBack hx (y := y_20) hown (mvT hZ (oH hw 105 rfl)) (mvT hZ (oH hw 106 rfl)) (own_selPriv2 (y2 := y_20) rfl (mvT hZ (oH hw 106 rfl)) (Cond.privateMethod_at (mvP hZ (oH hw 107 rfl) (args := #[]))) (mvT hZ (oH hw 108 rfl) (args := #[])) (by decide)) (Cond.privateMethod_at (mvP hZ (oH hw 107 rfl) (args := #[]))) (mvT hZ (oH hw 109 rfl)) (by decide) (backOf (W := 0) (rm_pst11 l Z a0 hw [] b1 v1 kv bc s1 t1 kt N cs G1 G2 h0 n0 Z0 g_b1 g_v1 E_b1 F_value F_coder F_count F_maybe A_v1 E_v1 hb4 E_s1 V_s1 C_s1 A_s1 N_s1 hc2 nTV Sg P5 Sf hG2 Sa Sh Sl Ol) hZ (oH hw 109 rfl) (oH hw 70 rfl) (by decide) (by decide)) (g := (mkF m 30 #[sR b1, sR s1, .val (.int (Int32.ofNat cs.length))] [(.ref s1), (.int (Int32.ofNat bc.length)), (.ref b1)])) rfl (by rw [hml]; rfl) (Steps.refl _) (a := b1) (by rw [e477]; exact q479a) q479b (argsL := [(.int (Int32.ofNat bc.length)), (.ref s1)]) (rest := []) (lenOf pd18 rfl) rfl (oW rfl) (hb hby dj68_22_30) (fun _ _ => ⟨rfl, e477, (oB rfl : 0 + 0 ≤ _), (oB rfl : 0 + 0 ≤ _)⟩)
  dsimp only [Pt.U, Pt.locs, Pt.cells, Pt.slots] at X479 l479 y479 z479 st479 hQ479
  subst l479 y479 z479
  obtain ⟨rfl, Nq479, K479, v2479, k2479, F1479, F2479, F3479, F4479, A479, E479, g_v2479, hv479⟩ := hQ479
  have N480 := Fr.app N475 Nq479
  have P481 : Rg p e below (T479.setTop (mkF m 33 #[sR b1, sR s1, .val (.int (Int32.ofNat cs.length))] [])) B0 := fun t k => P478 t (by
    refine XS.aloadN X477.here hx rfl (hb hby dj68_22_29) rfl rfl ?_
    exact st479.trans k)
  have Z482 : n0 ≤ T479.heap.size := Nat.le_trans Z0 K479.1
  have K483 : Keep h0 T479.heap [b1, v1] := (Keep.refl h0 [b1, v1]).trans K479 ((allS (Or.inl (List.mem_of_getElem? (i := 0) rfl)) (allS (Or.inl (List.mem_of_getElem? (i := 1) rfl)) all0)))
  have O484 : Old Z n0 T479.heap := Ol.keep K479 (allS g_b1 (allS g_v1 all0))
  obtain ⟨T485, X485, e485, st485⟩ := getF X479 hx hZ hown (host := "") (Or.inl (oH hw 98 rfl)) Via.refl rfl F3479 (g := (mkF m 35 #[sR b1, sR s1, .val (.int (Int32.ofNat cs.length))] [(.ref b1), (.ref b1)])) rfl rfl (hb hby dj68_22_35)
  have P486 : Rg p e below (T485.setTop (mkF m 38 #[sR b1, sR s1, .val (.int (Int32.ofNat cs.length))] [(.int (Int32.ofNat bc.length)), (.ref b1)])) B0 := fun t k => P481 t (by
    refine XS.aloadN X479.here hx rfl (hb hby dj68_22_33) rfl rfl ?_
    refine XS.dup X479.here hx rfl (hb hby dj68_22_34) rfl rfl ?_
    exact st485 _ k)
  have hq9 : Int32.ofNat (bc ++ cs).length = ((Int32.ofNat bc.length) + (Int32.ofNat cs.length)) := own_cnt bc cs
  have P487 : Rg p e below (T485.setTop (mkF m 40 #[sR b1, sR s1, .val (.int (Int32.ofNat cs.length))] [(.int ((Int32.ofNat bc.length) + (Int32.ofNat cs.length))), (.ref b1)])) B0 := fun t k => P486 t (by
    refine XS.iloadN X485.here hx rfl (hb hby dj68_22_38) rfl ?_
    refine XS.iadd X485.here hx rfl (hb hby dj68_22_39) rfl ?_
    show Sq p e below (T485.setTop (mkF m 40 #[sR b1, sR s1, .val (.int (Int32.ofNat cs.length))] [(.int ((Int32.ofNat bc.length) + (Int32.ofNat cs.length))), (.ref b1)])) _
    exact k)
  have P488 : Rg p e below (T485.setTop (mkF m 40 #[sR b1, sR s1, .val (.int (Int32.ofNat cs.length))] [(.int (Int32.ofNat (bc ++ cs).length)), (.ref b1)])) B0 := fun t k => P487 t (by rw [hq9] at k; exact k)
  have f489 := (E_b1.keep K479)
  obtain ⟨T490, h490, X490, e490, W490, st490⟩ := putF X485 hx hZ hown (host := "") (Or.inl (oH hw 98 rfl)) Via.refl e485 F3479 f489 (Or.inl (oH hw 99 rfl)) (oH hw 61 rfl) (ty := .int) (by decide) rfl rfl (g := (mkF m 40 #[sR b1, sR s1, .val (.int (Int32.ofNat cs.length))] [(.int (Int32.ofNat (bc ++ cs).length)), (.ref b1)])) rfl rfl (hb hby dj68_22_40)
  have P491 : Rg p e below (T490.setTop (mkF m 43 #[sR b1, sR s1, .val (.int (Int32.ofNat cs.length))] [])) B0 := fun t k => P488 t (by
    exact st490 _ k)
  have f492 := F3479.same W490
  have N493 := Fr.snoc X490 N480 g_b1
  have Z494 : n0 ≤ h490.size := Nat.le_trans Z482 (Keep.of_wr W490).1
  have K495 : Keep h0 h490 [b1, v1] := K483.wr W490 (Or.inl (List.mem_of_getElem? (i := 0) rfl))
  have O496 : Old Z n0 h490 := O484.wr W490 g_b1
  have f497 := (F1479.other W490 (Or.inr (slot_ne (Or.inl (oH hw 75 rfl)) (Or.inl (oH hw 99 rfl)) (by decide) (t := (.array .byte)) (t' := .int) (by decide) (by decide))))
  have f498 := (F2479.other W490 (Or.inr (slot_ne (Or.inl (oH hw 77 rfl)) (Or.inl (oH hw 99 rfl)) (by decide) (t := .byte) (t' := .int) (by decide) (by decide))))
  have f499 := (F4479.other W490 (Or.inr (slot_ne (Or.inl (oH hw 255 rfl)) (Or.inl (oH hw 99 rfl)) (by decide) (t := .boolean) (t' := .int) (by decide) (by decide))))
  have f500 := (A479.other W490 (Exa.ne E479 (E_b1.keep K479) (by decide)))
  have f501 := (E479.wr W490)
  obtain ⟨fs502, hr502, hrun502, hended502, hW502, hsame502⟩ := X490.leave (v := some (.ref b1)) (fun h => by rw [Bd.returns] at h; cases h)
  refine ⟨_, _, pre0 _ (P491 _ ?_), hrun502, hended502, _, _, rfl, ?_, ⟨⟨_, rfl⟩, hW502, hsame502.mono (oB rfl) (oB rfl)⟩⟩
  · show Sq p e below (T490.setTop (mkF m 43 #[sR b1, sR s1, .val (.int (Int32.ofNat cs.length))] [])) _
    refine XS.aloadN X490.here hx rfl (hb hby dj68_22_43) rfl rfl ?_
    exact retOut X490 hx Bd.returns rfl (Or.inr (Or.inr (Or.inr (Or.inr ⟨rfl, rfl, rfl⟩)))) (hb hby dj68_22_44) hr502
  · show Q_apa11 Z b1 v1 bc cs h0 n0 _ T490.heap _
    rw [e490]
    exact ⟨rfl, N493, K495, v2479, _, f497, f498, f492, f499, f500, f501, g_v2479, hv479.imp id (fun q => Nat.le_trans (Nat.le_refl _) q)⟩
theorem ef_apa01 (m : MethodId) (x0 : Addr) (x1 : Addr) : entryFrame m #[(.ref x0), (.ref x1)] 3 = mkF m 0 #[sR x0, sR x1, sU] [] := by (first | (simp [entryFrame, mkF, argsToLocals, Value.category]; done) | rfl)
def Q_apa01 (Z : State) (b1 v1 : Addr) (bc cs : List Int32) (h0 : Heap) (n0 : Nat) (v : Option Value) (h : Heap) (L : List Loc) : Prop := v = some (.ref b1) ∧ Fr n0 L ∧ Keep h0 h [b1, v1] ∧ ∃ (v2 : Addr) (k2 : ClassId), Fld Z h b1 nA "value" "[B" (.ref v2) ∧ Fld Z h b1 nA "coder" "B" (vI 1) ∧ Fld Z h b1 nA "count" "I" (.int (Int32.ofNat (bc ++ cs).length)) ∧ Fld Z h b1 nA "maybeLatin1" "Z" (vI 0) ∧ Arv Z h v2 k2 .byte (32 : Int32) ((own_by true (bc ++ cs)).map Value.int) (vI 0) ∧ Exa Z h v2 "[B" ∧ n0 ≤ v2 ∧ (v2 = v1 ∨ h0.size ≤ v2)
theorem rm_apa01 (l : Launch) (Z : State) (a0 : Array Value) (hw : Tb a0 Z) (ws : List Jvm.Cond) (b1 v1 : Addr) (kv : ClassId) (bc : List Int32) (s1 t1 : Addr) (kt : ClassId) (N : Int32) (cs : List Int32) (G1 : Int32) (G2 : Value) (h0 : Heap) (n0 : Nat) (Z0 : n0 ≤ h0.size) (g_b1 : n0 ≤ b1) (g_v1 : n0 ≤ v1) (E_b1 : Exa Z h0 b1 nB) (F_value : Fld Z h0 b1 nA "value" "[B" (.ref v1)) (F_coder : Fld Z h0 b1 nA "coder" "B" (vI 1)) (F_count : Fld Z h0 b1 nA "count" "I" (.int (Int32.ofNat bc.length))) (F_maybe : Fld Z h0 b1 nA "maybeLatin1" "Z" (vI 0)) (A_v1 : Arv Z h0 v1 kv .byte (32 : Int32) ((own_by true bc).map Value.int) (vI 0)) (E_v1 : Exa Z h0 v1 "[B") (hb4 : bc.length ≤ 4) (E_s1 : Exa Z h0 s1 nS) (V_s1 : Fld Z h0 s1 nS "value" "[B" (.ref t1)) (C_s1 : Fld Z h0 s1 nS "coder" "B" (vI 0)) (A_s1 : Arv Z h0 t1 kt .byte N ((own_by false cs).map Value.int) (vI 0)) (N_s1 : N = Int32.ofNat (own_by false cs).length) (hc2 : cs.length ≤ 2) (nTV : t1 ≠ v1) (hbd : ∀ c ∈ cs, ¬ c < 0 ∧ ¬ (255 : Int32) < c) (Sg : oSg Z G1) (P5 : ¬ (G1 = (0 : Int32))) (Sf : oSf Z G2) (hG2 : G2.isRef = true) (Sa : oSa Z) (Sh : oSh Z) (Sl : oSl Z) (Ol : Old Z n0 h0) :
    MF l Z h0 y_22 j68_22 3 (some (.object "java/lang/AbstractStringBuilder")) ws (rM 7 0 0 105) #[(.ref b1), (.ref s1)] (Q_apa01 Z b1 v1 bc cs h0 n0) := by
  refine MetFree.of_bodySF (plainFor_of_name pn_java_lang_AbstractStringBuilder) hisR ?_
  intro p e s m args below meth c s₁ Bd hml hP hK
  obtain ⟨rfl, hZ, hh⟩ := hP
  have hx := Bd.exec
  have hby := Bd.bytes
  have hown : s.vm.findClass "java/lang/AbstractStringBuilder" = some m.cls := findClass_of_methodNamed Bd.named
  have X0 : Stand p l e (rM 7 0 0 105) s m #[(.ref b1), (.ref s1)] below meth c s₁ [] 0 0 := Stand.of_body Bd
  have e0 : s₁.heap = h0 := by rw [← hh, Bd.state]; rfl
  have N0 := Fr.nil n0
  obtain ⟨B0, pre0, P0⟩ : ∃ B, Rg p e below B (s₁.setTop (entryFrame m #[(.ref b1), (.ref s1)] 3)) ∧ Rg p e below (s₁.setTop (mkF m 0 #[sR b1, sR s1, sU] [])) B := ⟨_, fun t k => castTop (ef_apa01 m b1 s1) k, fun t k => k⟩
  obtain ⟨cq503, kq503, q503a, q503b, q503c⟩ := isOf hZ e0 E_s1
  obtain ⟨_, _, ⟨T503, L503, k503, n503⟩, -, X503, ⟨Lc503, hQ503, l503, y503, z503⟩, st503⟩ := X0.virtualBack hx (y := y_14) (z := y_14) hown (mvT hZ (oH hw 88 rfl)) (mvT hZ (oH hw 89 rfl)) (notFace_of_selects (args := #[]) (mvT hZ (oH hw 91 rfl))) (mvT hZ (oH hw 91 rfl)) (mvT hZ (oH hw 90 rfl)) (by decide) (backOf (W := 0) (rm_slefalse l Z a0 hw [] s1 t1 kt N cs G1 G2 h0 n0 Z0 E_s1 V_s1 C_s1 A_s1 N_s1 (by omega) Sg P5 Sf hG2 Sa Sh Sl Ol) hZ (oH hw 92 rfl) (oH hw 8 rfl) (by decide) (by decide)) q503a q503c (g := (mkF m 10 #[sR b1, sR s1, sU] [(.ref s1)])) rfl (by rw [hml]; rfl) (Steps.refl _) (argsL := []) (rest := []) (lenOf pd16 rfl) rfl (oW rfl) (hb hby dj68_22_10) (fun _ _ => ⟨rfl, e0, (oB rfl : 0 + 0 ≤ _), (oB rfl : 0 + 0 ≤ _)⟩)
  dsimp only [Pt.U, Pt.locs, Pt.cells, Pt.slots] at X503 l503 y503 z503 st503 hQ503
  subst l503 y503 z503
  obtain ⟨rfl, Nq503, e503⟩ := hQ503
  have N504 := Fr.app N0 Nq503
  have P505 : Rg p e below (T503.setTop (mkF m 13 #[sR b1, sR s1, sU] [(.int (Int32.ofNat cs.length))])) B0 := fun t k => P0 t (by
    refine XS.aloadN X0.here hx rfl (hb hby dj68_22_0) rfl rfl ?_
    refine XS.ifnonnullYes X0.here hx rfl (pc0 := 1) (pc' := 9) rfl (hb hby dj68_22_1) rfl (by decide) (by decide) ?_
    refine XS.aloadN X0.here hx rfl (hb hby dj68_22_9) rfl rfl ?_
    exact st503.trans k)
  obtain ⟨T506, X506, e506, st506⟩ := getF X503 hx hZ hown (host := "") (Or.inl (oH hw 98 rfl)) Via.refl e503 F_count (g := (mkF m 16 #[sR b1, sR s1, .val (.int (Int32.ofNat cs.length))] [(.ref b1), (.ref b1)])) rfl rfl (hb hby dj68_22_16)
  have P507 : Rg p e below (T506.setTop (mkF m 19 #[sR b1, sR s1, .val (.int (Int32.ofNat cs.length))] [(.int (Int32.ofNat bc.length)), (.ref b1)])) B0 := fun t k => P505 t (by
    refine XS.istoreN X503.here hx rfl (hb hby dj68_22_13) rfl (l' := #[sR b1, sR s1, .val (.int (Int32.ofNat cs.length))]) rfl ?_
    refine XS.aloadN X503.here hx rfl (hb hby dj68_22_14) rfl rfl ?_
    refine XS.aloadN X503.here hx rfl (hb hby dj68_22_15) rfl rfl ?_
    exact st506 _ k)
  obtain ⟨cq508, q508a, q508b⟩ := E_b1.cell
  obtain ⟨_, _, ⟨T508, L508, k508, n508⟩, -, X508, ⟨Lc508, hQ508, l508, y508, z508⟩, st508⟩ := X506.privateBack hx (y := y_21) hown (mvT hZ (oH hw 100 rfl)) (mvT hZ (oH hw 101 rfl)) (own_selPriv2 (y2 := y_21) rfl (mvT hZ (oH hw 101 rfl)) (Cond.privateMethod_at (mvP hZ (oH hw 102 rfl) (args := #[]))) (mvT hZ (oH hw 103 rfl) (args := #[])) (by decide)) (Cond.privateMethod_at (mvP hZ (oH hw 102 rfl) (args := #[]))) (mvT hZ (oH hw 104 rfl)) (by decide) (backOf (W := 0) (rm_ens1 l Z a0 hw [] b1 v1 kv bc ((Int32.ofNat bc.length) + (Int32.ofNat cs.length)) G1 G2 h0 n0 Z0 g_b1 g_v1 E_b1 F_value F_coder F_count F_maybe A_v1 E_v1 hb4 (own_en hb4 hc2) Sg P5 Sf hG2 Sa Sh Sl Ol) hZ (oH hw 104 rfl) (oH hw 70 rfl) (by decide) (by decide)) (g := (mkF m 21 #[sR b1, sR s1, .val (.int (Int32.ofNat cs.length))] [(.int ((Int32.ofNat bc.length) + (Int32.ofNat cs.length))), (.ref b1)])) rfl (by rw [hml]; rfl) (Steps.refl _) (a := b1) (by rw [e506]; exact q508a) q508b (argsL := [(.int ((Int32.ofNat bc.length) + (Int32.ofNat cs.length)))]) (rest := []) (lenOf pd17 rfl) rfl (oW rfl) (hb hby dj68_22_21) (fun _ _ => ⟨rfl, e506, (oB rfl : 0 + 0 ≤ _), (oB rfl : 0 + 0 ≤ _)⟩)
  dsimp only [Pt.U, Pt.locs, Pt.cells, Pt.slots] at X508 l508 y508 z508 st508 hQ508
  subst l508 y508 z508
  obtain ⟨rfl, Nq508, e508⟩ := hQ508
  have N509 := Fr.app N504 Nq508
  have P510 : Rg p e below (T508.setTop (mkF m 24 #[sR b1, sR s1, .val (.int (Int32.ofNat cs.length))] [])) B0 := fun t k => P507 t (by
    refine XS.iloadN X506.here hx rfl (hb hby dj68_22_19) rfl ?_
    refine XS.iadd X506.here hx rfl (hb hby dj68_22_20) rfl ?_
    exact st508.trans k)
  obtain ⟨T511, X511, e511, st511⟩ := getF X508 hx hZ hown (host := "") (Or.inl (oH hw 98 rfl)) Via.refl e508 F_count (g := (mkF m 26 #[sR b1, sR s1, .val (.int (Int32.ofNat cs.length))] [(.ref b1), (.ref b1)])) rfl rfl (hb hby dj68_22_26)
  have P512 : Rg p e below (T511.setTop (mkF m 29 #[sR b1, sR s1, .val (.int (Int32.ofNat cs.length))] [(.int (Int32.ofNat bc.length)), (.ref b1)])) B0 := fun t k => P510 t (by
    refine XS.aloadN X508.here hx rfl (hb hby dj68_22_24) rfl rfl ?_
    refine XS.aloadN X508.here hx rfl (hb hby dj68_22_25) rfl rfl ?_
    exact st511 _ k)
  obtain ⟨cq513, q513a, q513b⟩ := E_b1.cell
  obtain ⟨_, _, ⟨T513, L513, k513, n513⟩, -, X513, ⟨Lc513, hQ513, l513, y513, z513⟩, st513⟩ := X511.privateBack hx (y := y_20) hown (mvT hZ (oH hw 105 rfl)) (mvT hZ (oH hw 106 rfl)) (own_selPriv2 (y2 := y_20) rfl (mvT hZ (oH hw 106 rfl)) (Cond.privateMethod_at (mvP hZ (oH hw 107 rfl) (args := #[]))) (mvT hZ (oH hw 108 rfl) (args := #[])) (by decide)) (Cond.privateMethod_at (mvP hZ (oH hw 107 rfl) (args := #[]))) (mvT hZ (oH hw 109 rfl)) (by decide) (backOf (W := 0) (rm_pst01 l Z a0 hw [] b1 v1 kv bc s1 t1 kt N cs G1 G2 h0 n0 Z0 g_b1 g_v1 E_b1 F_value F_coder F_count F_maybe A_v1 E_v1 hb4 E_s1 V_s1 C_s1 A_s1 N_s1 hc2 nTV hbd Sg P5 Sf hG2 Sa Sh Sl Ol) hZ (oH hw 109 rfl) (oH hw 70 rfl) (by decide) (by decide)) (g := (mkF m 30 #[sR b1, sR s1, .val (.int (Int32.ofNat cs.length))] [(.ref s1), (.int (Int32.ofNat bc.length)), (.ref b1)])) rfl (by rw [hml]; rfl) (Steps.refl _) (a := b1) (by rw [e511]; exact q513a) q513b (argsL := [(.int (Int32.ofNat bc.length)), (.ref s1)]) (rest := []) (lenOf pd18 rfl) rfl (oW rfl) (hb hby dj68_22_30) (fun _ _ => ⟨rfl, e511, (oB rfl : 0 + 0 ≤ _), (oB rfl : 0 + 0 ≤ _)⟩)
  dsimp only [Pt.U, Pt.locs, Pt.cells, Pt.slots] at X513 l513 y513 z513 st513 hQ513
  subst l513 y513 z513
  obtain ⟨rfl, Nq513, K513, v2513, k2513, F1513, F2513, F3513, F4513, A513, E513, g_v2513, hv513⟩ := hQ513
  have N514 := Fr.app N509 Nq513
  have P515 : Rg p e below (T513.setTop (mkF m 33 #[sR b1, sR s1, .val (.int (Int32.ofNat cs.length))] [])) B0 := fun t k => P512 t (by
    refine XS.aloadN X511.here hx rfl (hb hby dj68_22_29) rfl rfl ?_
    exact st513.trans k)
  have Z516 : n0 ≤ T513.heap.size := Nat.le_trans Z0 K513.1
  have K517 : Keep h0 T513.heap [b1, v1] := (Keep.refl h0 [b1, v1]).trans K513 ((allS (Or.inl (List.mem_of_getElem? (i := 0) rfl)) (allS (Or.inl (List.mem_of_getElem? (i := 1) rfl)) all0)))
  have O518 : Old Z n0 T513.heap := Ol.keep K513 (allS g_b1 (allS g_v1 all0))
  obtain ⟨T519, X519, e519, st519⟩ := getF X513 hx hZ hown (host := "") (Or.inl (oH hw 98 rfl)) Via.refl rfl F3513 (g := (mkF m 35 #[sR b1, sR s1, .val (.int (Int32.ofNat cs.length))] [(.ref b1), (.ref b1)])) rfl rfl (hb hby dj68_22_35)
  have P520 : Rg p e below (T519.setTop (mkF m 38 #[sR b1, sR s1, .val (.int (Int32.ofNat cs.length))] [(.int (Int32.ofNat bc.length)), (.ref b1)])) B0 := fun t k => P515 t (by
    refine XS.aloadN X513.here hx rfl (hb hby dj68_22_33) rfl rfl ?_
    refine XS.dup X513.here hx rfl (hb hby dj68_22_34) rfl rfl ?_
    exact st519 _ k)
  have hq9 : Int32.ofNat (bc ++ cs).length = ((Int32.ofNat bc.length) + (Int32.ofNat cs.length)) := own_cnt bc cs
  have P521 : Rg p e below (T519.setTop (mkF m 40 #[sR b1, sR s1, .val (.int (Int32.ofNat cs.length))] [(.int ((Int32.ofNat bc.length) + (Int32.ofNat cs.length))), (.ref b1)])) B0 := fun t k => P520 t (by
    refine XS.iloadN X519.here hx rfl (hb hby dj68_22_38) rfl ?_
    refine XS.iadd X519.here hx rfl (hb hby dj68_22_39) rfl ?_
    show Sq p e below (T519.setTop (mkF m 40 #[sR b1, sR s1, .val (.int (Int32.ofNat cs.length))] [(.int ((Int32.ofNat bc.length) + (Int32.ofNat cs.length))), (.ref b1)])) _
    exact k)
  have P522 : Rg p e below (T519.setTop (mkF m 40 #[sR b1, sR s1, .val (.int (Int32.ofNat cs.length))] [(.int (Int32.ofNat (bc ++ cs).length)), (.ref b1)])) B0 := fun t k => P521 t (by rw [hq9] at k; exact k)
  have f523 := (E_b1.keep K513)
  obtain ⟨T524, h524, X524, e524, W524, st524⟩ := putF X519 hx hZ hown (host := "") (Or.inl (oH hw 98 rfl)) Via.refl e519 F3513 f523 (Or.inl (oH hw 99 rfl)) (oH hw 61 rfl) (ty := .int) (by decide) rfl rfl (g := (mkF m 40 #[sR b1, sR s1, .val (.int (Int32.ofNat cs.length))] [(.int (Int32.ofNat (bc ++ cs).length)), (.ref b1)])) rfl rfl (hb hby dj68_22_40)
  have P525 : Rg p e below (T524.setTop (mkF m 43 #[sR b1, sR s1, .val (.int (Int32.ofNat cs.length))] [])) B0 := fun t k => P522 t (by
    exact st524 _ k)
  have f526 := F3513.same W524
  have N527 := Fr.snoc X524 N514 g_b1
  have Z528 : n0 ≤ h524.size := Nat.le_trans Z516 (Keep.of_wr W524).1
  have K529 : Keep h0 h524 [b1, v1] := K517.wr W524 (Or.inl (List.mem_of_getElem? (i := 0) rfl))
  have O530 : Old Z n0 h524 := O518.wr W524 g_b1
  have f531 := (F1513.other W524 (Or.inr (slot_ne (Or.inl (oH hw 75 rfl)) (Or.inl (oH hw 99 rfl)) (by decide) (t := (.array .byte)) (t' := .int) (by decide) (by decide))))
  have f532 := (F2513.other W524 (Or.inr (slot_ne (Or.inl (oH hw 77 rfl)) (Or.inl (oH hw 99 rfl)) (by decide) (t := .byte) (t' := .int) (by decide) (by decide))))
  have f533 := (F4513.other W524 (Or.inr (slot_ne (Or.inl (oH hw 255 rfl)) (Or.inl (oH hw 99 rfl)) (by decide) (t := .boolean) (t' := .int) (by decide) (by decide))))
  have f534 := (A513.other W524 (Exa.ne E513 (E_b1.keep K513) (by decide)))
  have f535 := (E513.wr W524)
  obtain ⟨fs536, hr536, hrun536, hended536, hW536, hsame536⟩ := X524.leave (v := some (.ref b1)) (fun h => by rw [Bd.returns] at h; cases h)
  refine ⟨_, _, pre0 _ (P525 _ ?_), hrun536, hended536, _, _, rfl, ?_, ⟨⟨_, rfl⟩, hW536, hsame536.mono (oB rfl) (oB rfl)⟩⟩
  · show Sq p e below (T524.setTop (mkF m 43 #[sR b1, sR s1, .val (.int (Int32.ofNat cs.length))] [])) _
    refine XS.aloadN X524.here hx rfl (hb hby dj68_22_43) rfl rfl ?_
    exact retOut X524 hx Bd.returns rfl (Or.inr (Or.inr (Or.inr (Or.inr ⟨rfl, rfl, rfl⟩)))) (hb hby dj68_22_44) hr536
  · show Q_apa01 Z b1 v1 bc cs h0 n0 _ T524.heap _
    rw [e524]
    exact ⟨rfl, N527, K529, v2513, _, f531, f532, f526, f533, f534, f535, g_v2513, hv513.imp id (fun q => Nat.le_trans (Nat.le_refl _) q)⟩
theorem ef_apa10 (m : MethodId) (x0 : Addr) (x1 : Addr) : entryFrame m #[(.ref x0), (.ref x1)] 3 = mkF m 0 #[sR x0, sR x1, sU] [] := by (first | (simp [entryFrame, mkF, argsToLocals, Value.category]; done) | rfl)
def Q_apa10 (Z : State) (b1 v1 : Addr) (bc cs : List Int32) (h0 : Heap) (n0 : Nat) (v : Option Value) (h : Heap) (L : List Loc) : Prop := v = some (.ref b1) ∧ Fr n0 L ∧ Keep h0 h [b1, v1] ∧ ∃ (v2 : Addr) (k2 : ClassId), Fld Z h b1 nA "value" "[B" (.ref v2) ∧ Fld Z h b1 nA "coder" "B" (vI 1) ∧ Fld Z h b1 nA "count" "I" (.int (Int32.ofNat (bc ++ cs).length)) ∧ Fld Z h b1 nA "maybeLatin1" "Z" (vI 0) ∧ Arv Z h v2 k2 .byte (32 : Int32) ((own_by true (bc ++ cs)).map Value.int) (vI 0) ∧ Exa Z h v2 "[B" ∧ n0 ≤ v2 ∧ (v2 = v1 ∨ h0.size ≤ v2)
theorem rm_apa10 (l : Launch) (Z : State) (a0 : Array Value) (hw : Tb a0 Z) (ws : List Jvm.Cond) (b1 v1 : Addr) (kv : ClassId) (bc : List Int32) (s1 t1 : Addr) (kt : ClassId) (N : Int32) (cs : List Int32) (G1 : Int32) (G2 : Value) (h0 : Heap) (n0 : Nat) (Z0 : n0 ≤ h0.size) (g_b1 : n0 ≤ b1) (g_v1 : n0 ≤ v1) (E_b1 : Exa Z h0 b1 nB) (F_value : Fld Z h0 b1 nA "value" "[B" (.ref v1)) (F_coder : Fld Z h0 b1 nA "coder" "B" (vI 0)) (F_count : Fld Z h0 b1 nA "count" "I" (.int (Int32.ofNat bc.length))) (F_maybe : Fld Z h0 b1 nA "maybeLatin1" "Z" (vI 0)) (A_v1 : Arv Z h0 v1 kv .byte (16 : Int32) ((own_by false bc).map Value.int) (vI 0)) (E_v1 : Exa Z h0 v1 "[B") (hb4 : bc.length ≤ 4) (E_s1 : Exa Z h0 s1 nS) (V_s1 : Fld Z h0 s1 nS "value" "[B" (.ref t1)) (C_s1 : Fld Z h0 s1 nS "coder" "B" (vI 1)) (A_s1 : Arv Z h0 t1 kt .byte N ((own_by true cs).map Value.int) (vI 0)) (N_s1 : N = Int32.ofNat (own_by true cs).length) (hc2 : cs.length ≤ 2) (nTV : t1 ≠ v1) (hbb : ∀ c ∈ bc, ¬ c < 0 ∧ ¬ (255 : Int32) < c) (Sg : oSg Z G1) (P5 : ¬ (G1 = (0 : Int32))) (Sf : oSf Z G2) (hG2 : G2.isRef = true) (Sa : oSa Z) (Sh : oSh Z) (Sl : oSl Z) (Ol : Old Z n0 h0) :
    MF l Z h0 y_22 j68_22 3 (some (.object "java/lang/AbstractStringBuilder")) ws (rM 8 1 32 116) #[(.ref b1), (.ref s1)] (Q_apa10 Z b1 v1 bc cs h0 n0) := by
  refine MetFree.of_bodySF (plainFor_of_name pn_java_lang_AbstractStringBuilder) hisR ?_
  intro p e s m args below meth c s₁ Bd hml hP hK
  obtain ⟨rfl, hZ, hh⟩ := hP
  have hx := Bd.exec
  have hby := Bd.bytes
  have hown : s.vm.findClass "java/lang/AbstractStringBuilder" = some m.cls := findClass_of_methodNamed Bd.named
  have X0 : Stand p l e (rM 8 1 32 116) s m #[(.ref b1), (.ref s1)] below meth c s₁ [] 0 0 := Stand.of_body Bd
  have e0 : s₁.heap = h0 := by rw [← hh, Bd.state]; rfl
  have N0 := Fr.nil n0
  obtain ⟨B0, pre0, P0⟩ : ∃ B, Rg p e below B (s₁.setTop (entryFrame m #[(.ref b1), (.ref s1)] 3)) ∧ Rg p e below (s₁.setTop (mkF m 0 #[sR b1, sR s1, sU] [])) B := ⟨_, fun t k => castTop (ef_apa10 m b1 s1) k, fun t k => k⟩
  obtain ⟨cq537, kq537, q537a, q537b, q537c⟩ := isOf hZ e0 E_s1
  obtain ⟨_, _, ⟨T537, L537, k537, n537⟩, -, X537, ⟨Lc537, hQ537, l537, y537, z537⟩, st537⟩ := X0.virtualBack hx (y := y_14) (z := y_14) hown (mvT hZ (oH hw 88 rfl)) (mvT hZ (oH hw 89 rfl)) (notFace_of_selects (args := #[]) (mvT hZ (oH hw 91 rfl))) (mvT hZ (oH hw 91 rfl)) (mvT hZ (oH hw 90 rfl)) (by decide) (backOf (W := 0) (rm_sletrue l Z a0 hw [] s1 t1 kt N cs G1 G2 h0 n0 Z0 E_s1 V_s1 C_s1 A_s1 N_s1 (by omega) Sg P5 Sf hG2 Sa Sh Sl Ol) hZ (oH hw 92 rfl) (oH hw 8 rfl) (by decide) (by decide)) q537a q537c (g := (mkF m 10 #[sR b1, sR s1, sU] [(.ref s1)])) rfl (by rw [hml]; rfl) (Steps.refl _) (argsL := []) (rest := []) (lenOf pd16 rfl) rfl (oW rfl) (hb hby dj68_22_10) (fun _ _ => ⟨rfl, e0, (oB rfl : 0 + 0 ≤ _), (oB rfl : 0 + 0 ≤ _)⟩)
  dsimp only [Pt.U, Pt.locs, Pt.cells, Pt.slots] at X537 l537 y537 z537 st537 hQ537
  subst l537 y537 z537
  obtain ⟨rfl, Nq537, e537⟩ := hQ537
  have N538 := Fr.app N0 Nq537
  have P539 : Rg p e below (T537.setTop (mkF m 13 #[sR b1, sR s1, sU] [(.int (Int32.ofNat cs.length))])) B0 := fun t k => P0 t (by
    refine XS.aloadN X0.here hx rfl (hb hby dj68_22_0) rfl rfl ?_
    refine XS.ifnonnullYes X0.here hx rfl (pc0 := 1) (pc' := 9) rfl (hb hby dj68_22_1) rfl (by decide) (by decide) ?_
    refine XS.aloadN X0.here hx rfl (hb hby dj68_22_9) rfl rfl ?_
    exact st537.trans k)
  obtain ⟨T540, X540, e540, st540⟩ := getF X537 hx hZ hown (host := "") (Or.inl (oH hw 98 rfl)) Via.refl e537 F_count (g := (mkF m 16 #[sR b1, sR s1, .val (.int (Int32.ofNat cs.length))] [(.ref b1), (.ref b1)])) rfl rfl (hb hby dj68_22_16)
  have P541 : Rg p e below (T540.setTop (mkF m 19 #[sR b1, sR s1, .val (.int (Int32.ofNat cs.length))] [(.int (Int32.ofNat bc.length)), (.ref b1)])) B0 := fun t k => P539 t (by
    refine XS.istoreN X537.here hx rfl (hb hby dj68_22_13) rfl (l' := #[sR b1, sR s1, .val (.int (Int32.ofNat cs.length))]) rfl ?_
    refine XS.aloadN X537.here hx rfl (hb hby dj68_22_14) rfl rfl ?_
    refine XS.aloadN X537.here hx rfl (hb hby dj68_22_15) rfl rfl ?_
    exact st540 _ k)
  obtain ⟨cq542, q542a, q542b⟩ := E_b1.cell
  obtain ⟨_, _, ⟨T542, L542, k542, n542⟩, -, X542, ⟨Lc542, hQ542, l542, y542, z542⟩, st542⟩ := X540.privateBack hx (y := y_21) hown (mvT hZ (oH hw 100 rfl)) (mvT hZ (oH hw 101 rfl)) (own_selPriv2 (y2 := y_21) rfl (mvT hZ (oH hw 101 rfl)) (Cond.privateMethod_at (mvP hZ (oH hw 102 rfl) (args := #[]))) (mvT hZ (oH hw 103 rfl) (args := #[])) (by decide)) (Cond.privateMethod_at (mvP hZ (oH hw 102 rfl) (args := #[]))) (mvT hZ (oH hw 104 rfl)) (by decide) (backOf (W := 0) (rm_ens0 l Z a0 hw [] b1 v1 kv bc ((Int32.ofNat bc.length) + (Int32.ofNat cs.length)) G1 G2 h0 n0 Z0 g_b1 g_v1 E_b1 F_value F_coder F_count F_maybe A_v1 E_v1 hb4 (own_en hb4 hc2) Sg P5 Sf hG2 Sa Sh Sl Ol) hZ (oH hw 104 rfl) (oH hw 70 rfl) (by decide) (by decide)) (g := (mkF m 21 #[sR b1, sR s1, .val (.int (Int32.ofNat cs.length))] [(.int ((Int32.ofNat bc.length) + (Int32.ofNat cs.length))), (.ref b1)])) rfl (by rw [hml]; rfl) (Steps.refl _) (a := b1) (by rw [e540]; exact q542a) q542b (argsL := [(.int ((Int32.ofNat bc.length) + (Int32.ofNat cs.length)))]) (rest := []) (lenOf pd17 rfl) rfl (oW rfl) (hb hby dj68_22_21) (fun _ _ => ⟨rfl, e540, (oB rfl : 0 + 0 ≤ _), (oB rfl : 0 + 0 ≤ _)⟩)
  dsimp only [Pt.U, Pt.locs, Pt.cells, Pt.slots] at X542 l542 y542 z542 st542 hQ542
  subst l542 y542 z542
  obtain ⟨rfl, Nq542, e542⟩ := hQ542
  have N543 := Fr.app N538 Nq542
  have P544 : Rg p e below (T542.setTop (mkF m 24 #[sR b1, sR s1, .val (.int (Int32.ofNat cs.length))] [])) B0 := fun t k => P541 t (by
    refine XS.iloadN X540.here hx rfl (hb hby dj68_22_19) rfl ?_
    refine XS.iadd X540.here hx rfl (hb hby dj68_22_20) rfl ?_
    exact st542.trans k)
  obtain ⟨T545, X545, e545, st545⟩ := getF X542 hx hZ hown (host := "") (Or.inl (oH hw 98 rfl)) Via.refl e542 F_count (g := (mkF m 26 #[sR b1, sR s1, .val (.int (Int32.ofNat cs.length))] [(.ref b1), (.ref b1)])) rfl rfl (hb hby dj68_22_26)
  have P546 : Rg p e below (T545.setTop (mkF m 29 #[sR b1, sR s1, .val (.int (Int32.ofNat cs.length))] [(.int (Int32.ofNat bc.length)), (.ref b1)])) B0 := fun t k => P544 t (by
    refine XS.aloadN X542.here hx rfl (hb hby dj68_22_24) rfl rfl ?_
    refine XS.aloadN X542.here hx rfl (hb hby dj68_22_25) rfl rfl ?_
    exact st545 _ k)
  obtain ⟨cq547, q547a, q547b⟩ := E_b1.cell
  obtain ⟨_, _, ⟨T547, L547, k547, n547⟩, -, X547, ⟨Lc547, hQ547, l547, y547, z547⟩, st547⟩ := X545.privateBack hx (y := y_20) hown (mvT hZ (oH hw 105 rfl)) (mvT hZ (oH hw 106 rfl)) (own_selPriv2 (y2 := y_20) rfl (mvT hZ (oH hw 106 rfl)) (Cond.privateMethod_at (mvP hZ (oH hw 107 rfl) (args := #[]))) (mvT hZ (oH hw 108 rfl) (args := #[])) (by decide)) (Cond.privateMethod_at (mvP hZ (oH hw 107 rfl) (args := #[]))) (mvT hZ (oH hw 109 rfl)) (by decide) (backOf (W := 0) (rm_pst10 l Z a0 hw [] b1 v1 kv bc s1 t1 kt N cs G1 G2 h0 n0 Z0 g_b1 g_v1 E_b1 F_value F_coder F_count F_maybe A_v1 E_v1 hb4 E_s1 V_s1 C_s1 A_s1 N_s1 hc2 nTV hbb Sg P5 Sf hG2 Sa Sh Sl Ol) hZ (oH hw 109 rfl) (oH hw 70 rfl) (by decide) (by decide)) (g := (mkF m 30 #[sR b1, sR s1, .val (.int (Int32.ofNat cs.length))] [(.ref s1), (.int (Int32.ofNat bc.length)), (.ref b1)])) rfl (by rw [hml]; rfl) (Steps.refl _) (a := b1) (by rw [e545]; exact q547a) q547b (argsL := [(.int (Int32.ofNat bc.length)), (.ref s1)]) (rest := []) (lenOf pd18 rfl) rfl (oW rfl) (hb hby dj68_22_30) (fun _ _ => ⟨rfl, e545, (oB rfl : 0 + 1 ≤ _), (oB rfl : 0 + 32 ≤ _)⟩)
  dsimp only [Pt.U, Pt.locs, Pt.cells, Pt.slots] at X547 l547 y547 z547 st547 hQ547
  subst l547 y547 z547
  obtain ⟨rfl, Nq547, K547, v2547, k2547, F1547, F2547, F3547, F4547, A547, E547, g_v2547, hv547⟩ := hQ547
  have N548 := Fr.app N543 Nq547
  have P549 : Rg p e below (T547.setTop (mkF m 33 #[sR b1, sR s1, .val (.int (Int32.ofNat cs.length))] [])) B0 := fun t k => P546 t (by
    refine XS.aloadN X545.here hx rfl (hb hby dj68_22_29) rfl rfl ?_
    exact st547.trans k)
  have Z550 : n0 ≤ T547.heap.size := Nat.le_trans Z0 K547.1
  have K551 : Keep h0 T547.heap [b1, v1] := (Keep.refl h0 [b1, v1]).trans K547 ((allS (Or.inl (List.mem_of_getElem? (i := 0) rfl)) (allS (Or.inl (List.mem_of_getElem? (i := 1) rfl)) all0)))
  have O552 : Old Z n0 T547.heap := Ol.keep K547 (allS g_b1 (allS g_v1 all0))
  obtain ⟨T553, X553, e553, st553⟩ := getF X547 hx hZ hown (host := "") (Or.inl (oH hw 98 rfl)) Via.refl rfl F3547 (g := (mkF m 35 #[sR b1, sR s1, .val (.int (Int32.ofNat cs.length))] [(.ref b1), (.ref b1)])) rfl rfl (hb hby dj68_22_35)
  have P554 : Rg p e below (T553.setTop (mkF m 38 #[sR b1, sR s1, .val (.int (Int32.ofNat cs.length))] [(.int (Int32.ofNat bc.length)), (.ref b1)])) B0 := fun t k => P549 t (by
    refine XS.aloadN X547.here hx rfl (hb hby dj68_22_33) rfl rfl ?_
    refine XS.dup X547.here hx rfl (hb hby dj68_22_34) rfl rfl ?_
    exact st553 _ k)
  have hq9 : Int32.ofNat (bc ++ cs).length = ((Int32.ofNat bc.length) + (Int32.ofNat cs.length)) := own_cnt bc cs
  have P555 : Rg p e below (T553.setTop (mkF m 40 #[sR b1, sR s1, .val (.int (Int32.ofNat cs.length))] [(.int ((Int32.ofNat bc.length) + (Int32.ofNat cs.length))), (.ref b1)])) B0 := fun t k => P554 t (by
    refine XS.iloadN X553.here hx rfl (hb hby dj68_22_38) rfl ?_
    refine XS.iadd X553.here hx rfl (hb hby dj68_22_39) rfl ?_
    show Sq p e below (T553.setTop (mkF m 40 #[sR b1, sR s1, .val (.int (Int32.ofNat cs.length))] [(.int ((Int32.ofNat bc.length) + (Int32.ofNat cs.length))), (.ref b1)])) _
    exact k)
  have P556 : Rg p e below (T553.setTop (mkF m 40 #[sR b1, sR s1, .val (.int (Int32.ofNat cs.length))] [(.int (Int32.ofNat (bc ++ cs).length)), (.ref b1)])) B0 := fun t k => P555 t (by rw [hq9] at k; exact k)
  have f557 := (E_b1.keep K547)
  obtain ⟨T558, h558, X558, e558, W558, st558⟩ := putF X553 hx hZ hown (host := "") (Or.inl (oH hw 98 rfl)) Via.refl e553 F3547 f557 (Or.inl (oH hw 99 rfl)) (oH hw 61 rfl) (ty := .int) (by decide) rfl rfl (g := (mkF m 40 #[sR b1, sR s1, .val (.int (Int32.ofNat cs.length))] [(.int (Int32.ofNat (bc ++ cs).length)), (.ref b1)])) rfl rfl (hb hby dj68_22_40)
  have P559 : Rg p e below (T558.setTop (mkF m 43 #[sR b1, sR s1, .val (.int (Int32.ofNat cs.length))] [])) B0 := fun t k => P556 t (by
    exact st558 _ k)
  have f560 := F3547.same W558
  have N561 := Fr.snoc X558 N548 g_b1
  have Z562 : n0 ≤ h558.size := Nat.le_trans Z550 (Keep.of_wr W558).1
  have K563 : Keep h0 h558 [b1, v1] := K551.wr W558 (Or.inl (List.mem_of_getElem? (i := 0) rfl))
  have O564 : Old Z n0 h558 := O552.wr W558 g_b1
  have f565 := (F1547.other W558 (Or.inr (slot_ne (Or.inl (oH hw 75 rfl)) (Or.inl (oH hw 99 rfl)) (by decide) (t := (.array .byte)) (t' := .int) (by decide) (by decide))))
  have f566 := (F2547.other W558 (Or.inr (slot_ne (Or.inl (oH hw 77 rfl)) (Or.inl (oH hw 99 rfl)) (by decide) (t := .byte) (t' := .int) (by decide) (by decide))))
  have f567 := (F4547.other W558 (Or.inr (slot_ne (Or.inl (oH hw 255 rfl)) (Or.inl (oH hw 99 rfl)) (by decide) (t := .boolean) (t' := .int) (by decide) (by decide))))
  have f568 := (A547.other W558 (Exa.ne E547 (E_b1.keep K547) (by decide)))
  have f569 := (E547.wr W558)
  obtain ⟨fs570, hr570, hrun570, hended570, hW570, hsame570⟩ := X558.leave (v := some (.ref b1)) (fun h => by rw [Bd.returns] at h; cases h)
  refine ⟨_, _, pre0 _ (P559 _ ?_), hrun570, hended570, _, _, rfl, ?_, ⟨⟨_, rfl⟩, hW570, hsame570.mono (oB rfl) (oB rfl)⟩⟩
  · show Sq p e below (T558.setTop (mkF m 43 #[sR b1, sR s1, .val (.int (Int32.ofNat cs.length))] [])) _
    refine XS.aloadN X558.here hx rfl (hb hby dj68_22_43) rfl rfl ?_
    exact retOut X558 hx Bd.returns rfl (Or.inr (Or.inr (Or.inr (Or.inr ⟨rfl, rfl, rfl⟩)))) (hb hby dj68_22_44) hr570
  · show Q_apa10 Z b1 v1 bc cs h0 n0 _ T558.heap _
    rw [e558]
    exact ⟨rfl, N561, K563, v2547, _, f565, f566, f560, f567, f568, f569, g_v2547, hv547.imp id (fun q => Nat.le_trans (Nat.le_refl _) q)⟩
theorem dj67_7_0 : decode j67_7 0 = .ok (.aload_n 0, 1) := by decide +kernel
theorem dj67_7_1 : decode j67_7 1 = .ok (.aload_n 1, 1) := by decide +kernel
theorem dj67_7_2 : decode j67_7 2 = .ok (.invokespecial 29, 3) := by decide +kernel
theorem pd19 : parseMethodDescriptor "(Ljava/lang/String;)Ljava/lang/AbstractStringBuilder;" = some ⟨[(.object nS)], some (.object nA)⟩ := by decide +kernel
theorem dj67_7_5 : decode j67_7 5 = .ok (.pop, 1) := by decide +kernel
theorem dj67_7_6 : decode j67_7 6 = .ok (.aload_n 0, 1) := by decide +kernel
theorem dj67_7_7 : decode j67_7 7 = .ok (.areturn, 1) := by decide +kernel
theorem pn_java_lang_StringBuilder : plainName "java/lang/StringBuilder" = true := by first | (simp [plainName, overriddenIn]; done) | decide +kernel
theorem ef_aps00 (m : MethodId) (x0 : Addr) (x1 : Addr) : entryFrame m #[(.ref x0), (.ref x1)] 2 = mkF m 0 #[sR x0, sR x1] [] := by (first | (simp [entryFrame, mkF, argsToLocals, Value.category]; done) | rfl)
def Q_aps00 (Z : State) (b1 v1 : Addr) (bc cs : List Int32) (h0 : Heap) (n0 : Nat) (v : Option Value) (h : Heap) (L : List Loc) : Prop := v = some (.ref b1) ∧ Fr n0 L ∧ Keep h0 h [b1, v1] ∧ ∃ (v2 : Addr) (k2 : ClassId), Fld Z h b1 nA "value" "[B" (.ref v2) ∧ Fld Z h b1 nA "coder" "B" (vI 0) ∧ Fld Z h b1 nA "count" "I" (.int (Int32.ofNat (bc ++ cs).length)) ∧ Fld Z h b1 nA "maybeLatin1" "Z" (vI 0) ∧ Arv Z h v2 k2 .byte (16 : Int32) ((own_by false (bc ++ cs)).map Value.int) (vI 0) ∧ Exa Z h v2 "[B" ∧ n0 ≤ v2 ∧ (v2 = v1 ∨ h0.size ≤ v2)
theorem rm_aps00 (l : Launch) (Z : State) (a0 : Array Value) (hw : Tb a0 Z) (ws : List Jvm.Cond) (b1 v1 : Addr) (kv : ClassId) (bc : List Int32) (s1 t1 : Addr) (kt : ClassId) (N : Int32) (cs : List Int32) (G1 : Int32) (G2 : Value) (h0 : Heap) (n0 : Nat) (Z0 : n0 ≤ h0.size) (g_b1 : n0 ≤ b1) (g_v1 : n0 ≤ v1) (E_b1 : Exa Z h0 b1 nB) (F_value : Fld Z h0 b1 nA "value" "[B" (.ref v1)) (F_coder : Fld Z h0 b1 nA "coder" "B" (vI 0)) (F_count : Fld Z h0 b1 nA "count" "I" (.int (Int32.ofNat bc.length))) (F_maybe : Fld Z h0 b1 nA "maybeLatin1" "Z" (vI 0)) (A_v1 : Arv Z h0 v1 kv .byte (16 : Int32) ((own_by false bc).map Value.int) (vI 0)) (E_v1 : Exa Z h0 v1 "[B") (hb4 : bc.length ≤ 4) (E_s1 : Exa Z h0 s1 nS) (V_s1 : Fld Z h0 s1 nS "value" "[B" (.ref t1)) (C_s1 : Fld Z h0 s1 nS "coder" "B" (vI 0)) (A_s1 : Arv Z h0 t1 kt .byte N ((own_by false cs).map Value.int) (vI 0)) (N_s1 : N = Int32.ofNat (own_by false cs).length) (hc2 : cs.length ≤ 2) (nTV : t1 ≠ v1) (Sg : oSg Z G1) (P5 : ¬ (G1 = (0 : Int32))) (Sf : oSf Z G2) (hG2 : G2.isRef = true) (Sa : oSa Z) (Sh : oSh Z) (Sl : oSl Z) (Ol : Old Z n0 h0) :
    MF l Z h0 y_23 j67_7 2 (some (.object "java/lang/StringBuilder")) ws (rM 4 0 0 61) #[(.ref b1), (.ref s1)] (Q_aps00 Z b1 v1 bc cs h0 n0) := by
  refine MetFree.of_bodySF (plainFor_of_name pn_java_lang_StringBuilder) hisR ?_
  intro p e s m args below meth c s₁ Bd hml hP hK
  obtain ⟨rfl, hZ, hh⟩ := hP
  have hx := Bd.exec
  have hby := Bd.bytes
  have hown : s.vm.findClass "java/lang/StringBuilder" = some m.cls := findClass_of_methodNamed Bd.named
  have X0 : Stand p l e (rM 4 0 0 61) s m #[(.ref b1), (.ref s1)] below meth c s₁ [] 0 0 := Stand.of_body Bd
  have e0 : s₁.heap = h0 := by rw [← hh, Bd.state]; rfl
  have N0 := Fr.nil n0
  obtain ⟨B0, pre0, P0⟩ : ∃ B, Rg p e below B (s₁.setTop (entryFrame m #[(.ref b1), (.ref s1)] 2)) ∧ Rg p e below (s₁.setTop (mkF m 0 #[sR b1, sR s1] [])) B := ⟨_, fun t k => castTop (ef_aps00 m b1 s1) k, fun t k => k⟩
  obtain ⟨_, _, ⟨T571, L571, k571, n571⟩, -, X571, ⟨Lc571, hQ571, l571, y571, z571⟩, st571⟩ := superBack X0 hx hZ (y := y_22) hown (oH hw 83 rfl) (own_sameM (oH hw 84 rfl) (oH hw 103 rfl) rfl (by decide)) (oH hw 84 rfl) (oH hw 85 rfl) (by decide) (backOf (W := 0) (rm_apa00 l Z a0 hw [] b1 v1 kv bc s1 t1 kt N cs G1 G2 h0 n0 Z0 g_b1 g_v1 E_b1 F_value F_coder F_count F_maybe A_v1 E_v1 hb4 E_s1 V_s1 C_s1 A_s1 N_s1 hc2 nTV Sg P5 Sf hG2 Sa Sh Sl Ol) hZ (oH hw 87 rfl) (oH hw 70 rfl) (by decide) (by decide)) e0 (a := b1) (Ins.self E_b1) (g := (mkF m 2 #[sR b1, sR s1] [(.ref s1), (.ref b1)])) rfl (by rw [hml]; rfl) (oH hw 87 rfl) (argsL := [(.ref s1)]) (rest := []) (lenOf pd19 rfl) rfl (oW rfl) (hb hby dj67_7_2) (fun _ _ => ⟨rfl, e0, (oB rfl : 0 + 0 ≤ _), (oB rfl : 0 + 0 ≤ _)⟩)
  dsimp only [Pt.U, Pt.locs, Pt.cells, Pt.slots] at X571 l571 y571 z571 st571 hQ571
  subst l571 y571 z571
  obtain ⟨rfl, Nq571, K571, v2571, k2571, F1571, F2571, F3571, F4571, A571, E571, g_v2571, hv571⟩ := hQ571
  have N572 := Fr.app N0 Nq571
  have P573 : Rg p e below (T571.setTop (mkF m 5 #[sR b1, sR s1] [(.ref b1)])) B0 := fun t k => P0 t (by
    refine XS.aloadN X0.here hx rfl (hb hby dj67_7_0) rfl rfl ?_
    refine XS.aloadN X0.here hx rfl (hb hby dj67_7_1) rfl rfl ?_
    exact st571.trans k)
  have Z574 : n0 ≤ T571.heap.size := Nat.le_trans Z0 K571.1
  have K575 : Keep h0 T571.heap [b1, v1] := (Keep.refl h0 [b1, v1]).trans K571 ((allS (Or.inl (List.mem_of_getElem? (i := 0) rfl)) (allS (Or.inl (List.mem_of_getElem? (i := 1) rfl)) all0)))
  have O576 : Old Z n0 T571.heap := Ol.keep K571 (allS g_b1 (allS g_v1 all0))
  obtain ⟨fs577, hr577, hrun577, hended577, hW577, hsame577⟩ := X571.leave (v := some (.ref b1)) (fun h => by rw [Bd.returns] at h; cases h)
  refine ⟨_, _, pre0 _ (P573 _ ?_), hrun577, hended577, _, _, rfl, ?_, ⟨⟨_, rfl⟩, hW577, hsame577.mono (oB rfl) (oB rfl)⟩⟩
  · show Sq p e below (T571.setTop (mkF m 5 #[sR b1, sR s1] [(.ref b1)])) _
    refine XS.pop X571.here hx rfl (hb hby dj67_7_5) rfl rfl ?_
    refine XS.aloadN X571.here hx rfl (hb hby dj67_7_6) rfl rfl ?_
    exact retOut X571 hx Bd.returns rfl (Or.inr (Or.inr (Or.inr (Or.inr ⟨rfl, rfl, rfl⟩)))) (hb hby dj67_7_7) hr577
  · show Q_aps00 Z b1 v1 bc cs h0 n0 _ T571.heap _
    exact ⟨rfl, N572, K575, v2571, k2571, F1571, F2571, F3571, F4571, A571, E571, g_v2571, hv571⟩
theorem ef_aps11 (m : MethodId) (x0 : Addr) (x1 : Addr) : entryFrame m #[(.ref x0), (.ref x1)] 2 = mkF m 0 #[sR x0, sR x1] [] := by (first | (simp [entryFrame, mkF, argsToLocals, Value.category]; done) | rfl)
def Q_aps11 (Z : State) (b1 v1 : Addr) (bc cs : List Int32) (h0 : Heap) (n0 : Nat) (v : Option Value) (h : Heap) (L : List Loc) : Prop := v = some (.ref b1) ∧ Fr n0 L ∧ Keep h0 h [b1, v1] ∧ ∃ (v2 : Addr) (k2 : ClassId), Fld Z h b1 nA "value" "[B" (.ref v2) ∧ Fld Z h b1 nA "coder" "B" (vI 1) ∧ Fld Z h b1 nA "count" "I" (.int (Int32.ofNat (bc ++ cs).length)) ∧ Fld Z h b1 nA "maybeLatin1" "Z" (vI 0) ∧ Arv Z h v2 k2 .byte (32 : Int32) ((own_by true (bc ++ cs)).map Value.int) (vI 0) ∧ Exa Z h v2 "[B" ∧ n0 ≤ v2 ∧ (v2 = v1 ∨ h0.size ≤ v2)
theorem rm_aps11 (l : Launch) (Z : State) (a0 : Array Value) (hw : Tb a0 Z) (ws : List Jvm.Cond) (b1 v1 : Addr) (kv : ClassId) (bc : List Int32) (s1 t1 : Addr) (kt : ClassId) (N : Int32) (cs : List Int32) (G1 : Int32) (G2 : Value) (h0 : Heap) (n0 : Nat) (Z0 : n0 ≤ h0.size) (g_b1 : n0 ≤ b1) (g_v1 : n0 ≤ v1) (E_b1 : Exa Z h0 b1 nB) (F_value : Fld Z h0 b1 nA "value" "[B" (.ref v1)) (F_coder : Fld Z h0 b1 nA "coder" "B" (vI 1)) (F_count : Fld Z h0 b1 nA "count" "I" (.int (Int32.ofNat bc.length))) (F_maybe : Fld Z h0 b1 nA "maybeLatin1" "Z" (vI 0)) (A_v1 : Arv Z h0 v1 kv .byte (32 : Int32) ((own_by true bc).map Value.int) (vI 0)) (E_v1 : Exa Z h0 v1 "[B") (hb4 : bc.length ≤ 4) (E_s1 : Exa Z h0 s1 nS) (V_s1 : Fld Z h0 s1 nS "value" "[B" (.ref t1)) (C_s1 : Fld Z h0 s1 nS "coder" "B" (vI 1)) (A_s1 : Arv Z h0 t1 kt .byte N ((own_by true cs).map Value.int) (vI 0)) (N_s1 : N = Int32.ofNat (own_by true cs).length) (hc2 : cs.length ≤ 2) (nTV : t1 ≠ v1) (Sg : oSg Z G1) (P5 : ¬ (G1 = (0 : Int32))) (Sf : oSf Z G2) (hG2 : G2.isRef = true) (Sa : oSa Z) (Sh : oSh Z) (Sl : oSl Z) (Ol : Old Z n0 h0) :
    MF l Z h0 y_23 j67_7 2 (some (.object "java/lang/StringBuilder")) ws (rM 4 0 0 61) #[(.ref b1), (.ref s1)] (Q_aps11 Z b1 v1 bc cs h0 n0) := by
  refine MetFree.of_bodySF (plainFor_of_name pn_java_lang_StringBuilder) hisR ?_
  intro p e s m args below meth c s₁ Bd hml hP hK
  obtain ⟨rfl, hZ, hh⟩ := hP
  have hx := Bd.exec
  have hby := Bd.bytes
  have hown : s.vm.findClass "java/lang/StringBuilder" = some m.cls := findClass_of_methodNamed Bd.named
  have X0 : Stand p l e (rM 4 0 0 61) s m #[(.ref b1), (.ref s1)] below meth c s₁ [] 0 0 := Stand.of_body Bd
  have e0 : s₁.heap = h0 := by rw [← hh, Bd.state]; rfl
  have N0 := Fr.nil n0
  obtain ⟨B0, pre0, P0⟩ : ∃ B, Rg p e below B (s₁.setTop (entryFrame m #[(.ref b1), (.ref s1)] 2)) ∧ Rg p e below (s₁.setTop (mkF m 0 #[sR b1, sR s1] [])) B := ⟨_, fun t k => castTop (ef_aps11 m b1 s1) k, fun t k => k⟩
  obtain ⟨_, _, ⟨T578, L578, k578, n578⟩, -, X578, ⟨Lc578, hQ578, l578, y578, z578⟩, st578⟩ := superBack X0 hx hZ (y := y_22) hown (oH hw 83 rfl) (own_sameM (oH hw 84 rfl) (oH hw 103 rfl) rfl (by decide)) (oH hw 84 rfl) (oH hw 85 rfl) (by decide) (backOf (W := 0) (rm_apa11 l Z a0 hw [] b1 v1 kv bc s1 t1 kt N cs G1 G2 h0 n0 Z0 g_b1 g_v1 E_b1 F_value F_coder F_count F_maybe A_v1 E_v1 hb4 E_s1 V_s1 C_s1 A_s1 N_s1 hc2 nTV Sg P5 Sf hG2 Sa Sh Sl Ol) hZ (oH hw 87 rfl) (oH hw 70 rfl) (by decide) (by decide)) e0 (a := b1) (Ins.self E_b1) (g := (mkF m 2 #[sR b1, sR s1] [(.ref s1), (.ref b1)])) rfl (by rw [hml]; rfl) (oH hw 87 rfl) (argsL := [(.ref s1)]) (rest := []) (lenOf pd19 rfl) rfl (oW rfl) (hb hby dj67_7_2) (fun _ _ => ⟨rfl, e0, (oB rfl : 0 + 0 ≤ _), (oB rfl : 0 + 0 ≤ _)⟩)
  dsimp only [Pt.U, Pt.locs, Pt.cells, Pt.slots] at X578 l578 y578 z578 st578 hQ578
  subst l578 y578 z578
  obtain ⟨rfl, Nq578, K578, v2578, k2578, F1578, F2578, F3578, F4578, A578, E578, g_v2578, hv578⟩ := hQ578
  have N579 := Fr.app N0 Nq578
  have P580 : Rg p e below (T578.setTop (mkF m 5 #[sR b1, sR s1] [(.ref b1)])) B0 := fun t k => P0 t (by
    refine XS.aloadN X0.here hx rfl (hb hby dj67_7_0) rfl rfl ?_
    refine XS.aloadN X0.here hx rfl (hb hby dj67_7_1) rfl rfl ?_
    exact st578.trans k)
  have Z581 : n0 ≤ T578.heap.size := Nat.le_trans Z0 K578.1
  have K582 : Keep h0 T578.heap [b1, v1] := (Keep.refl h0 [b1, v1]).trans K578 ((allS (Or.inl (List.mem_of_getElem? (i := 0) rfl)) (allS (Or.inl (List.mem_of_getElem? (i := 1) rfl)) all0)))
  have O583 : Old Z n0 T578.heap := Ol.keep K578 (allS g_b1 (allS g_v1 all0))
  obtain ⟨fs584, hr584, hrun584, hended584, hW584, hsame584⟩ := X578.leave (v := some (.ref b1)) (fun h => by rw [Bd.returns] at h; cases h)
  refine ⟨_, _, pre0 _ (P580 _ ?_), hrun584, hended584, _, _, rfl, ?_, ⟨⟨_, rfl⟩, hW584, hsame584.mono (oB rfl) (oB rfl)⟩⟩
  · show Sq p e below (T578.setTop (mkF m 5 #[sR b1, sR s1] [(.ref b1)])) _
    refine XS.pop X578.here hx rfl (hb hby dj67_7_5) rfl rfl ?_
    refine XS.aloadN X578.here hx rfl (hb hby dj67_7_6) rfl rfl ?_
    exact retOut X578 hx Bd.returns rfl (Or.inr (Or.inr (Or.inr (Or.inr ⟨rfl, rfl, rfl⟩)))) (hb hby dj67_7_7) hr584
  · show Q_aps11 Z b1 v1 bc cs h0 n0 _ T578.heap _
    exact ⟨rfl, N579, K582, v2578, k2578, F1578, F2578, F3578, F4578, A578, E578, g_v2578, hv578⟩
theorem ef_aps01 (m : MethodId) (x0 : Addr) (x1 : Addr) : entryFrame m #[(.ref x0), (.ref x1)] 2 = mkF m 0 #[sR x0, sR x1] [] := by (first | (simp [entryFrame, mkF, argsToLocals, Value.category]; done) | rfl)
def Q_aps01 (Z : State) (b1 v1 : Addr) (bc cs : List Int32) (h0 : Heap) (n0 : Nat) (v : Option Value) (h : Heap) (L : List Loc) : Prop := v = some (.ref b1) ∧ Fr n0 L ∧ Keep h0 h [b1, v1] ∧ ∃ (v2 : Addr) (k2 : ClassId), Fld Z h b1 nA "value" "[B" (.ref v2) ∧ Fld Z h b1 nA "coder" "B" (vI 1) ∧ Fld Z h b1 nA "count" "I" (.int (Int32.ofNat (bc ++ cs).length)) ∧ Fld Z h b1 nA "maybeLatin1" "Z" (vI 0) ∧ Arv Z h v2 k2 .byte (32 : Int32) ((own_by true (bc ++ cs)).map Value.int) (vI 0) ∧ Exa Z h v2 "[B" ∧ n0 ≤ v2 ∧ (v2 = v1 ∨ h0.size ≤ v2)
theorem rm_aps01 (l : Launch) (Z : State) (a0 : Array Value) (hw : Tb a0 Z) (ws : List Jvm.Cond) (b1 v1 : Addr) (kv : ClassId) (bc : List Int32) (s1 t1 : Addr) (kt : ClassId) (N : Int32) (cs : List Int32) (G1 : Int32) (G2 : Value) (h0 : Heap) (n0 : Nat) (Z0 : n0 ≤ h0.size) (g_b1 : n0 ≤ b1) (g_v1 : n0 ≤ v1) (E_b1 : Exa Z h0 b1 nB) (F_value : Fld Z h0 b1 nA "value" "[B" (.ref v1)) (F_coder : Fld Z h0 b1 nA "coder" "B" (vI 1)) (F_count : Fld Z h0 b1 nA "count" "I" (.int (Int32.ofNat bc.length))) (F_maybe : Fld Z h0 b1 nA "maybeLatin1" "Z" (vI 0)) (A_v1 : Arv Z h0 v1 kv .byte (32 : Int32) ((own_by true bc).map Value.int) (vI 0)) (E_v1 : Exa Z h0 v1 "[B") (hb4 : bc.length ≤ 4) (E_s1 : Exa Z h0 s1 nS) (V_s1 : Fld Z h0 s1 nS "value" "[B" (.ref t1)) (C_s1 : Fld Z h0 s1 nS "coder" "B" (vI 0)) (A_s1 : Arv Z h0 t1 kt .byte N ((own_by false cs).map Value.int) (vI 0)) (N_s1 : N = Int32.ofNat (own_by false cs).length) (hc2 : cs.length ≤ 2) (nTV : t1 ≠ v1) (hbd : ∀ c ∈ cs, ¬ c < 0 ∧ ¬ (255 : Int32) < c) (Sg : oSg Z G1) (P5 : ¬ (G1 = (0 : Int32))) (Sf : oSf Z G2) (hG2 : G2.isRef = true) (Sa : oSa Z) (Sh : oSh Z) (Sl : oSl Z) (Ol : Old Z n0 h0) :
    MF l Z h0 y_23 j67_7 2 (some (.object "java/lang/StringBuilder")) ws (rM 8 0 0 119) #[(.ref b1), (.ref s1)] (Q_aps01 Z b1 v1 bc cs h0 n0) := by
  refine MetFree.of_bodySF (plainFor_of_name pn_java_lang_StringBuilder) hisR ?_
  intro p e s m args below meth c s₁ Bd hml hP hK
  obtain ⟨rfl, hZ, hh⟩ := hP
  have hx := Bd.exec
  have hby := Bd.bytes
  have hown : s.vm.findClass "java/lang/StringBuilder" = some m.cls := findClass_of_methodNamed Bd.named
  have X0 : Stand p l e (rM 8 0 0 119) s m #[(.ref b1), (.ref s1)] below meth c s₁ [] 0 0 := Stand.of_body Bd
  have e0 : s₁.heap = h0 := by rw [← hh, Bd.state]; rfl
  have N0 := Fr.nil n0
  obtain ⟨B0, pre0, P0⟩ : ∃ B, Rg p e below B (s₁.setTop (entryFrame m #[(.ref b1), (.ref s1)] 2)) ∧ Rg p e below (s₁.setTop (mkF m 0 #[sR b1, sR s1] [])) B := ⟨_, fun t k => castTop (ef_aps01 m b1 s1) k, fun t k => k⟩
  obtain ⟨_, _, ⟨T585, L585, k585, n585⟩, -, X585, ⟨Lc585, hQ585, l585, y585, z585⟩, st585⟩ := superBack X0 hx hZ (y := y_22) hown (oH hw 83 rfl) (own_sameM (oH hw 84 rfl) (oH hw 103 rfl) rfl (by decide)) (oH hw 84 rfl) (oH hw 85 rfl) (by decide) (backOf (W := 0) (rm_apa01 l Z a0 hw [] b1 v1 kv bc s1 t1 kt N cs G1 G2 h0 n0 Z0 g_b1 g_v1 E_b1 F_value F_coder F_count F_maybe A_v1 E_v1 hb4 E_s1 V_s1 C_s1 A_s1 N_s1 hc2 nTV hbd Sg P5 Sf hG2 Sa Sh Sl Ol) hZ (oH hw 87 rfl) (oH hw 70 rfl) (by decide) (by decide)) e0 (a := b1) (Ins.self E_b1) (g := (mkF m 2 #[sR b1, sR s1] [(.ref s1), (.ref b1)])) rfl (by rw [hml]; rfl) (oH hw 87 rfl) (argsL := [(.ref s1)]) (rest := []) (lenOf pd19 rfl) rfl (oW rfl) (hb hby dj67_7_2) (fun _ _ => ⟨rfl, e0, (oB rfl : 0 + 0 ≤ _), (oB rfl : 0 + 0 ≤ _)⟩)
  dsimp only [Pt.U, Pt.locs, Pt.cells, Pt.slots] at X585 l585 y585 z585 st585 hQ585
  subst l585 y585 z585
  obtain ⟨rfl, Nq585, K585, v2585, k2585, F1585, F2585, F3585, F4585, A585, E585, g_v2585, hv585⟩ := hQ585
  have N586 := Fr.app N0 Nq585
  have P587 : Rg p e below (T585.setTop (mkF m 5 #[sR b1, sR s1] [(.ref b1)])) B0 := fun t k => P0 t (by
    refine XS.aloadN X0.here hx rfl (hb hby dj67_7_0) rfl rfl ?_
    refine XS.aloadN X0.here hx rfl (hb hby dj67_7_1) rfl rfl ?_
    exact st585.trans k)
  have Z588 : n0 ≤ T585.heap.size := Nat.le_trans Z0 K585.1
  have K589 : Keep h0 T585.heap [b1, v1] := (Keep.refl h0 [b1, v1]).trans K585 ((allS (Or.inl (List.mem_of_getElem? (i := 0) rfl)) (allS (Or.inl (List.mem_of_getElem? (i := 1) rfl)) all0)))
  have O590 : Old Z n0 T585.heap := Ol.keep K585 (allS g_b1 (allS g_v1 all0))
  obtain ⟨fs591, hr591, hrun591, hended591, hW591, hsame591⟩ := X585.leave (v := some (.ref b1)) (fun h => by rw [Bd.returns] at h; cases h)
  refine ⟨_, _, pre0 _ (P587 _ ?_), hrun591, hended591, _, _, rfl, ?_, ⟨⟨_, rfl⟩, hW591, hsame591.mono (oB rfl) (oB rfl)⟩⟩
  · show Sq p e below (T585.setTop (mkF m 5 #[sR b1, sR s1] [(.ref b1)])) _
    refine XS.pop X585.here hx rfl (hb hby dj67_7_5) rfl rfl ?_
    refine XS.aloadN X585.here hx rfl (hb hby dj67_7_6) rfl rfl ?_
    exact retOut X585 hx Bd.returns rfl (Or.inr (Or.inr (Or.inr (Or.inr ⟨rfl, rfl, rfl⟩)))) (hb hby dj67_7_7) hr591
  · show Q_aps01 Z b1 v1 bc cs h0 n0 _ T585.heap _
    exact ⟨rfl, N586, K589, v2585, k2585, F1585, F2585, F3585, F4585, A585, E585, g_v2585, hv585⟩
theorem ef_aps10 (m : MethodId) (x0 : Addr) (x1 : Addr) : entryFrame m #[(.ref x0), (.ref x1)] 2 = mkF m 0 #[sR x0, sR x1] [] := by (first | (simp [entryFrame, mkF, argsToLocals, Value.category]; done) | rfl)
def Q_aps10 (Z : State) (b1 v1 : Addr) (bc cs : List Int32) (h0 : Heap) (n0 : Nat) (v : Option Value) (h : Heap) (L : List Loc) : Prop := v = some (.ref b1) ∧ Fr n0 L ∧ Keep h0 h [b1, v1] ∧ ∃ (v2 : Addr) (k2 : ClassId), Fld Z h b1 nA "value" "[B" (.ref v2) ∧ Fld Z h b1 nA "coder" "B" (vI 1) ∧ Fld Z h b1 nA "count" "I" (.int (Int32.ofNat (bc ++ cs).length)) ∧ Fld Z h b1 nA "maybeLatin1" "Z" (vI 0) ∧ Arv Z h v2 k2 .byte (32 : Int32) ((own_by true (bc ++ cs)).map Value.int) (vI 0) ∧ Exa Z h v2 "[B" ∧ n0 ≤ v2 ∧ (v2 = v1 ∨ h0.size ≤ v2)
theorem rm_aps10 (l : Launch) (Z : State) (a0 : Array Value) (hw : Tb a0 Z) (ws : List Jvm.Cond) (b1 v1 : Addr) (kv : ClassId) (bc : List Int32) (s1 t1 : Addr) (kt : ClassId) (N : Int32) (cs : List Int32) (G1 : Int32) (G2 : Value) (h0 : Heap) (n0 : Nat) (Z0 : n0 ≤ h0.size) (g_b1 : n0 ≤ b1) (g_v1 : n0 ≤ v1) (E_b1 : Exa Z h0 b1 nB) (F_value : Fld Z h0 b1 nA "value" "[B" (.ref v1)) (F_coder : Fld Z h0 b1 nA "coder" "B" (vI 0)) (F_count : Fld Z h0 b1 nA "count" "I" (.int (Int32.ofNat bc.length))) (F_maybe : Fld Z h0 b1 nA "maybeLatin1" "Z" (vI 0)) (A_v1 : Arv Z h0 v1 kv .byte (16 : Int32) ((own_by false bc).map Value.int) (vI 0)) (E_v1 : Exa Z h0 v1 "[B") (hb4 : bc.length ≤ 4) (E_s1 : Exa Z h0 s1 nS) (V_s1 : Fld Z h0 s1 nS "value" "[B" (.ref t1)) (C_s1 : Fld Z h0 s1 nS "coder" "B" (vI 1)) (A_s1 : Arv Z h0 t1 kt .byte N ((own_by true cs).map Value.int) (vI 0)) (N_s1 : N = Int32.ofNat (own_by true cs).length) (hc2 : cs.length ≤ 2) (nTV : t1 ≠ v1) (hbb : ∀ c ∈ bc, ¬ c < 0 ∧ ¬ (255 : Int32) < c) (Sg : oSg Z G1) (P5 : ¬ (G1 = (0 : Int32))) (Sf : oSf Z G2) (hG2 : G2.isRef = true) (Sa : oSa Z) (Sh : oSh Z) (Sl : oSl Z) (Ol : Old Z n0 h0) :
    MF l Z h0 y_23 j67_7 2 (some (.object "java/lang/StringBuilder")) ws (rM 9 1 32 130) #[(.ref b1), (.ref s1)] (Q_aps10 Z b1 v1 bc cs h0 n0) := by
  refine MetFree.of_bodySF (plainFor_of_name pn_java_lang_StringBuilder) hisR ?_
  intro p e s m args below meth c s₁ Bd hml hP hK
  obtain ⟨rfl, hZ, hh⟩ := hP
  have hx := Bd.exec
  have hby := Bd.bytes
  have hown : s.vm.findClass "java/lang/StringBuilder" = some m.cls := findClass_of_methodNamed Bd.named
  have X0 : Stand p l e (rM 9 1 32 130) s m #[(.ref b1), (.ref s1)] below meth c s₁ [] 0 0 := Stand.of_body Bd
  have e0 : s₁.heap = h0 := by rw [← hh, Bd.state]; rfl
  have N0 := Fr.nil n0
  obtain ⟨B0, pre0, P0⟩ : ∃ B, Rg p e below B (s₁.setTop (entryFrame m #[(.ref b1), (.ref s1)] 2)) ∧ Rg p e below (s₁.setTop (mkF m 0 #[sR b1, sR s1] [])) B := ⟨_, fun t k => castTop (ef_aps10 m b1 s1) k, fun t k => k⟩
  obtain ⟨_, _, ⟨T592, L592, k592, n592⟩, -, X592, ⟨Lc592, hQ592, l592, y592, z592⟩, st592⟩ := superBack X0 hx hZ (y := y_22) hown (oH hw 83 rfl) (own_sameM (oH hw 84 rfl) (oH hw 103 rfl) rfl (by decide)) (oH hw 84 rfl) (oH hw 85 rfl) (by decide) (backOf (W := 0) (rm_apa10 l Z a0 hw [] b1 v1 kv bc s1 t1 kt N cs G1 G2 h0 n0 Z0 g_b1 g_v1 E_b1 F_value F_coder F_count F_maybe A_v1 E_v1 hb4 E_s1 V_s1 C_s1 A_s1 N_s1 hc2 nTV hbb Sg P5 Sf hG2 Sa Sh Sl Ol) hZ (oH hw 87 rfl) (oH hw 70 rfl) (by decide) (by decide)) e0 (a := b1) (Ins.self E_b1) (g := (mkF m 2 #[sR b1, sR s1] [(.ref s1), (.ref b1)])) rfl (by rw [hml]; rfl) (oH hw 87 rfl) (argsL := [(.ref s1)]) (rest := []) (lenOf pd19 rfl) rfl (oW rfl) (hb hby dj67_7_2) (fun _ _ => ⟨rfl, e0, (oB rfl : 0 + 1 ≤ _), (oB rfl : 0 + 32 ≤ _)⟩)
  dsimp only [Pt.U, Pt.locs, Pt.cells, Pt.slots] at X592 l592 y592 z592 st592 hQ592
  subst l592 y592 z592
  obtain ⟨rfl, Nq592, K592, v2592, k2592, F1592, F2592, F3592, F4592, A592, E592, g_v2592, hv592⟩ := hQ592
  have N593 := Fr.app N0 Nq592
  have P594 : Rg p e below (T592.setTop (mkF m 5 #[sR b1, sR s1] [(.ref b1)])) B0 := fun t k => P0 t (by
    refine XS.aloadN X0.here hx rfl (hb hby dj67_7_0) rfl rfl ?_
    refine XS.aloadN X0.here hx rfl (hb hby dj67_7_1) rfl rfl ?_
    exact st592.trans k)
  have Z595 : n0 ≤ T592.heap.size := Nat.le_trans Z0 K592.1
  have K596 : Keep h0 T592.heap [b1, v1] := (Keep.refl h0 [b1, v1]).trans K592 ((allS (Or.inl (List.mem_of_getElem? (i := 0) rfl)) (allS (Or.inl (List.mem_of_getElem? (i := 1) rfl)) all0)))
  have O597 : Old Z n0 T592.heap := Ol.keep K592 (allS g_b1 (allS g_v1 all0))
  obtain ⟨fs598, hr598, hrun598, hended598, hW598, hsame598⟩ := X592.leave (v := some (.ref b1)) (fun h => by rw [Bd.returns] at h; cases h)
  refine ⟨_, _, pre0 _ (P594 _ ?_), hrun598, hended598, _, _, rfl, ?_, ⟨⟨_, rfl⟩, hW598, hsame598.mono (oB rfl) (oB rfl)⟩⟩
  · show Sq p e below (T592.setTop (mkF m 5 #[sR b1, sR s1] [(.ref b1)])) _
    refine XS.pop X592.here hx rfl (hb hby dj67_7_5) rfl rfl ?_
    refine XS.aloadN X592.here hx rfl (hb hby dj67_7_6) rfl rfl ?_
    exact retOut X592 hx Bd.returns rfl (Or.inr (Or.inr (Or.inr (Or.inr ⟨rfl, rfl, rfl⟩)))) (hb hby dj67_7_7) hr598
  · show Q_aps10 Z b1 v1 bc cs h0 n0 _ T592.heap _
    exact ⟨rfl, N593, K596, v2592, k2592, F1592, F2592, F3592, F4592, A592, E592, g_v2592, hv592⟩
theorem dj68_2_0 : decode j68_2 0 = .ok (.aload_n 0, 1) := by decide +kernel
theorem dj68_2_1 : decode j68_2 1 = .ok (.invokespecial 3, 3) := by decide +kernel
theorem dj68_2_4 : decode j68_2 4 = .ok (.getstatic 18, 3) := by decide +kernel
theorem dj68_2_7 : decode j68_2 7 = .ok (.ifCond .eq 18, 3) := by decide +kernel
theorem dj68_2_10 : decode j68_2 10 = .ok (.aload_n 0, 1) := by decide +kernel
theorem dj68_2_11 : decode j68_2 11 = .ok (.iload_n 1, 1) := by decide +kernel
theorem dj68_2_12 : decode j68_2 12 = .ok (.newarray .byte, 2) := by decide +kernel
theorem dj68_2_14 : decode j68_2 14 = .ok (.putfield 15, 3) := by decide +kernel
theorem dj68_2_17 : decode j68_2 17 = .ok (.aload_n 0, 1) := by decide +kernel
theorem dj68_2_18 : decode j68_2 18 = .ok (.iconst 0, 1) := by decide +kernel
theorem dj68_2_19 : decode j68_2 19 = .ok (.putfield 22, 3) := by decide +kernel
theorem dj68_2_22 : decode j68_2 22 = .ok (.goto 16, 3) := by decide +kernel
theorem dj68_2_38 : decode j68_2 38 = .ok (.return_, 1) := by decide +kernel
theorem ef_abi (m : MethodId) (x0 : Addr) (x1 : Int32) : entryFrame m #[(.ref x0), (.int x1)] 2 = mkF m 0 #[sR x0, sI x1] [] := by (first | (simp [entryFrame, mkF, argsToLocals, Value.category]; done) | rfl)
def Q_abi (Z : State) (b1 : Addr) (h0 : Heap) (n0 : Nat) (v : Option Value) (h : Heap) (L : List Loc) : Prop := v = none ∧ Fr n0 L ∧ Keep h0 h [b1] ∧ ∃ (v2 : Addr) (k2 : ClassId), Fld Z h b1 nA "value" "[B" (.ref v2) ∧ Fld Z h b1 nA "coder" "B" (vI 0) ∧ Fld Z h b1 nA "count" "I" (vI 0) ∧ Fld Z h b1 nA "maybeLatin1" "Z" (vI 0) ∧ Arv Z h v2 k2 .byte (16 : Int32) ((own_by false []).map Value.int) (vI 0) ∧ Exa Z h v2 "[B" ∧ h0.size ≤ v2
theorem rm_abi (l : Launch) (Z : State) (a0 : Array Value) (hw : Tb a0 Z) (ws : List Jvm.Cond) (b1 : Addr) (G1 : Int32) (G2 : Value) (h0 : Heap) (n0 : Nat) (Z0 : n0 ≤ h0.size) (g_b1 : n0 ≤ b1) (E_b1 : Exa Z h0 b1 nB) (F_value : Fld Z h0 b1 nA "value" "[B" .null) (F_coder : Fld Z h0 b1 nA "coder" "B" (vI 0)) (F_count : Fld Z h0 b1 nA "count" "I" (vI 0)) (F_maybe : Fld Z h0 b1 nA "maybeLatin1" "Z" (vI 0)) (Sg : oSg Z G1) (P5 : ¬ (G1 = (0 : Int32))) (Sf : oSf Z G2) (hG2 : G2.isRef = true) (Sa : oSa Z) (Sh : oSh Z) (Sl : oSl Z) (Ol : Old Z n0 h0) :
    MF l Z h0 y_24 j68_2 2 none ws (rM 1 1 16 12) #[(.ref b1), (vI 16)] (Q_abi Z b1 h0 n0) := by
  refine MetFree.of_bodySF (plainFor_of_name pn_java_lang_AbstractStringBuilder) hisR ?_
  intro p e s m args below meth c s₁ Bd hml hP hK
  obtain ⟨rfl, hZ, hh⟩ := hP
  have hx := Bd.exec
  have hby := Bd.bytes
  have hown : s.vm.findClass "java/lang/AbstractStringBuilder" = some m.cls := findClass_of_methodNamed Bd.named
  have X0 : Stand p l e (rM 1 1 16 12) s m #[(.ref b1), (vI 16)] below meth c s₁ [] 0 0 := Stand.of_body Bd
  have e0 : s₁.heap = h0 := by rw [← hh, Bd.state]; rfl
  have N0 := Fr.nil n0
  obtain ⟨B0, pre0, P0⟩ : ∃ B, Rg p e below B (s₁.setTop (entryFrame m #[(.ref b1), (vI 16)] 2)) ∧ Rg p e below (s₁.setTop (mkF m 0 #[sR b1, sI 16] [])) B := ⟨_, fun t k => castTop (ef_abi m b1 (16 : Int32)) k, fun t k => k⟩
  obtain ⟨T599, X599, e599, st599⟩ := initO X0 hx hZ hown (oH hw 72 rfl) (oH hw 18 rfl) (oH hw 19 rfl) e0 (g := (mkF m 1 #[sR b1, sI 16] [(.ref b1)])) rfl (by rw [hml]; rfl) rfl (hb hby dj68_2_1) (by decide) (W := 0) (oW rfl) (by decide)
  have P600 : Rg p e below (T599.setTop (mkF m 4 #[sR b1, sI 16] [])) B0 := fun t k => P0 t (by
    refine XS.aloadN X0.here hx rfl (hb hby dj68_2_0) rfl rfl ?_
    exact st599 _ k)
  obtain ⟨T601, X601, e601, st601⟩ := getS2 X599 hx hZ hown (host := "") (Or.inl (oH hw 73 rfl)) Via.refl e599 (Sg.ext Ol.2) (g := (mkF m 4 #[sR b1, sI 16] [])) rfl (hb hby dj68_2_4)
  have P602 : Rg p e below (T601.setTop (mkF m 7 #[sR b1, sI 16] [(.int G1)])) B0 := fun t k => P600 t (by
    exact st601 _ k)
  obtain ⟨T603, h603, k603, X603, e603, E603, A603, B603, st603⟩ := newPE X601 hx hZ (oH hw 25 rfl) e601 (g := (mkF m 12 #[sR b1, sI 16] [(vI 16), (.ref b1)])) rfl (hb hby dj68_2_12) rfl (by decide) (cap := 16) (by decide) (by decide) (by decide) (by decide) (ad := "[B") (by decide)
  obtain ⟨b603, g603⟩ : ∃ z, z = h0.size := ⟨_, rfl⟩
  rw [← g603] at A603 B603 st603
  have g_b603 : n0 ≤ b603 := Nat.le_trans Z0 (Nat.le_of_eq g603.symm)
  have sz_b603 : h0.size ≤ b603 := Nat.le_trans (Keep.refl h0 [b1]).1 (Nat.le_of_eq g603.symm)
  have P604 : Rg p e below (T603.setTop (mkF m 14 #[sR b1, sI 16] [(.ref b603), (.ref b1)])) B0 := fun t k => P602 t (by
    refine XS.ifNo X601.here hx rfl (hb hby dj68_2_7) rfl ((if0 _ _).trans (feq (show ¬ (G1 = (0 : Int32)) from P5)).1) ?_
    refine XS.aloadN X601.here hx rfl (hb hby dj68_2_10) rfl rfl ?_
    refine XS.iloadN X601.here hx rfl (hb hby dj68_2_11) rfl ?_
    exact st603 _ k)
  have Z605 : n0 ≤ h603.size := Nat.le_trans Z0 E603.1
  have K606 : Keep h0 h603 [b1] := (Keep.refl h0 [b1]).ext E603
  have O607 : Old Z n0 h603 := Ol.ext E603
  have v608 : Arv Z h603 b603 k603 .byte (16 : Int32) [(vI 0), (vI 0), (vI 0), (vI 0), (vI 0), (vI 0), (vI 0), (vI 0), (vI 0), (vI 0), (vI 0), (vI 0), (vI 0), (vI 0), (vI 0), (vI 0)] (vI 0) := (Arv.new A603 (by decide)).pad (pad_rep [] (vI 0) 16)
  have f609 := (F_value.ext E603)
  have f610 := (E_b1.ext E603)
  obtain ⟨T611, h611, X611, e611, W611, st611⟩ := putF X603 hx hZ hown (host := "") (Or.inl (oH hw 74 rfl)) Via.refl e603 f609 f610 (Or.inl (oH hw 75 rfl)) (oH hw 61 rfl) (ty := (.array .byte)) (by decide) rfl rfl (g := (mkF m 14 #[sR b1, sI 16] [(.ref b603), (.ref b1)])) rfl rfl (hb hby dj68_2_14)
  have P612 : Rg p e below (T611.setTop (mkF m 17 #[sR b1, sI 16] [])) B0 := fun t k => P604 t (by
    exact st611 _ k)
  have f613 := f609.same W611
  have N614 := Fr.snoc X611 N0 g_b1
  have Z615 : n0 ≤ h611.size := Nat.le_trans Z605 (Keep.of_wr W611).1
  have K616 : Keep h0 h611 [b1] := K606.wr W611 (Or.inl (List.mem_of_getElem? (i := 0) rfl))
  have O617 : Old Z n0 h611 := O607.wr W611 g_b1
  have f618 := ((F_coder.ext E603).other W611 (Or.inr (slot_ne (Or.inl (oH hw 77 rfl)) (Or.inl (oH hw 75 rfl)) (by decide) (t := .byte) (t' := (.array .byte)) (by decide) (by decide))))
  have f619 := (f610.wr W611)
  obtain ⟨T620, h620, X620, e620, W620, st620⟩ := putFN X611 hx hZ hown (oH hw 76 rfl) Via.refl e611 f618 f619 (Or.inl (oH hw 77 rfl)) (oH hw 61 rfl) (ty := .byte) (v' := .int (0 : Int32)) (by decide) rfl rfl (g := (mkF m 19 #[sR b1, sI 16] [(vI 0), (.ref b1)])) rfl rfl (hb hby dj68_2_19)
  have P621 : Rg p e below (T620.setTop (mkF m 22 #[sR b1, sI 16] [])) B0 := fun t k => P612 t (by
    refine XS.aloadN X611.here hx rfl (hb hby dj68_2_17) rfl rfl ?_
    refine XS.iconst X611.here hx rfl (hb hby dj68_2_18) ?_
    exact st620 _ k)
  have f622 := f618.same W620
  have N623 := Fr.snoc X620 N614 g_b1
  have Z624 : n0 ≤ h620.size := Nat.le_trans Z615 (Keep.of_wr W620).1
  have K625 : Keep h0 h620 [b1] := K616.wr W620 (Or.inl (List.mem_of_getElem? (i := 0) rfl))
  have O626 : Old Z n0 h620 := O617.wr W620 g_b1
  have f627 := ((v608.other W611 (Ne.symm (Nat.ne_of_lt (Nat.lt_of_lt_of_le F_value.lt (Nat.le_of_eq g603.symm))))).other W620 (Ne.symm (Nat.ne_of_lt (Nat.lt_of_lt_of_le F_value.lt (Nat.le_of_eq g603.symm)))))
  have A9 : Arv Z h620 b603 k603 .byte (16 : Int32) ((own_by false []).map Value.int) (vI 0) := f627.pad (fun i => (pad_rep [] (vI 0) 16 i).symm)
  have f628 := (f613.other W620 (Or.inr (slot_ne (Or.inl (oH hw 75 rfl)) (Or.inl (oH hw 77 rfl)) (by decide) (t := (.array .byte)) (t' := .byte) (by decide) (by decide))))
  have f629 := (((F_count.ext E603).other W611 (Or.inr (slot_ne (Or.inl (oH hw 99 rfl)) (Or.inl (oH hw 75 rfl)) (by decide) (t := .int) (t' := (.array .byte)) (by decide) (by decide)))).other W620 (Or.inr (slot_ne (Or.inl (oH hw 99 rfl)) (Or.inl (oH hw 77 rfl)) (by decide) (t := .int) (t' := .byte) (by decide) (by decide))))
  have f630 := (((F_maybe.ext E603).other W611 (Or.inr (slot_ne (Or.inl (oH hw 255 rfl)) (Or.inl (oH hw 75 rfl)) (by decide) (t := .boolean) (t' := (.array .byte)) (by decide) (by decide)))).other W620 (Or.inr (slot_ne (Or.inl (oH hw 255 rfl)) (Or.inl (oH hw 77 rfl)) (by decide) (t := .boolean) (t' := .byte) (by decide) (by decide))))
  have f631 := ((B603.wr W611).wr W620)
  obtain ⟨fs632, hr632, hrun632, hended632, hW632, hsame632⟩ := X620.leave (v := none) (fun _ => rfl)
  refine ⟨_, _, pre0 _ (P621 _ ?_), hrun632, hended632, _, _, rfl, ?_, ⟨⟨_, rfl⟩, hW632, hsame632.mono (oB rfl) (oB rfl)⟩⟩
  · show Sq p e below (T620.setTop (mkF m 22 #[sR b1, sI 16] [])) _
    refine XS.goto X620.here hx rfl (pc0 := 22) (pc' := 38) rfl (hb hby dj68_2_22) (by decide) (by decide) ?_
    exact X620.returnOut hx Bd.returns (hb hby dj68_2_38) hr632
  · show Q_abi Z b1 h0 n0 _ T620.heap _
    rw [e620]
    exact ⟨rfl, N623, K625, b603, _, f628, f622, f629, f630, A9, f631, sz_b603⟩
theorem dj67_1_0 : decode j67_1 0 = .ok (.aload_n 0, 1) := by decide +kernel
theorem dj67_1_1 : decode j67_1 1 = .ok (.bipush 16, 2) := by decide +kernel
theorem dj67_1_3 : decode j67_1 3 = .ok (.invokespecial 1, 3) := by decide +kernel
theorem dj67_1_6 : decode j67_1 6 = .ok (.return_, 1) := by decide +kernel
theorem ef_sbi (m : MethodId) (x0 : Addr) : entryFrame m #[(.ref x0)] 1 = mkF m 0 #[sR x0] [] := by (first | (simp [entryFrame, mkF, argsToLocals, Value.category]; done) | rfl)
def Q_sbi (Z : State) (b1 : Addr) (h0 : Heap) (n0 : Nat) (v : Option Value) (h : Heap) (L : List Loc) : Prop := v = none ∧ Fr n0 L ∧ Keep h0 h [b1] ∧ ∃ (v2 : Addr) (k2 : ClassId), Fld Z h b1 nA "value" "[B" (.ref v2) ∧ Fld Z h b1 nA "coder" "B" (vI 0) ∧ Fld Z h b1 nA "count" "I" (vI 0) ∧ Fld Z h b1 nA "maybeLatin1" "Z" (vI 0) ∧ Arv Z h v2 k2 .byte (16 : Int32) ((own_by false []).map Value.int) (vI 0) ∧ Exa Z h v2 "[B" ∧ h0.size ≤ v2
theorem rm_sbi (l : Launch) (Z : State) (a0 : Array Value) (hw : Tb a0 Z) (ws : List Jvm.Cond) (b1 : Addr) (G1 : Int32) (G2 : Value) (h0 : Heap) (n0 : Nat) (Z0 : n0 ≤ h0.size) (g_b1 : n0 ≤ b1) (E_b1 : Exa Z h0 b1 nB) (F_value : Fld Z h0 b1 nA "value" "[B" .null) (F_coder : Fld Z h0 b1 nA "coder" "B" (vI 0)) (F_count : Fld Z h0 b1 nA "count" "I" (vI 0)) (F_maybe : Fld Z h0 b1 nA "maybeLatin1" "Z" (vI 0)) (Sg : oSg Z G1) (P5 : ¬ (G1 = (0 : Int32))) (Sf : oSf Z G2) (hG2 : G2.isRef = true) (Sa : oSa Z) (Sh : oSh Z) (Sl : oSl Z) (Ol : Old Z n0 h0) :
    MF l Z h0 y_25 j67_1 1 none ws (rM 2 1 16 25) #[(.ref b1)] (Q_sbi Z b1 h0 n0) := by
  refine MetFree.of_bodySF (plainFor_of_name pn_java_lang_StringBuilder) hisR ?_
  intro p e s m args below meth c s₁ Bd hml hP hK
  obtain ⟨rfl, hZ, hh⟩ := hP
  have hx := Bd.exec
  have hby := Bd.bytes
  have hown : s.vm.findClass "java/lang/StringBuilder" = some m.cls := findClass_of_methodNamed Bd.named
  have X0 : Stand p l e (rM 2 1 16 25) s m #[(.ref b1)] below meth c s₁ [] 0 0 := Stand.of_body Bd
  have e0 : s₁.heap = h0 := by rw [← hh, Bd.state]; rfl
  have N0 := Fr.nil n0
  obtain ⟨B0, pre0, P0⟩ : ∃ B, Rg p e below B (s₁.setTop (entryFrame m #[(.ref b1)] 1)) ∧ Rg p e below (s₁.setTop (mkF m 0 #[sR b1] [])) B := ⟨_, fun t k => castTop (ef_sbi m b1) k, fun t k => k⟩
  obtain ⟨_, _, ⟨T633, L633, k633, n633⟩, -, X633, ⟨Lc633, hQ633, l633, y633, z633⟩, st633⟩ := X0.specialBack hx (y := y_24) rfl hown (mvT hZ (oH hw 66 rfl)) (mvT hZ (oH hw 67 rfl)) (mvT hZ (oH hw 71 rfl)) (by decide) (backOf (W := 0) (rm_abi l Z a0 hw [] b1 G1 G2 h0 n0 Z0 g_b1 E_b1 F_value F_coder F_count F_maybe Sg P5 Sf hG2 Sa Sh Sl Ol) hZ (oH hw 71 rfl) (oH hw 70 rfl) (by decide) (by decide)) (g := (mkF m 3 #[sR b1] [(vI 16), (.ref b1)])) rfl (by rw [hml]; rfl) (Steps.refl _) (a := b1) (argsL := [(vI 16)]) (rest := []) (lenOf pd17 rfl) rfl (oW rfl) (hb hby dj67_1_3) (fun _ _ => ⟨rfl, e0, (oB rfl : 0 + 1 ≤ _), (oB rfl : 0 + 16 ≤ _)⟩)
  dsimp only [Pt.U, Pt.locs, Pt.cells, Pt.slots] at X633 l633 y633 z633 st633 hQ633
  subst l633 y633 z633
  obtain ⟨rfl, Nq633, K633, v2633, k2633, F1633, F2633, F3633, F4633, A633, E633, s633⟩ := hQ633
  have N634 := Fr.app N0 Nq633
  have P635 : Rg p e below (T633.setTop (mkF m 6 #[sR b1] [])) B0 := fun t k => P0 t (by
    refine XS.aloadN X0.here hx rfl (hb hby dj67_1_0) rfl rfl ?_
    refine XS.bipush X0.here hx rfl (hb hby dj67_1_1) ?_
    exact st633.trans k)
  have Z636 : n0 ≤ T633.heap.size := Nat.le_trans Z0 K633.1
  have K637 : Keep h0 T633.heap [b1] := (Keep.refl h0 [b1]).trans K633 ((allS (Or.inl (List.mem_of_getElem? (i := 0) rfl)) all0))
  have O638 : Old Z n0 T633.heap := Ol.keep K633 (allS g_b1 all0)
  obtain ⟨fs639, hr639, hrun639, hended639, hW639, hsame639⟩ := X633.leave (v := none) (fun _ => rfl)
  refine ⟨_, _, pre0 _ (P635 _ ?_), hrun639, hended639, _, _, rfl, ?_, ⟨⟨_, rfl⟩, hW639, hsame639.mono (oB rfl) (oB rfl)⟩⟩
  · exact X633.returnOut hx Bd.returns (hb hby dj67_1_6) hr639
  · show Q_sbi Z b1 h0 n0 _ T633.heap _
    exact ⟨rfl, N634, K637, v2633, k2633, F1633, F2633, F3633, F4633, A633, E633, s633⟩
theorem dj68_64_0 : decode j68_64 0 = .ok (.aload_n 0, 1) := by decide +kernel
theorem dj68_64_1 : decode j68_64 1 = .ok (.getfield 15, 3) := by decide +kernel
theorem dj68_64_4 : decode j68_64 4 = .ok (.areturn, 1) := by decide +kernel
theorem ef_gvl (m : MethodId) (x0 : Addr) : entryFrame m #[(.ref x0)] 1 = mkF m 0 #[sR x0] [] := by (first | (simp [entryFrame, mkF, argsToLocals, Value.category]; done) | rfl)
def Q_gvl (v1 : Addr) (h0 : Heap) (n0 : Nat) (v : Option Value) (h : Heap) (L : List Loc) : Prop := v = some (.ref v1) ∧ Fr n0 L ∧ h = h0
theorem rm_gvl (l : Launch) (Z : State) (a0 : Array Value) (hw : Tb a0 Z) (ws : List Jvm.Cond) (b1 v1 : Addr) (h0 : Heap) (n0 : Nat) (Z0 : n0 ≤ h0.size) (F_value : Fld Z h0 b1 nA "value" "[B" (.ref v1)) :
    MF l Z h0 y_26 j68_64 1 (some (.array .byte)) ws (rM 0 0 0 0) #[(.ref b1)] (Q_gvl v1 h0 n0) := by
  refine MetFree.of_bodySF (plainFor_of_name pn_java_lang_AbstractStringBuilder) hisR ?_
  intro p e s m args below meth c s₁ Bd hml hP hK
  obtain ⟨rfl, hZ, hh⟩ := hP
  have hx := Bd.exec
  have hby := Bd.bytes
  have hown : s.vm.findClass "java/lang/AbstractStringBuilder" = some m.cls := findClass_of_methodNamed Bd.named
  have X0 : Stand p l e (rM 0 0 0 0) s m #[(.ref b1)] below meth c s₁ [] 0 0 := Stand.of_body Bd
  have e0 : s₁.heap = h0 := by rw [← hh, Bd.state]; rfl
  have N0 := Fr.nil n0
  obtain ⟨B0, pre0, P0⟩ : ∃ B, Rg p e below B (s₁.setTop (entryFrame m #[(.ref b1)] 1)) ∧ Rg p e below (s₁.setTop (mkF m 0 #[sR b1] [])) B := ⟨_, fun t k => castTop (ef_gvl m b1) k, fun t k => k⟩
  obtain ⟨T640, X640, e640, st640⟩ := getF X0 hx hZ hown (host := "") (Or.inl (oH hw 74 rfl)) Via.refl e0 F_value (g := (mkF m 1 #[sR b1] [(.ref b1)])) rfl rfl (hb hby dj68_64_1)
  have P641 : Rg p e below (T640.setTop (mkF m 4 #[sR b1] [(.ref v1)])) B0 := fun t k => P0 t (by
    refine XS.aloadN X0.here hx rfl (hb hby dj68_64_0) rfl rfl ?_
    exact st640 _ k)
  obtain ⟨fs642, hr642, hrun642, hended642, hW642, hsame642⟩ := X640.leave (v := some (.ref v1)) (fun h => by rw [Bd.returns] at h; cases h)
  refine ⟨_, _, pre0 _ (P641 _ ?_), hrun642, hended642, _, _, rfl, ?_, ⟨⟨_, rfl⟩, hW642, hsame642.mono (oB rfl) (oB rfl)⟩⟩
  · exact retOut X640 hx Bd.returns rfl (Or.inr (Or.inr (Or.inr (Or.inr ⟨rfl, rfl, rfl⟩)))) (hb hby dj68_64_4) hr642
  · show Q_gvl v1 h0 n0 _ T640.heap _
    rw [e640]
    exact ⟨rfl, N0, rfl⟩
theorem dj68_6_0 : decode j68_6 0 = .ok (.aload_n 0, 1) := by decide +kernel
theorem dj68_6_1 : decode j68_6 1 = .ok (.getfield 79, 3) := by decide +kernel
theorem dj68_6_4 : decode j68_6 4 = .ok (.ireturn, 1) := by decide +kernel
theorem ef_aln (m : MethodId) (x0 : Addr) : entryFrame m #[(.ref x0)] 1 = mkF m 0 #[sR x0] [] := by (first | (simp [entryFrame, mkF, argsToLocals, Value.category]; done) | rfl)
def Q_aln (x1 : Int32) (h0 : Heap) (n0 : Nat) (v : Option Value) (h : Heap) (L : List Loc) : Prop := v = some (.int x1) ∧ Fr n0 L ∧ h = h0
theorem rm_aln (l : Launch) (Z : State) (a0 : Array Value) (hw : Tb a0 Z) (ws : List Jvm.Cond) (b1 : Addr) (x1 : Int32) (h0 : Heap) (n0 : Nat) (Z0 : n0 ≤ h0.size) (F_count : Fld Z h0 b1 nA "count" "I" (.int x1)) :
    MF l Z h0 y_27 j68_6 1 (some .int) ws (rM 0 0 0 0) #[(.ref b1)] (Q_aln x1 h0 n0) := by
  refine MetFree.of_bodySF (plainFor_of_name pn_java_lang_AbstractStringBuilder) hisR ?_
  intro p e s m args below meth c s₁ Bd hml hP hK
  obtain ⟨rfl, hZ, hh⟩ := hP
  have hx := Bd.exec
  have hby := Bd.bytes
  have hown : s.vm.findClass "java/lang/AbstractStringBuilder" = some m.cls := findClass_of_methodNamed Bd.named
  have X0 : Stand p l e (rM 0 0 0 0) s m #[(.ref b1)] below meth c s₁ [] 0 0 := Stand.of_body Bd
  have e0 : s₁.heap = h0 := by rw [← hh, Bd.state]; rfl
  have N0 := Fr.nil n0
  obtain ⟨B0, pre0, P0⟩ : ∃ B, Rg p e below B (s₁.setTop (entryFrame m #[(.ref b1)] 1)) ∧ Rg p e below (s₁.setTop (mkF m 0 #[sR b1] [])) B := ⟨_, fun t k => castTop (ef_aln m b1) k, fun t k => k⟩
  obtain ⟨T643, X643, e643, st643⟩ := getF X0 hx hZ hown (host := "") (Or.inl (oH hw 98 rfl)) Via.refl e0 F_count (g := (mkF m 1 #[sR b1] [(.ref b1)])) rfl rfl (hb hby dj68_6_1)
  have P644 : Rg p e below (T643.setTop (mkF m 4 #[sR b1] [(.int x1)])) B0 := fun t k => P0 t (by
    refine XS.aloadN X0.here hx rfl (hb hby dj68_6_0) rfl rfl ?_
    exact st643 _ k)
  obtain ⟨fs645, hr645, hrun645, hended645, hW645, hsame645⟩ := X643.leave (v := some (.int x1)) (fun h => by rw [Bd.returns] at h; cases h)
  refine ⟨_, _, pre0 _ (P644 _ ?_), hrun645, hended645, _, _, rfl, ?_, ⟨⟨_, rfl⟩, hW645, hsame645.mono (oB rfl) (oB rfl)⟩⟩
  · exact retI X643 hx Bd.returns (hb hby dj68_6_4) hr645
  · show Q_aln x1 h0 n0 _ T643.heap _
    rw [e643]
    exact ⟨rfl, N0, rfl⟩
theorem dj67_93_0 : decode j67_93 0 = .ok (.aload_n 0, 1) := by decide +kernel
theorem dj67_93_1 : decode j67_93 1 = .ok (.invokespecial 343, 3) := by decide +kernel
theorem dj67_93_4 : decode j67_93 4 = .ok (.ireturn, 1) := by decide +kernel
theorem ef_bln (m : MethodId) (x0 : Addr) : entryFrame m #[(.ref x0)] 1 = mkF m 0 #[sR x0] [] := by (first | (simp [entryFrame, mkF, argsToLocals, Value.category]; done) | rfl)
def Q_bln (x1 : Int32) (h0 : Heap) (n0 : Nat) (v : Option Value) (h : Heap) (L : List Loc) : Prop := v = some (.int x1) ∧ Fr n0 L ∧ h = h0
theorem rm_bln (l : Launch) (Z : State) (a0 : Array Value) (hw : Tb a0 Z) (ws : List Jvm.Cond) (b1 : Addr) (x1 : Int32) (h0 : Heap) (n0 : Nat) (Z0 : n0 ≤ h0.size) (E_b1 : Exa Z h0 b1 nB) (F_count : Fld Z h0 b1 nA "count" "I" (.int x1)) :
    MF l Z h0 y_28 j67_93 1 (some .int) ws (rM 1 0 0 12) #[(.ref b1)] (Q_bln x1 h0 n0) := by
  refine MetFree.of_bodySF (plainFor_of_name pn_java_lang_StringBuilder) hisR ?_
  intro p e s m args below meth c s₁ Bd hml hP hK
  obtain ⟨rfl, hZ, hh⟩ := hP
  have hx := Bd.exec
  have hby := Bd.bytes
  have hown : s.vm.findClass "java/lang/StringBuilder" = some m.cls := findClass_of_methodNamed Bd.named
  have X0 : Stand p l e (rM 1 0 0 12) s m #[(.ref b1)] below meth c s₁ [] 0 0 := Stand.of_body Bd
  have e0 : s₁.heap = h0 := by rw [← hh, Bd.state]; rfl
  have N0 := Fr.nil n0
  obtain ⟨B0, pre0, P0⟩ : ∃ B, Rg p e below B (s₁.setTop (entryFrame m #[(.ref b1)] 1)) ∧ Rg p e below (s₁.setTop (mkF m 0 #[sR b1] [])) B := ⟨_, fun t k => castTop (ef_bln m b1) k, fun t k => k⟩
  obtain ⟨_, _, ⟨T646, L646, k646, n646⟩, -, X646, ⟨Lc646, hQ646, l646, y646, z646⟩, st646⟩ := superBack X0 hx hZ (y := y_27) hown (oH hw 149 rfl) (own_sameM (oH hw 145 rfl) (oH hw 103 rfl) rfl (by decide)) (oH hw 145 rfl) (oH hw 85 rfl) (by decide) (backOf (W := 0) (rm_aln l Z a0 hw [] b1 x1 h0 n0 Z0 F_count) hZ (oH hw 150 rfl) (oH hw 70 rfl) (by decide) (by decide)) e0 (a := b1) (Ins.self E_b1) (g := (mkF m 1 #[sR b1] [(.ref b1)])) rfl (by rw [hml]; rfl) (oH hw 150 rfl) (argsL := []) (rest := []) (lenOf pd16 rfl) rfl (oW rfl) (hb hby dj67_93_1) (fun _ _ => ⟨rfl, e0, (oB rfl : 0 + 0 ≤ _), (oB rfl : 0 + 0 ≤ _)⟩)
  dsimp only [Pt.U, Pt.locs, Pt.cells, Pt.slots] at X646 l646 y646 z646 st646 hQ646
  subst l646 y646 z646
  obtain ⟨rfl, Nq646, e646⟩ := hQ646
  have N647 := Fr.app N0 Nq646
  have P648 : Rg p e below (T646.setTop (mkF m 4 #[sR b1] [(.int x1)])) B0 := fun t k => P0 t (by
    refine XS.aloadN X0.here hx rfl (hb hby dj67_93_0) rfl rfl ?_
    exact st646.trans k)
  obtain ⟨fs649, hr649, hrun649, hended649, hW649, hsame649⟩ := X646.leave (v := some (.int x1)) (fun h => by rw [Bd.returns] at h; cases h)
  refine ⟨_, _, pre0 _ (P648 _ ?_), hrun649, hended649, _, _, rfl, ?_, ⟨⟨_, rfl⟩, hW649, hsame649.mono (oB rfl) (oB rfl)⟩⟩
  · exact retI X646 hx Bd.returns (hb hby dj67_93_4) hr649
  · show Q_bln x1 h0 n0 _ T646.heap _
    rw [e646]
    exact ⟨rfl, N647, rfl⟩
theorem dj29_69_0 : decode j29_69 0 = .ok (.iload_n 0, 1) := by decide +kernel
theorem dj29_69_1 : decode j29_69 1 = .ok (.iload_n 1, 1) := by decide +kernel
theorem dj29_69_2 : decode j29_69 2 = .ok (.if_icmp .gt 7, 3) := by decide +kernel
theorem dj29_69_9 : decode j29_69 9 = .ok (.iload_n 1, 1) := by decide +kernel
theorem dj29_69_10 : decode j29_69 10 = .ok (.ireturn, 1) := by decide +kernel
theorem ef_min (m : MethodId) (x0 : Int32) (x1 : Int32) : entryFrame m #[(.int x0), (.int x1)] 2 = mkF m 0 #[sI x0, sI x1] [] := by (first | (simp [entryFrame, mkF, argsToLocals, Value.category]; done) | rfl)
def Q_min (p1 : Int32) (h0 : Heap) (n0 : Nat) (v : Option Value) (h : Heap) (L : List Loc) : Prop := v = some (.int p1) ∧ Fr n0 L ∧ h = h0
theorem rm_min (l : Launch) (Z : State) (a0 : Array Value) (hw : Tb a0 Z) (ws : List Jvm.Cond) (p0 p1 : Int32) (h0 : Heap) (n0 : Nat) (Z0 : n0 ≤ h0.size) (q : p1 < p0) :
    MF l Z h0 y_29 j29_69 2 (some .int) ws (rM 0 0 0 0) #[(.int p0), (.int p1)] (Q_min p1 h0 n0) := by
  refine MetFree.of_bodySF (Jvm.Free.JP.mathPlain rfl (by decide +kernel)) hisR ?_
  intro p e s m args below meth c s₁ Bd hml hP hK
  obtain ⟨rfl, hZ, hh⟩ := hP
  have hx := Bd.exec
  have hby := Bd.bytes
  have hown : s.vm.findClass "java/lang/Math" = some m.cls := findClass_of_methodNamed Bd.named
  have X0 : Stand p l e (rM 0 0 0 0) s m #[(.int p0), (.int p1)] below meth c s₁ [] 0 0 := Stand.of_body Bd
  have e0 : s₁.heap = h0 := by rw [← hh, Bd.state]; rfl
  have N0 := Fr.nil n0
  obtain ⟨B0, pre0, P0⟩ : ∃ B, Rg p e below B (s₁.setTop (entryFrame m #[(.int p0), (.int p1)] 2)) ∧ Rg p e below (s₁.setTop (mkF m 0 #[sI p0, sI p1] [])) B := ⟨_, fun t k => castTop (ef_min m p0 p1) k, fun t k => k⟩
  obtain ⟨fs650, hr650, hrun650, hended650, hW650, hsame650⟩ := X0.leave (v := some (.int p1)) (fun h => by rw [Bd.returns] at h; cases h)
  refine ⟨_, _, pre0 _ (P0 _ ?_), hrun650, hended650, _, _, rfl, ?_, ⟨⟨_, rfl⟩, hW650, hsame650.mono (oB rfl) (oB rfl)⟩⟩
  · refine XS.iloadN X0.here hx rfl (hb hby dj29_69_0) rfl ?_
    show Sq p e below (s₁.setTop (mkF m 1 #[sI p0, sI p1] [(.int p0)])) _
    refine XS.iloadN X0.here hx rfl (hb hby dj29_69_1) rfl ?_
    refine XS.icmpYes X0.here hx rfl (pc0 := 2) (pc' := 9) rfl (hb hby dj29_69_2) rfl (tlt (show p1 < p0 from q)).2.2.1 (by decide) (by decide) ?_
    refine XS.iloadN X0.here hx rfl (hb hby dj29_69_9) rfl ?_
    exact retI X0 hx Bd.returns (hb hby dj29_69_10) hr650
  · show Q_min p1 h0 n0 _ s₁.heap _
    rw [e0]
    exact ⟨rfl, N0, rfl⟩
theorem dj65_131_0 : decode j65_131 0 = .ok (.iload_n 1, 1) := by decide +kernel
theorem dj65_131_1 : decode j65_131 1 = .ok (.iload_n 0, 1) := by decide +kernel
theorem dj65_131_2 : decode j65_131 2 = .ok (.if_icmp .ge 35, 3) := by decide +kernel
theorem dj65_131_37 : decode j65_131 37 = .ok (.return_, 1) := by decide +kernel
theorem pn_java_util_Arrays : plainName "java/util/Arrays" = true := by first | (simp [plainName, overriddenIn]; done) | decide +kernel
theorem ef_ckl (m : MethodId) (x0 : Int32) (x1 : Int32) : entryFrame m #[(.int x0), (.int x1)] 2 = mkF m 0 #[sI x0, sI x1] [] := by (first | (simp [entryFrame, mkF, argsToLocals, Value.category]; done) | rfl)
def Q_ckl  (h0 : Heap) (n0 : Nat) (v : Option Value) (h : Heap) (L : List Loc) : Prop := v = none ∧ Fr n0 L ∧ h = h0
theorem rm_ckl (l : Launch) (Z : State) (a0 : Array Value) (hw : Tb a0 Z) (ws : List Jvm.Cond) (p1 : Int32) (h0 : Heap) (n0 : Nat) (Z0 : n0 ≤ h0.size) (q : ¬ p1 < (0 : Int32)) :
    MF l Z h0 y_30 j65_131 2 none ws (rM 0 0 0 0) #[(vI 0), (.int p1)] (Q_ckl  h0 n0) := by
  refine MetFree.of_bodySF (plainFor_of_name pn_java_util_Arrays) hisR ?_
  intro p e s m args below meth c s₁ Bd hml hP hK
  obtain ⟨rfl, hZ, hh⟩ := hP
  have hx := Bd.exec
  have hby := Bd.bytes
  have hown : s.vm.findClass "java/util/Arrays" = some m.cls := findClass_of_methodNamed Bd.named
  have X0 : Stand p l e (rM 0 0 0 0) s m #[(vI 0), (.int p1)] below meth c s₁ [] 0 0 := Stand.of_body Bd
  have e0 : s₁.heap = h0 := by rw [← hh, Bd.state]; rfl
  have N0 := Fr.nil n0
  obtain ⟨B0, pre0, P0⟩ : ∃ B, Rg p e below B (s₁.setTop (entryFrame m #[(vI 0), (.int p1)] 2)) ∧ Rg p e below (s₁.setTop (mkF m 0 #[sI 0, sI p1] [])) B := ⟨_, fun t k => castTop (ef_ckl m (0 : Int32) p1) k, fun t k => k⟩
  obtain ⟨fs651, hr651, hrun651, hended651, hW651, hsame651⟩ := X0.leave (v := none) (fun _ => rfl)
  refine ⟨_, _, pre0 _ (P0 _ ?_), hrun651, hended651, _, _, rfl, ?_, ⟨⟨_, rfl⟩, hW651, hsame651.mono (oB rfl) (oB rfl)⟩⟩
  · refine XS.iloadN X0.here hx rfl (hb hby dj65_131_0) rfl ?_
    show Sq p e below (s₁.setTop (mkF m 1 #[sI 0, sI p1] [(.int p1)])) _
    refine XS.iloadN X0.here hx rfl (hb hby dj65_131_1) rfl ?_
    refine XS.icmpYes X0.here hx rfl (pc0 := 2) (pc' := 37) rfl (hb hby dj65_131_2) rfl (flt (show ¬ (p1 < (0 : Int32)) from q)).2.1 (by decide) (by decide) ?_
    exact X0.returnOut hx Bd.returns (hb hby dj65_131_37) hr651
  · show Q_ckl  h0 n0 _ s₁.heap _
    rw [e0]
    exact ⟨rfl, N0, rfl⟩
theorem dj65_133_0 : decode j65_133 0 = .ok (.iload_n 1, 1) := by decide +kernel
theorem dj65_133_1 : decode j65_133 1 = .ok (.iload_n 2, 1) := by decide +kernel
theorem dj65_133_2 : decode j65_133 2 = .ok (.invokestatic 343, 3) := by decide +kernel
theorem dj65_133_5 : decode j65_133 5 = .ok (.iload_n 2, 1) := by decide +kernel
theorem dj65_133_6 : decode j65_133 6 = .ok (.iload_n 1, 1) := by decide +kernel
theorem dj65_133_7 : decode j65_133 7 = .ok (.isub, 1) := by decide +kernel
theorem dj65_133_8 : decode j65_133 8 = .ok (.istore_n 3, 1) := by decide +kernel
theorem dj65_133_9 : decode j65_133 9 = .ok (.iload_n 3, 1) := by decide +kernel
theorem dj65_133_10 : decode j65_133 10 = .ok (.newarray .byte, 2) := by decide +kernel
theorem dj65_133_12 : decode j65_133 12 = .ok (.astore 4, 2) := by decide +kernel
theorem dj65_133_14 : decode j65_133 14 = .ok (.aload_n 0, 1) := by decide +kernel
theorem dj65_133_15 : decode j65_133 15 = .ok (.iload_n 1, 1) := by decide +kernel
theorem dj65_133_16 : decode j65_133 16 = .ok (.aload 4, 2) := by decide +kernel
theorem dj65_133_18 : decode j65_133 18 = .ok (.iconst 0, 1) := by decide +kernel
theorem dj65_133_19 : decode j65_133 19 = .ok (.aload_n 0, 1) := by decide +kernel
theorem dj65_133_20 : decode j65_133 20 = .ok (.arraylength, 1) := by decide +kernel
theorem dj65_133_21 : decode j65_133 21 = .ok (.iload_n 1, 1) := by decide +kernel
theorem dj65_133_22 : decode j65_133 22 = .ok (.isub, 1) := by decide +kernel
theorem dj65_133_23 : decode j65_133 23 = .ok (.iload_n 3, 1) := by decide +kernel
theorem dj65_133_24 : decode j65_133 24 = .ok (.invokestatic 304, 3) := by decide +kernel
theorem pd20 : parseMethodDescriptor "(II)I" = some ⟨[.int, .int], some .int⟩ := by decide +kernel
theorem dj65_133_27 : decode j65_133 27 = .ok (.invokestatic 150, 3) := by decide +kernel
theorem dj65_133_30 : decode j65_133 30 = .ok (.aload 4, 2) := by decide +kernel
theorem dj65_133_32 : decode j65_133 32 = .ok (.areturn, 1) := by decide +kernel
theorem ef_crb0 (m : MethodId) (x0 : Addr) (x1 : Int32) (x2 : Int32) : entryFrame m #[(.ref x0), (.int x1), (.int x2)] 5 = mkF m 0 #[sR x0, sI x1, sI x2, sU, sU] [] := by (first | (simp [entryFrame, mkF, argsToLocals, Value.category]; done) | rfl)
def Q_crb0 (Z : State) (cs : List Int32) (to : Int32) (h0 : Heap) (n0 : Nat) (v : Option Value) (h : Heap) (L : List Loc) : Prop := ∃ (t : Addr) (k : ClassId), v = some (.ref t) ∧ Fr n0 L ∧ Keep h0 h [] ∧ Arv Z h t k .byte to ((own_by false cs).map Value.int) (vI 0) ∧ h0.size ≤ t
theorem rm_crb0 (l : Launch) (Z : State) (a0 : Array Value) (hw : Tb a0 Z) (ws : List Jvm.Cond) (v1 : Addr) (kv : ClassId) (cs : List Int32) (to : Int32)  (h0 : Heap) (n0 : Nat) (Z0 : n0 ≤ h0.size) (A_v1 : Arv Z h0 v1 kv .byte (16 : Int32) ((own_by false cs).map Value.int) (vI 0)) (hto : to = Int32.ofNat (own_by false cs).length) (hc6 : cs.length ≤ 6) :
    MF l Z h0 y_31 j65_133 5 (some (.array .byte)) ws (rM 1 1 12 18) #[(.ref v1), (vI 0), (.int to)] (Q_crb0 Z cs to h0 n0) := by
  refine MetFree.of_bodySF (plainFor_of_name pn_java_util_Arrays) hisR ?_
  intro p e s m args below meth c s₁ Bd hml hP hK
  obtain ⟨rfl, hZ, hh⟩ := hP
  have hx := Bd.exec
  have hby := Bd.bytes
  have hown : s.vm.findClass "java/util/Arrays" = some m.cls := findClass_of_methodNamed Bd.named
  have X0 : Stand p l e (rM 1 1 12 18) s m #[(.ref v1), (vI 0), (.int to)] below meth c s₁ [] 0 0 := Stand.of_body Bd
  have e0 : s₁.heap = h0 := by rw [← hh, Bd.state]; rfl
  have N0 := Fr.nil n0
  obtain ⟨B0, pre0, P0⟩ : ∃ B, Rg p e below B (s₁.setTop (entryFrame m #[(.ref v1), (vI 0), (.int to)] 5)) ∧ Rg p e below (s₁.setTop (mkF m 0 #[sR v1, sI 0, sI to, sU, sU] [])) B := ⟨_, fun t k => castTop (ef_crb0 m v1 (0 : Int32) to) k, fun t k => k⟩
  have T9 := own_to (own_byB false hc6)
  rw [← hto] at T9
  obtain ⟨_, _, ⟨T652, L652, k652, n652⟩, -, X652, ⟨Lc652, hQ652, l652, y652, z652⟩, st652⟩ := Jvm.LawKit.callS X0 hx (y := y_30) hown (mvT hZ (oH hw 163 rfl)) (mvT hZ (oH hw 164 rfl)) (mvT hZ (oH hw 158 rfl)) (mvT hZ (oH hw 165 rfl)) (by decide) (backOf (W := 0) (rm_ckl l Z a0 hw [] to h0 n0 Z0 T9.1) hZ (oH hw 165 rfl) (oH hw 158 rfl) (by decide) (by decide)) (g := (mkF m 2 #[sR v1, sI 0, sI to, sU, sU] [(.int to), (vI 0)])) rfl (by rw [hml]; rfl) (argsL := [(vI 0), (.int to)]) (rest := []) (lenOf pd5 rfl) rfl (oW rfl) (hb hby dj65_133_2) (fun _ _ => ⟨rfl, e0, (oB rfl : 0 + 0 ≤ _), (oB rfl : 0 + 0 ≤ _)⟩)
  dsimp only [Pt.U, Pt.locs, Pt.cells, Pt.slots] at X652 l652 y652 z652 st652 hQ652
  subst l652 y652 z652
  obtain ⟨rfl, Nq652, e652⟩ := hQ652
  have N653 := Fr.app N0 Nq652
  have P654 : Rg p e below (T652.setTop (mkF m 5 #[sR v1, sI 0, sI to, sU, sU] [])) B0 := fun t k => P0 t (by
    refine XS.iloadN X0.here hx rfl (hb hby dj65_133_0) rfl ?_
    refine XS.iloadN X0.here hx rfl (hb hby dj65_133_1) rfl ?_
    exact st652 _ k)
  obtain ⟨tz, hz⟩ : ∃ z : Int32, z = (to - (0 : Int32)) := ⟨_, rfl⟩
  have P655 : Rg p e below (T652.setTop (mkF m 9 #[sR v1, sI 0, sI to, .val (.int (to - (0 : Int32))), sU] [])) B0 := fun t k => P654 t (by
    refine XS.iloadN X652.here hx rfl (hb hby dj65_133_5) rfl ?_
    refine XS.iloadN X652.here hx rfl (hb hby dj65_133_6) rfl ?_
    refine XS.isub X652.here hx rfl (hb hby dj65_133_7) rfl ?_
    refine XS.istoreN X652.here hx rfl (hb hby dj65_133_8) rfl (l' := #[sR v1, sI 0, sI to, .val (.int (to - (0 : Int32))), sU]) rfl ?_
    show Sq p e below (T652.setTop (mkF m 9 #[sR v1, sI 0, sI to, .val (.int (to - (0 : Int32))), sU] [])) _
    exact k)
  have P656 : Rg p e below (T652.setTop (mkF m 9 #[sR v1, sI 0, sI to, sI tz, sU] [])) B0 := fun t k => P655 t (by rw [hz] at k; exact k)
  have hz2 : to = tz := (own_sub0 to).trans hz.symm
  subst hz2
  obtain ⟨T657, h657, k657, X657, e657, E657, A657, st657⟩ := newP X652 hx hZ (oH hw 25 rfl) e652 (g := (mkF m 10 #[sR v1, sI 0, sI to, sI to, sU] [(.int to)])) rfl (hb hby dj65_133_10) rfl T9.1 (cap := 12) T9.2.2.2.2.2 (by decide) (by decide) (by decide)
  obtain ⟨b657, g657⟩ : ∃ z, z = h0.size := ⟨_, rfl⟩
  rw [← g657] at A657 st657
  have g_b657 : n0 ≤ b657 := Nat.le_trans Z0 (Nat.le_of_eq g657.symm)
  have sz_b657 : h0.size ≤ b657 := Nat.le_trans (Keep.refl h0 []).1 (Nat.le_of_eq g657.symm)
  have P658 : Rg p e below (T657.setTop (mkF m 12 #[sR v1, sI 0, sI to, sI to, sU] [(.ref b657)])) B0 := fun t k => P656 t (by
    refine XS.iloadN X652.here hx rfl (hb hby dj65_133_9) rfl ?_
    exact st657 _ k)
  have Z659 : n0 ≤ h657.size := Nat.le_trans Z0 E657.1
  have K660 : Keep h0 h657 [] := (Keep.refl h0 []).ext E657
  have v661 : Arv Z h657 b657 k657 .byte to ([] : List Value) (vI 0) := Arv.new A657 T9.1
  have A8 : Arv Z h657 b657 k657 .byte to (([] : List Int32).map Value.int) (vI 0) := v661
  have f662 := (A_v1.ext E657)
  obtain ⟨cl663, Ar663, -, S663, N663, -, -⟩ := id f662
  obtain ⟨_, _, ⟨T664, L664, k664, n664⟩, -, X664, ⟨Lc664, hQ664, l664, y664, z664⟩, st664⟩ := Jvm.LawKit.callS X657 hx (y := y_29) hown (mvT hZ (oH hw 166 rfl)) (mvT hZ (oH hw 167 rfl)) (mvT hZ (oH hw 168 rfl)) (mvT hZ (oH hw 169 rfl)) (by decide) (backOf (W := 4) (rm_min l Z a0 hw [] (16 : Int32) to h657 n0 Z659 (by show to < (16 : Int32); exact T9.2.2.2.1)) hZ (oH hw 169 rfl) (oH hw 168 rfl) (by decide) (by decide)) (g := (mkF m 24 #[sR v1, sI 0, sI to, sI to, sR b657] [(.int to), (vI 16), (vI 0), (.ref b657), (vI 0), (.ref v1)])) rfl (by rw [hml]; rfl) (argsL := [(vI 16), (.int to)]) (rest := [(vI 0), (.ref b657), (vI 0), (.ref v1)]) (lenOf pd20 rfl) rfl (oW rfl) (hb hby dj65_133_24) (fun _ _ => ⟨rfl, e657, (oB rfl : 1 + 0 ≤ _), (oB rfl : 12 + 0 ≤ _)⟩)
  dsimp only [Pt.U, Pt.locs, Pt.cells, Pt.slots] at X664 l664 y664 z664 st664 hQ664
  subst l664 y664 z664
  obtain ⟨rfl, Nq664, e664⟩ := hQ664
  have N665 := Fr.app N653 Nq664
  have P666 : Rg p e below (T664.setTop (mkF m 27 #[sR v1, sI 0, sI to, sI to, sR b657] [(.int to), (vI 0), (.ref b657), (vI 0), (.ref v1)])) B0 := fun t k => P658 t (by
    refine XS.astore X657.here hx rfl (hb hby dj65_133_12) rfl rfl (l' := #[sR v1, sI 0, sI to, sI to, sR b657]) rfl ?_
    refine XS.aloadN X657.here hx rfl (hb hby dj65_133_14) rfl rfl ?_
    refine XS.iloadN X657.here hx rfl (hb hby dj65_133_15) rfl ?_
    refine XS.aload X657.here hx rfl (hb hby dj65_133_16) rfl rfl ?_
    refine XS.iconst X657.here hx rfl (hb hby dj65_133_18) ?_
    refine XS.aloadN X657.here hx rfl (hb hby dj65_133_19) rfl rfl ?_
    show Sq p e below (T657.setTop (mkF m 20 #[sR v1, sI 0, sI to, sI to, sR b657] [(.ref v1), (vI 0), (.ref b657), (vI 0), (.ref v1)])) _
    refine X657.arraylength hx (by rw [e657]; exact Ar663.1) (State.isArrayOf_alike hZ.alike Ar663.2.1) (g := (mkF m 20 #[sR v1, sI 0, sI to, sI to, sR b657] [(.ref v1), (vI 0), (.ref b657), (vI 0), (.ref v1)])) rfl rfl (hb hby dj65_133_20) _ ?_
    rw [len_of S663 N663]
    show Sq p e below (T657.setTop (mkF m 21 #[sR v1, sI 0, sI to, sI to, sR b657] [(vI 16), (vI 0), (.ref b657), (vI 0), (.ref v1)])) _
    refine XS.iloadN X657.here hx rfl (hb hby dj65_133_21) rfl ?_
    refine XS.isub X657.here hx rfl (hb hby dj65_133_22) rfl ?_
    refine XS.iloadN X657.here hx rfl (hb hby dj65_133_23) rfl ?_
    exact st664 _ k)
  obtain ⟨T667, h667, L667, X667, e667, Nq667, K667, A667, st667⟩ := own_copy (W := 0) X664 hx hZ hown (oH hw 170 rfl) (oH hw 124 rfl) (oH hw 122 rfl) (oH hw 123 rfl) e664 (ss := (own_by false cs)) (ds := ([] : List Int32)) f662 A8 hto rfl (by have := own_byB false hc6; show _ ≤ 16; omega) (by rw [own_clN hto (by have := own_byB false hc6; omega)]; simp) (by have := own_byB false hc6; simp only [List.length_nil]; omega) g_b657 (g := (mkF m 27 #[sR v1, sI 0, sI to, sI to, sR b657] [(.int to), (vI 0), (.ref b657), (vI 0), (.ref v1)])) rfl (by rw [hml]; rfl) rfl (hb hby dj65_133_27) (by decide) (oW rfl) (by decide)
  have N668 := Fr.app N665 Nq667
  have P669 : Rg p e below (T667.setTop (mkF m 30 #[sR v1, sI 0, sI to, sI to, sR b657] [])) B0 := fun t k => P666 t (by
    exact st667 _ k)
  have Z670 : n0 ≤ h667.size := Nat.le_trans Z659 K667.1
  have K671 : Keep h0 h667 [] := K660.trans K667 ((allS (Or.inr sz_b657) all0))
  obtain ⟨fs672, hr672, hrun672, hended672, hW672, hsame672⟩ := X667.leave (v := some (.ref b657)) (fun h => by rw [Bd.returns] at h; cases h)
  refine ⟨_, _, pre0 _ (P669 _ ?_), hrun672, hended672, _, _, rfl, ?_, ⟨⟨_, rfl⟩, hW672, hsame672.mono (oB rfl) (oB rfl)⟩⟩
  · show Sq p e below (T667.setTop (mkF m 30 #[sR v1, sI 0, sI to, sI to, sR b657] [])) _
    refine XS.aload X667.here hx rfl (hb hby dj65_133_30) rfl rfl ?_
    exact retOut X667 hx Bd.returns rfl (Or.inr (Or.inr (Or.inr (Or.inr ⟨rfl, rfl, rfl⟩)))) (hb hby dj65_133_32) hr672
  · show Q_crb0 Z cs to h0 n0 _ T667.heap _
    rw [e667]
    exact ⟨b657, _, rfl, N668, K671, A667, sz_b657⟩
theorem dj65_132_0 : decode j65_132 0 = .ok (.iload_n 1, 1) := by decide +kernel
theorem dj65_132_1 : decode j65_132 1 = .ok (.ifCond .ne 9, 3) := by decide +kernel
theorem dj65_132_4 : decode j65_132 4 = .ok (.iload_n 2, 1) := by decide +kernel
theorem dj65_132_5 : decode j65_132 5 = .ok (.aload_n 0, 1) := by decide +kernel
theorem dj65_132_6 : decode j65_132 6 = .ok (.arraylength, 1) := by decide +kernel
theorem dj65_132_7 : decode j65_132 7 = .ok (.if_icmp .eq 10, 3) := by decide +kernel
theorem dj65_132_10 : decode j65_132 10 = .ok (.aload_n 0, 1) := by decide +kernel
theorem dj65_132_11 : decode j65_132 11 = .ok (.iload_n 1, 1) := by decide +kernel
theorem dj65_132_12 : decode j65_132 12 = .ok (.iload_n 2, 1) := by decide +kernel
theorem dj65_132_13 : decode j65_132 13 = .ok (.invokestatic 339, 3) := by decide +kernel
theorem pd21 : parseMethodDescriptor "([BII)[B" = some ⟨[(.array .byte), .int, .int], some (.array .byte)⟩ := by decide +kernel
theorem dj65_132_16 : decode j65_132 16 = .ok (.areturn, 1) := by decide +kernel
theorem ef_cor0 (m : MethodId) (x0 : Addr) (x1 : Int32) (x2 : Int32) : entryFrame m #[(.ref x0), (.int x1), (.int x2)] 3 = mkF m 0 #[sR x0, sI x1, sI x2] [] := by (first | (simp [entryFrame, mkF, argsToLocals, Value.category]; done) | rfl)
def Q_cor0 (Z : State) (cs : List Int32) (to : Int32) (h0 : Heap) (n0 : Nat) (v : Option Value) (h : Heap) (L : List Loc) : Prop := ∃ (t : Addr) (k : ClassId), v = some (.ref t) ∧ Fr n0 L ∧ Keep h0 h [] ∧ Arv Z h t k .byte to ((own_by false cs).map Value.int) (vI 0) ∧ h0.size ≤ t
theorem rm_cor0 (l : Launch) (Z : State) (a0 : Array Value) (hw : Tb a0 Z) (ws : List Jvm.Cond) (v1 : Addr) (kv : ClassId) (cs : List Int32) (to : Int32)  (h0 : Heap) (n0 : Nat) (Z0 : n0 ≤ h0.size) (A_v1 : Arv Z h0 v1 kv .byte (16 : Int32) ((own_by false cs).map Value.int) (vI 0)) (hto : to = Int32.ofNat (own_by false cs).length) (hc6 : cs.length ≤ 6) :
    MF l Z h0 y_32 j65_132 3 (some (.array .byte)) ws (rM 2 1 12 34) #[(.ref v1), (vI 0), (.int to)] (Q_cor0 Z cs to h0 n0) := by
  refine MetFree.of_bodySF (plainFor_of_name pn_java_util_Arrays) hisR ?_
  intro p e s m args below meth c s₁ Bd hml hP hK
  obtain ⟨rfl, hZ, hh⟩ := hP
  have hx := Bd.exec
  have hby := Bd.bytes
  have hown : s.vm.findClass "java/util/Arrays" = some m.cls := findClass_of_methodNamed Bd.named
  have X0 : Stand p l e (rM 2 1 12 34) s m #[(.ref v1), (vI 0), (.int to)] below meth c s₁ [] 0 0 := Stand.of_body Bd
  have e0 : s₁.heap = h0 := by rw [← hh, Bd.state]; rfl
  have N0 := Fr.nil n0
  obtain ⟨B0, pre0, P0⟩ : ∃ B, Rg p e below B (s₁.setTop (entryFrame m #[(.ref v1), (vI 0), (.int to)] 3)) ∧ Rg p e below (s₁.setTop (mkF m 0 #[sR v1, sI 0, sI to] [])) B := ⟨_, fun t k => castTop (ef_cor0 m v1 (0 : Int32) to) k, fun t k => k⟩
  have T9 := own_to (own_byB false hc6)
  rw [← hto] at T9
  have qn := T9.2.1
  obtain ⟨cl673, Ar673, -, S673, N673, -, -⟩ := id A_v1
  obtain ⟨_, _, ⟨T674, L674, k674, n674⟩, -, X674, ⟨Lc674, hQ674, l674, y674, z674⟩, st674⟩ := Jvm.LawKit.callS X0 hx (y := y_31) hown (mvT hZ (oH hw 160 rfl)) (mvT hZ (oH hw 161 rfl)) (mvT hZ (oH hw 158 rfl)) (mvT hZ (oH hw 162 rfl)) (by decide) (backOf (W := 0) (rm_crb0 l Z a0 hw [] v1 kv cs to h0 n0 Z0 A_v1 hto hc6) hZ (oH hw 162 rfl) (oH hw 158 rfl) (by decide) (by decide)) (g := (mkF m 13 #[sR v1, sI 0, sI to] [(.int to), (vI 0), (.ref v1)])) rfl (by rw [hml]; rfl) (argsL := [(.ref v1), (vI 0), (.int to)]) (rest := []) (lenOf pd21 rfl) rfl (oW rfl) (hb hby dj65_132_13) (fun _ _ => ⟨rfl, e0, (oB rfl : 0 + 1 ≤ _), (oB rfl : 0 + 12 ≤ _)⟩)
  dsimp only [Pt.U, Pt.locs, Pt.cells, Pt.slots] at X674 l674 y674 z674 st674 hQ674
  subst l674 y674 z674
  obtain ⟨t674, k674, rfl, Nq674, K674, A674, s674⟩ := hQ674
  have N675 := Fr.app N0 Nq674
  have P676 : Rg p e below (T674.setTop (mkF m 16 #[sR v1, sI 0, sI to] [(.ref t674)])) B0 := fun t k => P0 t (by
    refine XS.iloadN X0.here hx rfl (hb hby dj65_132_0) rfl ?_
    refine XS.ifNo X0.here hx rfl (hb hby dj65_132_1) rfl ((if0 _ _).trans (teq (show (0 : Int32) = (0 : Int32) from (by decide))).2) ?_
    refine XS.iloadN X0.here hx rfl (hb hby dj65_132_4) rfl ?_
    refine XS.aloadN X0.here hx rfl (hb hby dj65_132_5) rfl rfl ?_
    show Sq p e below (s₁.setTop (mkF m 6 #[sR v1, sI 0, sI to] [(.ref v1), (.int to)])) _
    refine X0.arraylength hx (by rw [e0]; exact Ar673.1) (State.isArrayOf_alike hZ.alike Ar673.2.1) (g := (mkF m 6 #[sR v1, sI 0, sI to] [(.ref v1), (.int to)])) rfl rfl (hb hby dj65_132_6) _ ?_
    rw [len_of S673 N673]
    show Sq p e below (s₁.setTop (mkF m 7 #[sR v1, sI 0, sI to] [(vI 16), (.int to)])) _
    refine XS.icmpNo X0.here hx rfl (hb hby dj65_132_7) rfl (feq (show ¬ (to = (16 : Int32)) from qn)).1 ?_
    refine XS.aloadN X0.here hx rfl (hb hby dj65_132_10) rfl rfl ?_
    refine XS.iloadN X0.here hx rfl (hb hby dj65_132_11) rfl ?_
    refine XS.iloadN X0.here hx rfl (hb hby dj65_132_12) rfl ?_
    exact st674 _ k)
  have Z677 : n0 ≤ T674.heap.size := Nat.le_trans Z0 K674.1
  have K678 : Keep h0 T674.heap [] := (Keep.refl h0 []).trans K674 (all0)
  obtain ⟨fs679, hr679, hrun679, hended679, hW679, hsame679⟩ := X674.leave (v := some (.ref t674)) (fun h => by rw [Bd.returns] at h; cases h)
  refine ⟨_, _, pre0 _ (P676 _ ?_), hrun679, hended679, _, _, rfl, ?_, ⟨⟨_, rfl⟩, hW679, hsame679.mono (oB rfl) (oB rfl)⟩⟩
  · exact retOut X674 hx Bd.returns rfl (Or.inr (Or.inr (Or.inr (Or.inr ⟨rfl, rfl, rfl⟩)))) (hb hby dj65_132_16) hr679
  · show Q_cor0 Z cs to h0 n0 _ T674.heap _
    exact ⟨t674, _, rfl, N675, K678, A674, s674⟩
theorem ef_crb1 (m : MethodId) (x0 : Addr) (x1 : Int32) (x2 : Int32) : entryFrame m #[(.ref x0), (.int x1), (.int x2)] 5 = mkF m 0 #[sR x0, sI x1, sI x2, sU, sU] [] := by (first | (simp [entryFrame, mkF, argsToLocals, Value.category]; done) | rfl)
def Q_crb1 (Z : State) (cs : List Int32) (to : Int32) (h0 : Heap) (n0 : Nat) (v : Option Value) (h : Heap) (L : List Loc) : Prop := ∃ (t : Addr) (k : ClassId), v = some (.ref t) ∧ Fr n0 L ∧ Keep h0 h [] ∧ Arv Z h t k .byte to ((own_by true cs).map Value.int) (vI 0) ∧ h0.size ≤ t
theorem rm_crb1 (l : Launch) (Z : State) (a0 : Array Value) (hw : Tb a0 Z) (ws : List Jvm.Cond) (v1 : Addr) (kv : ClassId) (cs : List Int32) (to : Int32)  (h0 : Heap) (n0 : Nat) (Z0 : n0 ≤ h0.size) (A_v1 : Arv Z h0 v1 kv .byte (32 : Int32) ((own_by true cs).map Value.int) (vI 0)) (hto : to = Int32.ofNat (own_by true cs).length) (hc6 : cs.length ≤ 6) :
    MF l Z h0 y_31 j65_133 5 (some (.array .byte)) ws (rM 1 1 12 18) #[(.ref v1), (vI 0), (.int to)] (Q_crb1 Z cs to h0 n0) := by
  refine MetFree.of_bodySF (plainFor_of_name pn_java_util_Arrays) hisR ?_
  intro p e s m args below meth c s₁ Bd hml hP hK
  obtain ⟨rfl, hZ, hh⟩ := hP
  have hx := Bd.exec
  have hby := Bd.bytes
  have hown : s.vm.findClass "java/util/Arrays" = some m.cls := findClass_of_methodNamed Bd.named
  have X0 : Stand p l e (rM 1 1 12 18) s m #[(.ref v1), (vI 0), (.int to)] below meth c s₁ [] 0 0 := Stand.of_body Bd
  have e0 : s₁.heap = h0 := by rw [← hh, Bd.state]; rfl
  have N0 := Fr.nil n0
  obtain ⟨B0, pre0, P0⟩ : ∃ B, Rg p e below B (s₁.setTop (entryFrame m #[(.ref v1), (vI 0), (.int to)] 5)) ∧ Rg p e below (s₁.setTop (mkF m 0 #[sR v1, sI 0, sI to, sU, sU] [])) B := ⟨_, fun t k => castTop (ef_crb1 m v1 (0 : Int32) to) k, fun t k => k⟩
  have T9 := own_to (own_byB true hc6)
  rw [← hto] at T9
  obtain ⟨_, _, ⟨T680, L680, k680, n680⟩, -, X680, ⟨Lc680, hQ680, l680, y680, z680⟩, st680⟩ := Jvm.LawKit.callS X0 hx (y := y_30) hown (mvT hZ (oH hw 163 rfl)) (mvT hZ (oH hw 164 rfl)) (mvT hZ (oH hw 158 rfl)) (mvT hZ (oH hw 165 rfl)) (by decide) (backOf (W := 0) (rm_ckl l Z a0 hw [] to h0 n0 Z0 T9.1) hZ (oH hw 165 rfl) (oH hw 158 rfl) (by decide) (by decide)) (g := (mkF m 2 #[sR v1, sI 0, sI to, sU, sU] [(.int to), (vI 0)])) rfl (by rw [hml]; rfl) (argsL := [(vI 0), (.int to)]) (rest := []) (lenOf pd5 rfl) rfl (oW rfl) (hb hby dj65_133_2) (fun _ _ => ⟨rfl, e0, (oB rfl : 0 + 0 ≤ _), (oB rfl : 0 + 0 ≤ _)⟩)
  dsimp only [Pt.U, Pt.locs, Pt.cells, Pt.slots] at X680 l680 y680 z680 st680 hQ680
  subst l680 y680 z680
  obtain ⟨rfl, Nq680, e680⟩ := hQ680
  have N681 := Fr.app N0 Nq680
  have P682 : Rg p e below (T680.setTop (mkF m 5 #[sR v1, sI 0, sI to, sU, sU] [])) B0 := fun t k => P0 t (by
    refine XS.iloadN X0.here hx rfl (hb hby dj65_133_0) rfl ?_
    refine XS.iloadN X0.here hx rfl (hb hby dj65_133_1) rfl ?_
    exact st680 _ k)
  obtain ⟨tz, hz⟩ : ∃ z : Int32, z = (to - (0 : Int32)) := ⟨_, rfl⟩
  have P683 : Rg p e below (T680.setTop (mkF m 9 #[sR v1, sI 0, sI to, .val (.int (to - (0 : Int32))), sU] [])) B0 := fun t k => P682 t (by
    refine XS.iloadN X680.here hx rfl (hb hby dj65_133_5) rfl ?_
    refine XS.iloadN X680.here hx rfl (hb hby dj65_133_6) rfl ?_
    refine XS.isub X680.here hx rfl (hb hby dj65_133_7) rfl ?_
    refine XS.istoreN X680.here hx rfl (hb hby dj65_133_8) rfl (l' := #[sR v1, sI 0, sI to, .val (.int (to - (0 : Int32))), sU]) rfl ?_
    show Sq p e below (T680.setTop (mkF m 9 #[sR v1, sI 0, sI to, .val (.int (to - (0 : Int32))), sU] [])) _
    exact k)
  have P684 : Rg p e below (T680.setTop (mkF m 9 #[sR v1, sI 0, sI to, sI tz, sU] [])) B0 := fun t k => P683 t (by rw [hz] at k; exact k)
  have hz2 : to = tz := (own_sub0 to).trans hz.symm
  subst hz2
  obtain ⟨T685, h685, k685, X685, e685, E685, A685, st685⟩ := newP X680 hx hZ (oH hw 25 rfl) e680 (g := (mkF m 10 #[sR v1, sI 0, sI to, sI to, sU] [(.int to)])) rfl (hb hby dj65_133_10) rfl T9.1 (cap := 12) T9.2.2.2.2.2 (by decide) (by decide) (by decide)
  obtain ⟨b685, g685⟩ : ∃ z, z = h0.size := ⟨_, rfl⟩
  rw [← g685] at A685 st685
  have g_b685 : n0 ≤ b685 := Nat.le_trans Z0 (Nat.le_of_eq g685.symm)
  have sz_b685 : h0.size ≤ b685 := Nat.le_trans (Keep.refl h0 []).1 (Nat.le_of_eq g685.symm)
  have P686 : Rg p e below (T685.setTop (mkF m 12 #[sR v1, sI 0, sI to, sI to, sU] [(.ref b685)])) B0 := fun t k => P684 t (by
    refine XS.iloadN X680.here hx rfl (hb hby dj65_133_9) rfl ?_
    exact st685 _ k)
  have Z687 : n0 ≤ h685.size := Nat.le_trans Z0 E685.1
  have K688 : Keep h0 h685 [] := (Keep.refl h0 []).ext E685
  have v689 : Arv Z h685 b685 k685 .byte to ([] : List Value) (vI 0) := Arv.new A685 T9.1
  have A8 : Arv Z h685 b685 k685 .byte to (([] : List Int32).map Value.int) (vI 0) := v689
  have f690 := (A_v1.ext E685)
  obtain ⟨cl691, Ar691, -, S691, N691, -, -⟩ := id f690
  obtain ⟨_, _, ⟨T692, L692, k692, n692⟩, -, X692, ⟨Lc692, hQ692, l692, y692, z692⟩, st692⟩ := Jvm.LawKit.callS X685 hx (y := y_29) hown (mvT hZ (oH hw 166 rfl)) (mvT hZ (oH hw 167 rfl)) (mvT hZ (oH hw 168 rfl)) (mvT hZ (oH hw 169 rfl)) (by decide) (backOf (W := 4) (rm_min l Z a0 hw [] (32 : Int32) to h685 n0 Z687 (by show to < (32 : Int32); exact T9.2.2.2.2.1)) hZ (oH hw 169 rfl) (oH hw 168 rfl) (by decide) (by decide)) (g := (mkF m 24 #[sR v1, sI 0, sI to, sI to, sR b685] [(.int to), (vI 32), (vI 0), (.ref b685), (vI 0), (.ref v1)])) rfl (by rw [hml]; rfl) (argsL := [(vI 32), (.int to)]) (rest := [(vI 0), (.ref b685), (vI 0), (.ref v1)]) (lenOf pd20 rfl) rfl (oW rfl) (hb hby dj65_133_24) (fun _ _ => ⟨rfl, e685, (oB rfl : 1 + 0 ≤ _), (oB rfl : 12 + 0 ≤ _)⟩)
  dsimp only [Pt.U, Pt.locs, Pt.cells, Pt.slots] at X692 l692 y692 z692 st692 hQ692
  subst l692 y692 z692
  obtain ⟨rfl, Nq692, e692⟩ := hQ692
  have N693 := Fr.app N681 Nq692
  have P694 : Rg p e below (T692.setTop (mkF m 27 #[sR v1, sI 0, sI to, sI to, sR b685] [(.int to), (vI 0), (.ref b685), (vI 0), (.ref v1)])) B0 := fun t k => P686 t (by
    refine XS.astore X685.here hx rfl (hb hby dj65_133_12) rfl rfl (l' := #[sR v1, sI 0, sI to, sI to, sR b685]) rfl ?_
    refine XS.aloadN X685.here hx rfl (hb hby dj65_133_14) rfl rfl ?_
    refine XS.iloadN X685.here hx rfl (hb hby dj65_133_15) rfl ?_
    refine XS.aload X685.here hx rfl (hb hby dj65_133_16) rfl rfl ?_
    refine XS.iconst X685.here hx rfl (hb hby dj65_133_18) ?_
    refine XS.aloadN X685.here hx rfl (hb hby dj65_133_19) rfl rfl ?_
    show Sq p e below (T685.setTop (mkF m 20 #[sR v1, sI 0, sI to, sI to, sR b685] [(.ref v1), (vI 0), (.ref b685), (vI 0), (.ref v1)])) _
    refine X685.arraylength hx (by rw [e685]; exact Ar691.1) (State.isArrayOf_alike hZ.alike Ar691.2.1) (g := (mkF m 20 #[sR v1, sI 0, sI to, sI to, sR b685] [(.ref v1), (vI 0), (.ref b685), (vI 0), (.ref v1)])) rfl rfl (hb hby dj65_133_20) _ ?_
    rw [len_of S691 N691]
    show Sq p e below (T685.setTop (mkF m 21 #[sR v1, sI 0, sI to, sI to, sR b685] [(vI 32), (vI 0), (.ref b685), (vI 0), (.ref v1)])) _
    refine XS.iloadN X685.here hx rfl (hb hby dj65_133_21) rfl ?_
    refine XS.isub X685.here hx rfl (hb hby dj65_133_22) rfl ?_
    refine XS.iloadN X685.here hx rfl (hb hby dj65_133_23) rfl ?_
    exact st692 _ k)
  obtain ⟨T695, h695, L695, X695, e695, Nq695, K695, A695, st695⟩ := own_copy (W := 0) X692 hx hZ hown (oH hw 170 rfl) (oH hw 124 rfl) (oH hw 122 rfl) (oH hw 123 rfl) e692 (ss := (own_by true cs)) (ds := ([] : List Int32)) f690 A8 hto rfl (by have := own_byB true hc6; show _ ≤ 32; omega) (by rw [own_clN hto (by have := own_byB true hc6; omega)]; simp) (by have := own_byB true hc6; simp only [List.length_nil]; omega) g_b685 (g := (mkF m 27 #[sR v1, sI 0, sI to, sI to, sR b685] [(.int to), (vI 0), (.ref b685), (vI 0), (.ref v1)])) rfl (by rw [hml]; rfl) rfl (hb hby dj65_133_27) (by decide) (oW rfl) (by decide)
  have N696 := Fr.app N693 Nq695
  have P697 : Rg p e below (T695.setTop (mkF m 30 #[sR v1, sI 0, sI to, sI to, sR b685] [])) B0 := fun t k => P694 t (by
    exact st695 _ k)
  have Z698 : n0 ≤ h695.size := Nat.le_trans Z687 K695.1
  have K699 : Keep h0 h695 [] := K688.trans K695 ((allS (Or.inr sz_b685) all0))
  obtain ⟨fs700, hr700, hrun700, hended700, hW700, hsame700⟩ := X695.leave (v := some (.ref b685)) (fun h => by rw [Bd.returns] at h; cases h)
  refine ⟨_, _, pre0 _ (P697 _ ?_), hrun700, hended700, _, _, rfl, ?_, ⟨⟨_, rfl⟩, hW700, hsame700.mono (oB rfl) (oB rfl)⟩⟩
  · show Sq p e below (T695.setTop (mkF m 30 #[sR v1, sI 0, sI to, sI to, sR b685] [])) _
    refine XS.aload X695.here hx rfl (hb hby dj65_133_30) rfl rfl ?_
    exact retOut X695 hx Bd.returns rfl (Or.inr (Or.inr (Or.inr (Or.inr ⟨rfl, rfl, rfl⟩)))) (hb hby dj65_133_32) hr700
  · show Q_crb1 Z cs to h0 n0 _ T695.heap _
    rw [e695]
    exact ⟨b685, _, rfl, N696, K699, A695, sz_b685⟩
theorem ef_cor1 (m : MethodId) (x0 : Addr) (x1 : Int32) (x2 : Int32) : entryFrame m #[(.ref x0), (.int x1), (.int x2)] 3 = mkF m 0 #[sR x0, sI x1, sI x2] [] := by (first | (simp [entryFrame, mkF, argsToLocals, Value.category]; done) | rfl)
def Q_cor1 (Z : State) (cs : List Int32) (to : Int32) (h0 : Heap) (n0 : Nat) (v : Option Value) (h : Heap) (L : List Loc) : Prop := ∃ (t : Addr) (k : ClassId), v = some (.ref t) ∧ Fr n0 L ∧ Keep h0 h [] ∧ Arv Z h t k .byte to ((own_by true cs).map Value.int) (vI 0) ∧ h0.size ≤ t
theorem rm_cor1 (l : Launch) (Z : State) (a0 : Array Value) (hw : Tb a0 Z) (ws : List Jvm.Cond) (v1 : Addr) (kv : ClassId) (cs : List Int32) (to : Int32)  (h0 : Heap) (n0 : Nat) (Z0 : n0 ≤ h0.size) (A_v1 : Arv Z h0 v1 kv .byte (32 : Int32) ((own_by true cs).map Value.int) (vI 0)) (hto : to = Int32.ofNat (own_by true cs).length) (hc6 : cs.length ≤ 6) :
    MF l Z h0 y_32 j65_132 3 (some (.array .byte)) ws (rM 2 1 12 34) #[(.ref v1), (vI 0), (.int to)] (Q_cor1 Z cs to h0 n0) := by
  refine MetFree.of_bodySF (plainFor_of_name pn_java_util_Arrays) hisR ?_
  intro p e s m args below meth c s₁ Bd hml hP hK
  obtain ⟨rfl, hZ, hh⟩ := hP
  have hx := Bd.exec
  have hby := Bd.bytes
  have hown : s.vm.findClass "java/util/Arrays" = some m.cls := findClass_of_methodNamed Bd.named
  have X0 : Stand p l e (rM 2 1 12 34) s m #[(.ref v1), (vI 0), (.int to)] below meth c s₁ [] 0 0 := Stand.of_body Bd
  have e0 : s₁.heap = h0 := by rw [← hh, Bd.state]; rfl
  have N0 := Fr.nil n0
  obtain ⟨B0, pre0, P0⟩ : ∃ B, Rg p e below B (s₁.setTop (entryFrame m #[(.ref v1), (vI 0), (.int to)] 3)) ∧ Rg p e below (s₁.setTop (mkF m 0 #[sR v1, sI 0, sI to] [])) B := ⟨_, fun t k => castTop (ef_cor1 m v1 (0 : Int32) to) k, fun t k => k⟩
  have T9 := own_to (own_byB true hc6)
  rw [← hto] at T9
  have qn := T9.2.2.1
  obtain ⟨cl701, Ar701, -, S701, N701, -, -⟩ := id A_v1
  obtain ⟨_, _, ⟨T702, L702, k702, n702⟩, -, X702, ⟨Lc702, hQ702, l702, y702, z702⟩, st702⟩ := Jvm.LawKit.callS X0 hx (y := y_31) hown (mvT hZ (oH hw 160 rfl)) (mvT hZ (oH hw 161 rfl)) (mvT hZ (oH hw 158 rfl)) (mvT hZ (oH hw 162 rfl)) (by decide) (backOf (W := 0) (rm_crb1 l Z a0 hw [] v1 kv cs to h0 n0 Z0 A_v1 hto hc6) hZ (oH hw 162 rfl) (oH hw 158 rfl) (by decide) (by decide)) (g := (mkF m 13 #[sR v1, sI 0, sI to] [(.int to), (vI 0), (.ref v1)])) rfl (by rw [hml]; rfl) (argsL := [(.ref v1), (vI 0), (.int to)]) (rest := []) (lenOf pd21 rfl) rfl (oW rfl) (hb hby dj65_132_13) (fun _ _ => ⟨rfl, e0, (oB rfl : 0 + 1 ≤ _), (oB rfl : 0 + 12 ≤ _)⟩)
  dsimp only [Pt.U, Pt.locs, Pt.cells, Pt.slots] at X702 l702 y702 z702 st702 hQ702
  subst l702 y702 z702
  obtain ⟨t702, k702, rfl, Nq702, K702, A702, s702⟩ := hQ702
  have N703 := Fr.app N0 Nq702
  have P704 : Rg p e below (T702.setTop (mkF m 16 #[sR v1, sI 0, sI to] [(.ref t702)])) B0 := fun t k => P0 t (by
    refine XS.iloadN X0.here hx rfl (hb hby dj65_132_0) rfl ?_
    refine XS.ifNo X0.here hx rfl (hb hby dj65_132_1) rfl ((if0 _ _).trans (teq (show (0 : Int32) = (0 : Int32) from (by decide))).2) ?_
    refine XS.iloadN X0.here hx rfl (hb hby dj65_132_4) rfl ?_
    refine XS.aloadN X0.here hx rfl (hb hby dj65_132_5) rfl rfl ?_
    show Sq p e below (s₁.setTop (mkF m 6 #[sR v1, sI 0, sI to] [(.ref v1), (.int to)])) _
    refine X0.arraylength hx (by rw [e0]; exact Ar701.1) (State.isArrayOf_alike hZ.alike Ar701.2.1) (g := (mkF m 6 #[sR v1, sI 0, sI to] [(.ref v1), (.int to)])) rfl rfl (hb hby dj65_132_6) _ ?_
    rw [len_of S701 N701]
    show Sq p e below (s₁.setTop (mkF m 7 #[sR v1, sI 0, sI to] [(vI 32), (.int to)])) _
    refine XS.icmpNo X0.here hx rfl (hb hby dj65_132_7) rfl (feq (show ¬ (to = (32 : Int32)) from qn)).1 ?_
    refine XS.aloadN X0.here hx rfl (hb hby dj65_132_10) rfl rfl ?_
    refine XS.iloadN X0.here hx rfl (hb hby dj65_132_11) rfl ?_
    refine XS.iloadN X0.here hx rfl (hb hby dj65_132_12) rfl ?_
    exact st702 _ k)
  have Z705 : n0 ≤ T702.heap.size := Nat.le_trans Z0 K702.1
  have K706 : Keep h0 T702.heap [] := (Keep.refl h0 []).trans K702 (all0)
  obtain ⟨fs707, hr707, hrun707, hended707, hW707, hsame707⟩ := X702.leave (v := some (.ref t702)) (fun h => by rw [Bd.returns] at h; cases h)
  refine ⟨_, _, pre0 _ (P704 _ ?_), hrun707, hended707, _, _, rfl, ?_, ⟨⟨_, rfl⟩, hW707, hsame707.mono (oB rfl) (oB rfl)⟩⟩
  · exact retOut X702 hx Bd.returns rfl (Or.inr (Or.inr (Or.inr (Or.inr ⟨rfl, rfl, rfl⟩)))) (hb hby dj65_132_16) hr707
  · show Q_cor1 Z cs to h0 n0 _ T702.heap _
    exact ⟨t702, _, rfl, N703, K706, A702, s702⟩
theorem dj42_150_0 : decode j42_150 0 = .ok (.aload_n 0, 1) := by decide +kernel
theorem dj42_150_1 : decode j42_150 1 = .ok (.invokespecial 1, 3) := by decide +kernel
theorem dj42_150_4 : decode j42_150 4 = .ok (.aload_n 1, 1) := by decide +kernel
theorem dj42_150_5 : decode j42_150 5 = .ok (.invokevirtual 552, 3) := by decide +kernel
theorem pd22 : parseMethodDescriptor "()[B" = some ⟨[], some (.array .byte)⟩ := by decide +kernel
theorem dj42_150_8 : decode j42_150 8 = .ok (.astore_n 3, 1) := by decide +kernel
theorem dj42_150_9 : decode j42_150 9 = .ok (.aload_n 1, 1) := by decide +kernel
theorem dj42_150_10 : decode j42_150 10 = .ok (.invokevirtual 549, 3) := by decide +kernel
theorem dj42_150_13 : decode j42_150 13 = .ok (.istore 4, 2) := by decide +kernel
theorem dj42_150_15 : decode j42_150 15 = .ok (.aload_n 1, 1) := by decide +kernel
theorem dj42_150_16 : decode j42_150 16 = .ok (.invokevirtual 1047, 3) := by decide +kernel
theorem dj42_150_19 : decode j42_150 19 = .ok (.ifCond .eq 22, 3) := by decide +kernel
theorem dj42_150_22 : decode j42_150 22 = .ok (.aload_n 0, 1) := by decide +kernel
theorem dj42_150_23 : decode j42_150 23 = .ok (.iconst 0, 1) := by decide +kernel
theorem dj42_150_24 : decode j42_150 24 = .ok (.putfield 15, 3) := by decide +kernel
theorem dj42_150_27 : decode j42_150 27 = .ok (.aload_n 0, 1) := by decide +kernel
theorem dj42_150_28 : decode j42_150 28 = .ok (.aload_n 3, 1) := by decide +kernel
theorem dj42_150_29 : decode j42_150 29 = .ok (.iconst 0, 1) := by decide +kernel
theorem dj42_150_30 : decode j42_150 30 = .ok (.iload 4, 2) := by decide +kernel
theorem dj42_150_32 : decode j42_150 32 = .ok (.invokestatic 54, 3) := by decide +kernel
theorem dj42_150_35 : decode j42_150 35 = .ok (.putfield 9, 3) := by decide +kernel
theorem dj42_150_38 : decode j42_150 38 = .ok (.goto 59, 3) := by decide +kernel
theorem dj42_150_97 : decode j42_150 97 = .ok (.return_, 1) := by decide +kernel
theorem ef_sia0 (m : MethodId) (x0 : Addr) (x1 : Addr) : entryFrame m #[(.ref x0), (.ref x1), .null] 5 = mkF m 0 #[sR x0, sR x1, .val .null, sU, sU] [] := by (first | (simp [entryFrame, mkF, argsToLocals, Value.category]; done) | rfl)
def Q_sia0 (Z : State) (a1 : Addr) (bc : List Int32) (h0 : Heap) (n0 : Nat) (v : Option Value) (h : Heap) (L : List Loc) : Prop := v = none ∧ Fr n0 L ∧ Keep h0 h [a1] ∧ Exa Z h a1 nS ∧ Fld Z h a1 nS "coder" "B" (vI 0) ∧ ∃ (t : Addr) (k : ClassId) (N : Int32), Fld Z h a1 nS "value" "[B" (.ref t) ∧ Arv Z h t k .byte N ((own_by false bc).map Value.int) (vI 0) ∧ N = Int32.ofNat (own_by false bc).length
theorem rm_sia0 (l : Launch) (Z : State) (a0 : Array Value) (hw : Tb a0 Z) (ws : List Jvm.Cond) (a1 : Addr) (b1 v1 : Addr) (kv : ClassId) (bc : List Int32) (G1 : Int32) (G2 : Value) (h0 : Heap) (n0 : Nat) (Z0 : n0 ≤ h0.size) (g_a1 : n0 ≤ a1) (E_a1 : Exa Z h0 a1 nS) (Fv : Fld Z h0 a1 nS "value" "[B" .null) (Fk : Fld Z h0 a1 nS "coder" "B" (vI 0)) (g_b1 : n0 ≤ b1) (g_v1 : n0 ≤ v1) (E_b1 : Exa Z h0 b1 nB) (F_value : Fld Z h0 b1 nA "value" "[B" (.ref v1)) (F_coder : Fld Z h0 b1 nA "coder" "B" (vI 0)) (F_count : Fld Z h0 b1 nA "count" "I" (.int (Int32.ofNat bc.length))) (F_maybe : Fld Z h0 b1 nA "maybeLatin1" "Z" (vI 0)) (A_v1 : Arv Z h0 v1 kv .byte (16 : Int32) ((own_by false bc).map Value.int) (vI 0)) (E_v1 : Exa Z h0 v1 "[B") (hb6 : bc.length ≤ 6) (Sg : oSg Z G1) (P5 : ¬ (G1 = (0 : Int32))) (Sf : oSf Z G2) (hG2 : G2.isRef = true) (Sa : oSa Z) (Sh : oSh Z) (Sl : oSl Z) (Ol : Old Z n0 h0) :
    MF l Z h0 y_33 j42_150 5 none ws (rM 3 1 12 49) #[(.ref a1), (.ref b1), .null] (Q_sia0 Z a1 bc h0 n0) := by
  refine MetFree.of_bodySF (plainFor_of_name pn_java_lang_String) hisR ?_
  intro p e s m args below meth c s₁ Bd hml hP hK
  obtain ⟨rfl, hZ, hh⟩ := hP
  have hx := Bd.exec
  have hby := Bd.bytes
  have hown : s.vm.findClass "java/lang/String" = some m.cls := findClass_of_methodNamed Bd.named
  have hnm := (name_of_methodNamed Bd.named Bd.method).1
  have X0 : Stand p l e (rM 3 1 12 49) s m #[(.ref a1), (.ref b1), .null] below meth c s₁ [] 0 0 := Stand.of_body Bd
  have e0 : s₁.heap = h0 := by rw [← hh, Bd.state]; rfl
  have N0 := Fr.nil n0
  obtain ⟨B0, pre0, P0⟩ : ∃ B, Rg p e below B (s₁.setTop (entryFrame m #[(.ref a1), (.ref b1), .null] 5)) ∧ Rg p e below (s₁.setTop (mkF m 0 #[sR a1, sR b1, .val .null, sU, sU] [])) B := ⟨_, fun t k => castTop (ef_sia0 m a1 b1) k, fun t k => k⟩
  obtain ⟨T708, X708, e708, st708⟩ := initO X0 hx hZ hown (oH hw 17 rfl) (oH hw 18 rfl) (oH hw 19 rfl) e0 (g := (mkF m 1 #[sR a1, sR b1, .val .null, sU, sU] [(.ref a1)])) rfl (by rw [hml]; rfl) rfl (hb hby dj42_150_1) (by decide) (W := 0) (oW rfl) (by decide)
  have P709 : Rg p e below (T708.setTop (mkF m 4 #[sR a1, sR b1, .val .null, sU, sU] [])) B0 := fun t k => P0 t (by
    refine XS.aloadN X0.here hx rfl (hb hby dj42_150_0) rfl rfl ?_
    exact st708 _ k)
  obtain ⟨cq710, kq710, q710a, q710b, q710c⟩ := isOf hZ e708 E_b1
  obtain ⟨_, _, ⟨T710, L710, k710, n710⟩, -, X710, ⟨Lc710, hQ710, l710, y710, z710⟩, st710⟩ := X708.virtualBack hx (y := y_26) (z := y_26) hown (mvT hZ (oH hw 138 rfl)) (mvT hZ (oH hw 139 rfl)) (notFace_of_selects (args := #[]) (mvT hZ (oH hw 141 rfl))) (mvT hZ (oH hw 141 rfl)) (mvT hZ (oH hw 140 rfl)) (by decide) (backOf (W := 0) (rm_gvl l Z a0 hw [] b1 v1 h0 n0 Z0 F_value) hZ (oH hw 142 rfl) (oH hw 70 rfl) (by decide) (by decide)) q710a q710c (g := (mkF m 5 #[sR a1, sR b1, .val .null, sU, sU] [(.ref b1)])) rfl (by rw [hml]; rfl) (Steps.refl _) (argsL := []) (rest := []) (lenOf pd22 rfl) rfl (oW rfl) (hb hby dj42_150_5) (fun _ _ => ⟨rfl, e708, (oB rfl : 0 + 0 ≤ _), (oB rfl : 0 + 0 ≤ _)⟩)
  dsimp only [Pt.U, Pt.locs, Pt.cells, Pt.slots] at X710 l710 y710 z710 st710 hQ710
  subst l710 y710 z710
  obtain ⟨rfl, Nq710, e710⟩ := hQ710
  have N711 := Fr.app N0 Nq710
  have P712 : Rg p e below (T710.setTop (mkF m 8 #[sR a1, sR b1, .val .null, sU, sU] [(.ref v1)])) B0 := fun t k => P709 t (by
    refine XS.aloadN X708.here hx rfl (hb hby dj42_150_4) rfl rfl ?_
    exact st710.trans k)
  obtain ⟨cq713, kq713, q713a, q713b, q713c⟩ := isOf hZ e710 E_b1
  obtain ⟨_, _, ⟨T713, L713, k713, n713⟩, -, X713, ⟨Lc713, hQ713, l713, y713, z713⟩, st713⟩ := X710.virtualBack hx (y := y_27) (z := y_28) hown (mvT hZ (oH hw 143 rfl)) (mvT hZ (oH hw 144 rfl)) (own_nfSel (y2 := y_21) rfl (args := #[]) (mvT hZ (oH hw 103 rfl))) (mvT hZ (oH hw 146 rfl)) (mvT hZ (oH hw 147 rfl)) (by decide) (backOf (W := 0) (rm_bln l Z a0 hw [] b1 (Int32.ofNat bc.length) h0 n0 Z0 E_b1 F_count) hZ (oH hw 148 rfl) (oH hw 62 rfl) (by decide) (by decide)) q713a q713c (g := (mkF m 10 #[sR a1, sR b1, .val .null, sR v1, sU] [(.ref b1)])) rfl (by rw [hml]; rfl) (Steps.refl _) (argsL := []) (rest := []) (lenOf pd16 rfl) rfl (oW rfl) (hb hby dj42_150_10) (fun _ _ => ⟨rfl, e710, (oB rfl : 0 + 0 ≤ _), (oB rfl : 0 + 0 ≤ _)⟩)
  dsimp only [Pt.U, Pt.locs, Pt.cells, Pt.slots] at X713 l713 y713 z713 st713 hQ713
  subst l713 y713 z713
  obtain ⟨rfl, Nq713, e713⟩ := hQ713
  have N714 := Fr.app N711 Nq713
  have P715 : Rg p e below (T713.setTop (mkF m 13 #[sR a1, sR b1, .val .null, sR v1, sU] [(.int (Int32.ofNat bc.length))])) B0 := fun t k => P712 t (by
    refine XS.astoreN X710.here hx rfl (hb hby dj42_150_8) rfl rfl (l' := #[sR a1, sR b1, .val .null, sR v1, sU]) rfl ?_
    refine XS.aloadN X710.here hx rfl (hb hby dj42_150_9) rfl rfl ?_
    exact st713.trans k)
  obtain ⟨cq716, kq716, q716a, q716b, q716c⟩ := isOf hZ e713 E_b1
  obtain ⟨_, _, ⟨T716, L716, k716, n716⟩, -, X716, ⟨Lc716, hQ716, l716, y716, z716⟩, st716⟩ := X713.virtualBack hx (y := y_17) (z := y_17) hown (mvT hZ (oH hw 151 rfl)) (mvT hZ (oH hw 152 rfl)) (notFace_of_selects (args := #[]) (mvT hZ (oH hw 154 rfl))) (mvT hZ (oH hw 154 rfl)) (mvT hZ (oH hw 153 rfl)) (by decide) (backOf (W := 0) (rm_bilfalse l Z a0 hw [] b1 G1 G2 h0 n0 Z0 F_coder Sg P5 Sf hG2 Sa Sh Sl Ol) hZ (oH hw 155 rfl) (oH hw 70 rfl) (by decide) (by decide)) q716a q716c (g := (mkF m 16 #[sR a1, sR b1, .val .null, sR v1, .val (.int (Int32.ofNat bc.length))] [(.ref b1)])) rfl (by rw [hml]; rfl) (Steps.refl _) (argsL := []) (rest := []) (lenOf pd11 rfl) rfl (oW rfl) (hb hby dj42_150_16) (fun _ _ => ⟨rfl, e713, (oB rfl : 0 + 0 ≤ _), (oB rfl : 0 + 0 ≤ _)⟩)
  dsimp only [Pt.U, Pt.locs, Pt.cells, Pt.slots] at X716 l716 y716 z716 st716 hQ716
  subst l716 y716 z716
  obtain ⟨rfl, Nq716, e716⟩ := hQ716
  have N717 := Fr.app N714 Nq716
  have P718 : Rg p e below (T716.setTop (mkF m 19 #[sR a1, sR b1, .val .null, sR v1, .val (.int (Int32.ofNat bc.length))] [(vI 1)])) B0 := fun t k => P715 t (by
    refine XS.istore X713.here hx rfl (hb hby dj42_150_13) rfl (l' := #[sR a1, sR b1, .val .null, sR v1, .val (.int (Int32.ofNat bc.length))]) rfl ?_
    refine XS.aloadN X713.here hx rfl (hb hby dj42_150_15) rfl rfl ?_
    exact st716.trans k)
  have L2 := own_byL bc
  obtain ⟨T719, h719, X719, e719, W719, st719⟩ := putFN X716 hx hZ hown (oH hw 32 rfl) Via.refl e716 Fk E_a1 (Or.inr ⟨(oH hw 33 rfl), rfl, hnm⟩) (oH hw 7 rfl) (ty := .byte) (v' := .int (0 : Int32)) (by decide) rfl rfl (g := (mkF m 24 #[sR a1, sR b1, .val .null, sR v1, .val (.int (Int32.ofNat bc.length))] [(vI 0), (.ref a1)])) rfl rfl (hb hby dj42_150_24)
  have P720 : Rg p e below (T719.setTop (mkF m 27 #[sR a1, sR b1, .val .null, sR v1, .val (.int (Int32.ofNat bc.length))] [])) B0 := fun t k => P718 t (by
    refine XS.ifNo X716.here hx rfl (hb hby dj42_150_19) rfl ((if0 _ _).trans (feq (show ¬ ((1 : Int32) = (0 : Int32)) from (by decide))).1) ?_
    refine XS.aloadN X716.here hx rfl (hb hby dj42_150_22) rfl rfl ?_
    refine XS.iconst X716.here hx rfl (hb hby dj42_150_23) ?_
    exact st719 _ k)
  have f721 := Fk.same W719
  have N722 := Fr.snoc X719 N717 g_a1
  have Z723 : n0 ≤ h719.size := Nat.le_trans Z0 (Keep.of_wr W719).1
  have K724 : Keep h0 h719 [a1] := (Keep.refl h0 [a1]).wr W719 (Or.inl (List.mem_of_getElem? (i := 0) rfl))
  have O725 : Old Z n0 h719 := Ol.wr W719 g_a1
  have f726 := (A_v1.other W719 (Exa.ne E_v1 E_a1 (by decide)))
  obtain ⟨_, _, ⟨T727, L727, k727, n727⟩, -, X727, ⟨Lc727, hQ727, l727, y727, z727⟩, st727⟩ := Jvm.LawKit.callS X719 hx (y := y_32) hown (mvT hZ (oH hw 156 rfl)) (mvT hZ (oH hw 157 rfl)) (mvT hZ (oH hw 158 rfl)) (mvT hZ (oH hw 159 rfl)) (by decide) (backOf (W := 1) (rm_cor0 l Z a0 hw [] v1 kv bc (Int32.ofNat bc.length) h719 n0 Z723 f726 (by rw [L2.1]) hb6) hZ (oH hw 159 rfl) (oH hw 158 rfl) (by decide) (by decide)) (g := (mkF m 32 #[sR a1, sR b1, .val .null, sR v1, .val (.int (Int32.ofNat bc.length))] [(.int (Int32.ofNat bc.length)), (vI 0), (.ref v1), (.ref a1)])) rfl (by rw [hml]; rfl) (argsL := [(.ref v1), (vI 0), (.int (Int32.ofNat bc.length))]) (rest := [(.ref a1)]) (lenOf pd21 rfl) rfl (oW rfl) (hb hby dj42_150_32) (fun _ _ => ⟨rfl, e719, (oB rfl : 0 + 1 ≤ _), (oB rfl : 0 + 12 ≤ _)⟩)
  dsimp only [Pt.U, Pt.locs, Pt.cells, Pt.slots] at X727 l727 y727 z727 st727 hQ727
  subst l727 y727 z727
  obtain ⟨t727, k727, rfl, Nq727, K727, A727, s727⟩ := hQ727
  have N728 := Fr.app N722 Nq727
  have P729 : Rg p e below (T727.setTop (mkF m 35 #[sR a1, sR b1, .val .null, sR v1, .val (.int (Int32.ofNat bc.length))] [(.ref t727), (.ref a1)])) B0 := fun t k => P720 t (by
    refine XS.aloadN X719.here hx rfl (hb hby dj42_150_27) rfl rfl ?_
    refine XS.aloadN X719.here hx rfl (hb hby dj42_150_28) rfl rfl ?_
    refine XS.iconst X719.here hx rfl (hb hby dj42_150_29) ?_
    refine XS.iload X719.here hx rfl (hb hby dj42_150_30) rfl ?_
    exact st727 _ k)
  have Z730 : n0 ≤ T727.heap.size := Nat.le_trans Z723 K727.1
  have K731 : Keep h0 T727.heap [a1] := K724.trans K727 (all0)
  have O732 : Old Z n0 T727.heap := O725.keep K727 all0
  have g_t727 : n0 ≤ t727 := Nat.le_trans Z723 s727
  have sz_t727 : h0.size ≤ t727 := Nat.le_trans K724.1 s727
  have f733 := ((Fv.other W719 (Or.inr (slot_ne (Or.inr (oH hw 35 rfl)) (Or.inr (oH hw 33 rfl)) (by decide) (t := (.array .byte)) (t' := .byte) (by decide) (by decide)))).keep K727 nin0)
  have f734 := ((E_a1.wr W719).keep K727)
  obtain ⟨T735, h735, X735, e735, W735, st735⟩ := putF X727 hx hZ hown (host := "") (Or.inl (oH hw 34 rfl)) Via.refl rfl f733 f734 (Or.inr ⟨(oH hw 35 rfl), rfl, hnm⟩) (oH hw 7 rfl) (ty := (.array .byte)) (by decide) rfl rfl (g := (mkF m 35 #[sR a1, sR b1, .val .null, sR v1, .val (.int (Int32.ofNat bc.length))] [(.ref t727), (.ref a1)])) rfl rfl (hb hby dj42_150_35)
  have P736 : Rg p e below (T735.setTop (mkF m 38 #[sR a1, sR b1, .val .null, sR v1, .val (.int (Int32.ofNat bc.length))] [])) B0 := fun t k => P729 t (by
    exact st735 _ k)
  have f737 := f733.same W735
  have N738 := Fr.snoc X735 N728 g_a1
  have Z739 : n0 ≤ h735.size := Nat.le_trans Z730 (Keep.of_wr W735).1
  have K740 : Keep h0 h735 [a1] := K731.wr W735 (Or.inl (List.mem_of_getElem? (i := 0) rfl))
  have O741 : Old Z n0 h735 := O732.wr W735 g_a1
  have f742 := (f734.wr W735)
  have f743 := ((f721.keep K727 nin0).other W735 (Or.inr (slot_ne (Or.inr (oH hw 33 rfl)) (Or.inr (oH hw 35 rfl)) (by decide) (t := .byte) (t' := (.array .byte)) (by decide) (by decide))))
  have f744 := (A727.other W735 (Ne.symm (Nat.ne_of_lt (Nat.lt_of_lt_of_le f721.lt s727))))
  obtain ⟨fs745, hr745, hrun745, hended745, hW745, hsame745⟩ := X735.leave (v := none) (fun _ => rfl)
  refine ⟨_, _, pre0 _ (P736 _ ?_), hrun745, hended745, _, _, rfl, ?_, ⟨⟨_, rfl⟩, hW745, hsame745.mono (oB rfl) (oB rfl)⟩⟩
  · show Sq p e below (T735.setTop (mkF m 38 #[sR a1, sR b1, .val .null, sR v1, .val (.int (Int32.ofNat bc.length))] [])) _
    refine XS.goto X735.here hx rfl (pc0 := 38) (pc' := 97) rfl (hb hby dj42_150_38) (by decide) (by decide) ?_
    exact X735.returnOut hx Bd.returns (hb hby dj42_150_97) hr745
  · show Q_sia0 Z a1 bc h0 n0 _ T735.heap _
    rw [e735]
    exact ⟨rfl, N738, K740, f742, f743, t727, _, _, f737, f744, by rw [L2.1]⟩
theorem dj42_53_0 : decode j42_53 0 = .ok (.aload_n 0, 1) := by decide +kernel
theorem dj42_53_1 : decode j42_53 1 = .ok (.aload_n 1, 1) := by decide +kernel
theorem dj42_53_2 : decode j42_53 2 = .ok (.aconst_null, 1) := by decide +kernel
theorem dj42_53_3 : decode j42_53 3 = .ok (.invokespecial 489, 3) := by decide +kernel
theorem pd23 : parseMethodDescriptor "(Ljava/lang/AbstractStringBuilder;Ljava/lang/Void;)V" = some ⟨[(.object nA), (.object "java/lang/Void")], none⟩ := by decide +kernel
theorem dj42_53_6 : decode j42_53 6 = .ok (.return_, 1) := by decide +kernel
theorem ef_sib0 (m : MethodId) (x0 : Addr) (x1 : Addr) : entryFrame m #[(.ref x0), (.ref x1)] 2 = mkF m 0 #[sR x0, sR x1] [] := by (first | (simp [entryFrame, mkF, argsToLocals, Value.category]; done) | rfl)
def Q_sib0 (Z : State) (a1 : Addr) (bc : List Int32) (h0 : Heap) (n0 : Nat) (v : Option Value) (h : Heap) (L : List Loc) : Prop := v = none ∧ Fr n0 L ∧ Keep h0 h [a1] ∧ Exa Z h a1 nS ∧ Fld Z h a1 nS "coder" "B" (vI 0) ∧ ∃ (t : Addr) (k : ClassId) (N : Int32), Fld Z h a1 nS "value" "[B" (.ref t) ∧ Arv Z h t k .byte N ((own_by false bc).map Value.int) (vI 0) ∧ N = Int32.ofNat (own_by false bc).length
theorem rm_sib0 (l : Launch) (Z : State) (a0 : Array Value) (hw : Tb a0 Z) (ws : List Jvm.Cond) (a1 : Addr) (b1 v1 : Addr) (kv : ClassId) (bc : List Int32) (G1 : Int32) (G2 : Value) (h0 : Heap) (n0 : Nat) (Z0 : n0 ≤ h0.size) (g_a1 : n0 ≤ a1) (E_a1 : Exa Z h0 a1 nS) (Fv : Fld Z h0 a1 nS "value" "[B" .null) (Fk : Fld Z h0 a1 nS "coder" "B" (vI 0)) (g_b1 : n0 ≤ b1) (g_v1 : n0 ≤ v1) (E_b1 : Exa Z h0 b1 nB) (F_value : Fld Z h0 b1 nA "value" "[B" (.ref v1)) (F_coder : Fld Z h0 b1 nA "coder" "B" (vI 0)) (F_count : Fld Z h0 b1 nA "count" "I" (.int (Int32.ofNat bc.length))) (F_maybe : Fld Z h0 b1 nA "maybeLatin1" "Z" (vI 0)) (A_v1 : Arv Z h0 v1 kv .byte (16 : Int32) ((own_by false bc).map Value.int) (vI 0)) (E_v1 : Exa Z h0 v1 "[B") (hb6 : bc.length ≤ 6) (Sg : oSg Z G1) (P5 : ¬ (G1 = (0 : Int32))) (Sf : oSf Z G2) (hG2 : G2.isRef = true) (Sa : oSa Z) (Sh : oSh Z) (Sl : oSl Z) (Ol : Old Z n0 h0) :
    MF l Z h0 y_34 j42_53 2 none ws (rM 4 1 12 65) #[(.ref a1), (.ref b1)] (Q_sib0 Z a1 bc h0 n0) := by
  refine MetFree.of_bodySF (plainFor_of_name pn_java_lang_String) hisR ?_
  intro p e s m args below meth c s₁ Bd hml hP hK
  obtain ⟨rfl, hZ, hh⟩ := hP
  have hx := Bd.exec
  have hby := Bd.bytes
  have hown : s.vm.findClass "java/lang/String" = some m.cls := findClass_of_methodNamed Bd.named
  have X0 : Stand p l e (rM 4 1 12 65) s m #[(.ref a1), (.ref b1)] below meth c s₁ [] 0 0 := Stand.of_body Bd
  have e0 : s₁.heap = h0 := by rw [← hh, Bd.state]; rfl
  have N0 := Fr.nil n0
  obtain ⟨B0, pre0, P0⟩ : ∃ B, Rg p e below B (s₁.setTop (entryFrame m #[(.ref a1), (.ref b1)] 2)) ∧ Rg p e below (s₁.setTop (mkF m 0 #[sR a1, sR b1] [])) B := ⟨_, fun t k => castTop (ef_sib0 m a1 b1) k, fun t k => k⟩
  obtain ⟨_, _, ⟨T746, L746, k746, n746⟩, -, X746, ⟨Lc746, hQ746, l746, y746, z746⟩, st746⟩ := X0.specialBack hx (y := y_33) rfl hown (mvT hZ (oH hw 135 rfl)) (mvT hZ (oH hw 136 rfl)) (mvT hZ (oH hw 137 rfl)) (by decide) (backOf (W := 0) (rm_sia0 l Z a0 hw [] a1 b1 v1 kv bc G1 G2 h0 n0 Z0 g_a1 E_a1 Fv Fk g_b1 g_v1 E_b1 F_value F_coder F_count F_maybe A_v1 E_v1 hb6 Sg P5 Sf hG2 Sa Sh Sl Ol) hZ (oH hw 137 rfl) (oH hw 8 rfl) (by decide) (by decide)) (g := (mkF m 3 #[sR a1, sR b1] [.null, (.ref b1), (.ref a1)])) rfl (by rw [hml]; rfl) (Steps.refl _) (a := a1) (argsL := [(.ref b1), .null]) (rest := []) (lenOf pd23 rfl) rfl (oW rfl) (hb hby dj42_53_3) (fun _ _ => ⟨rfl, e0, (oB rfl : 0 + 1 ≤ _), (oB rfl : 0 + 12 ≤ _)⟩)
  dsimp only [Pt.U, Pt.locs, Pt.cells, Pt.slots] at X746 l746 y746 z746 st746 hQ746
  subst l746 y746 z746
  obtain ⟨rfl, Nq746, K746, Es746, Fc746, t746, k746, N746_, Fv746, A746, hN746⟩ := hQ746
  have N747 := Fr.app N0 Nq746
  have P748 : Rg p e below (T746.setTop (mkF m 6 #[sR a1, sR b1] [])) B0 := fun t k => P0 t (by
    refine XS.aloadN X0.here hx rfl (hb hby dj42_53_0) rfl rfl ?_
    refine XS.aloadN X0.here hx rfl (hb hby dj42_53_1) rfl rfl ?_
    refine XS.aconstNull X0.here hx rfl (hb hby dj42_53_2) ?_
    exact st746.trans k)
  have Z749 : n0 ≤ T746.heap.size := Nat.le_trans Z0 K746.1
  have K750 : Keep h0 T746.heap [a1] := (Keep.refl h0 [a1]).trans K746 ((allS (Or.inl (List.mem_of_getElem? (i := 0) rfl)) all0))
  have O751 : Old Z n0 T746.heap := Ol.keep K746 (allS g_a1 all0)
  obtain ⟨fs752, hr752, hrun752, hended752, hW752, hsame752⟩ := X746.leave (v := none) (fun _ => rfl)
  refine ⟨_, _, pre0 _ (P748 _ ?_), hrun752, hended752, _, _, rfl, ?_, ⟨⟨_, rfl⟩, hW752, hsame752.mono (oB rfl) (oB rfl)⟩⟩
  · exact X746.returnOut hx Bd.returns (hb hby dj42_53_6) hr752
  · show Q_sib0 Z a1 bc h0 n0 _ T746.heap _
    exact ⟨rfl, N747, K750, Es746, Fc746, t746, k746, N746_, Fv746, A746, hN746⟩
theorem dj67_42_0 : decode j67_42 0 = .ok (.new 18, 3) := by decide +kernel
theorem dj67_42_3 : decode j67_42 3 = .ok (.dup, 1) := by decide +kernel
theorem dj67_42_4 : decode j67_42 4 = .ok (.aload_n 0, 1) := by decide +kernel
theorem dj67_42_5 : decode j67_42 5 = .ok (.invokespecial 137, 3) := by decide +kernel
theorem pd24 : parseMethodDescriptor "(Ljava/lang/StringBuilder;)V" = some ⟨[(.object nB)], none⟩ := by decide +kernel
theorem dj67_42_8 : decode j67_42 8 = .ok (.areturn, 1) := by decide +kernel
theorem ef_sts0 (m : MethodId) (x0 : Addr) : entryFrame m #[(.ref x0)] 1 = mkF m 0 #[sR x0] [] := by (first | (simp [entryFrame, mkF, argsToLocals, Value.category]; done) | rfl)
def Q_sts0 (Z : State) (bc : List Int32) (h0 : Heap) (n0 : Nat) (v : Option Value) (h : Heap) (L : List Loc) : Prop := ∃ s : Addr, v = some (.ref s) ∧ Fr n0 L ∧ Keep h0 h [] ∧ h0.size ≤ s ∧ Exa Z h s nS ∧ Fld Z h s nS "coder" "B" (vI 0) ∧ ∃ (t : Addr) (k : ClassId) (N : Int32), Fld Z h s nS "value" "[B" (.ref t) ∧ Arv Z h t k .byte N ((own_by false bc).map Value.int) (vI 0) ∧ N = Int32.ofNat (own_by false bc).length
theorem rm_sts0 (l : Launch) (Z : State) (a0 : Array Value) (hw : Tb a0 Z) (ws : List Jvm.Cond) (b1 v1 : Addr) (kv : ClassId) (bc : List Int32) (G1 : Int32) (G2 : Value) (h0 : Heap) (n0 : Nat) (Z0 : n0 ≤ h0.size) (g_b1 : n0 ≤ b1) (g_v1 : n0 ≤ v1) (E_b1 : Exa Z h0 b1 nB) (F_value : Fld Z h0 b1 nA "value" "[B" (.ref v1)) (F_coder : Fld Z h0 b1 nA "coder" "B" (vI 0)) (F_count : Fld Z h0 b1 nA "count" "I" (.int (Int32.ofNat bc.length))) (F_maybe : Fld Z h0 b1 nA "maybeLatin1" "Z" (vI 0)) (A_v1 : Arv Z h0 v1 kv .byte (16 : Int32) ((own_by false bc).map Value.int) (vI 0)) (E_v1 : Exa Z h0 v1 "[B") (hb6 : bc.length ≤ 6) (Sg : oSg Z G1) (P5 : ¬ (G1 = (0 : Int32))) (Sf : oSf Z G2) (hG2 : G2.isRef = true) (Sa : oSa Z) (Sh : oSh Z) (Sl : oSl Z) (Ol : Old Z n0 h0) :
    MF l Z h0 y_35 j67_42 1 (some (.object "java/lang/String")) ws (rM 5 2 16 79) #[(.ref b1)] (Q_sts0 Z bc h0 n0) := by
  refine MetFree.of_bodySF (plainFor_of_name pn_java_lang_StringBuilder) hisR ?_
  intro p e s m args below meth c s₁ Bd hml hP hK
  obtain ⟨rfl, hZ, hh⟩ := hP
  have hx := Bd.exec
  have hby := Bd.bytes
  have hown : s.vm.findClass "java/lang/StringBuilder" = some m.cls := findClass_of_methodNamed Bd.named
  have X0 : Stand p l e (rM 5 2 16 79) s m #[(.ref b1)] below meth c s₁ [] 0 0 := Stand.of_body Bd
  have e0 : s₁.heap = h0 := by rw [← hh, Bd.state]; rfl
  have N0 := Fr.nil n0
  obtain ⟨B0, pre0, P0⟩ : ∃ B, Rg p e below B (s₁.setTop (entryFrame m #[(.ref b1)] 1)) ∧ Rg p e below (s₁.setTop (mkF m 0 #[sR b1] [])) B := ⟨_, fun t k => castTop (ef_sts0 m b1) k, fun t k => k⟩
  obtain ⟨T753, h753, X753, e753, E753, A753, D753, -, st753⟩ := newO X0 hx hZ hown (oH hw 131 rfl) (oH hw 7 rfl) (oH hw 8 rfl) e0 (g := (mkF m 0 #[sR b1] [])) rfl (hb hby dj67_42_0) (by decide) (by decide)
  obtain ⟨b753, g753⟩ : ∃ z, z = h0.size := ⟨_, rfl⟩
  rw [← g753] at A753 D753 st753
  have g_b753 : n0 ≤ b753 := Nat.le_trans Z0 (Nat.le_of_eq g753.symm)
  have sz_b753 : h0.size ≤ b753 := Nat.le_trans (Keep.refl h0 []).1 (Nat.le_of_eq g753.symm)
  have P754 : Rg p e below (T753.setTop (mkF m 3 #[sR b1] [(.ref b753)])) B0 := fun t k => P0 t (by
    exact st753 _ k)
  have Z755 : n0 ≤ h753.size := Nat.le_trans Z0 E753.1
  have K756 : Keep h0 h753 [] := (Keep.refl h0 []).ext E753
  have O757 : Old Z n0 h753 := Ol.ext E753
  have f758 : Fld Z h753 b753 nS "coder" "B" (vI 0) := D753 (Or.inr (oH hw 33 rfl)) (ty := .byte) (by decide)
  have f759 : Fld Z h753 b753 nS "value" "[B" .null := D753 (Or.inr (oH hw 35 rfl)) (ty := (.array .byte)) (by decide)
  have f760 := (E_b1.ext E753)
  have f761 := (F_value.ext E753)
  have f762 := (F_coder.ext E753)
  have f763 := (F_count.ext E753)
  have f764 := (F_maybe.ext E753)
  have f765 := (A_v1.ext E753)
  have f766 := (E_v1.ext E753)
  obtain ⟨_, _, ⟨T767, L767, k767, n767⟩, -, X767, ⟨Lc767, hQ767, l767, y767, z767⟩, st767⟩ := X753.specialBack hx (y := y_34) rfl hown (mvT hZ (oH hw 132 rfl)) (mvT hZ (oH hw 133 rfl)) (mvT hZ (oH hw 134 rfl)) (by decide) (backOf (W := 1) (rm_sib0 l Z a0 hw [] b753 b1 v1 kv bc G1 G2 h753 n0 Z755 g_b753 A753 f759 f758 g_b1 g_v1 f760 f761 f762 f763 f764 f765 f766 hb6 Sg P5 Sf hG2 Sa Sh Sl O757) hZ (oH hw 134 rfl) (oH hw 8 rfl) (by decide) (by decide)) (g := (mkF m 5 #[sR b1] [(.ref b1), (.ref b753), (.ref b753)])) rfl (by rw [hml]; rfl) (Steps.refl _) (a := b753) (argsL := [(.ref b1)]) (rest := [(.ref b753)]) (lenOf pd24 rfl) rfl (oW rfl) (hb hby dj67_42_5) (fun _ _ => ⟨rfl, e753, (oB rfl : 1 + 1 ≤ _), (oB rfl : 4 + 12 ≤ _)⟩)
  dsimp only [Pt.U, Pt.locs, Pt.cells, Pt.slots] at X767 l767 y767 z767 st767 hQ767
  subst l767 y767 z767
  obtain ⟨rfl, Nq767, K767, Es767, Fc767, t767, k767, N767_, Fv767, A767, hN767⟩ := hQ767
  have N768 := Fr.app N0 Nq767
  have P769 : Rg p e below (T767.setTop (mkF m 8 #[sR b1] [(.ref b753)])) B0 := fun t k => P754 t (by
    refine XS.dup X753.here hx rfl (hb hby dj67_42_3) rfl rfl ?_
    refine XS.aloadN X753.here hx rfl (hb hby dj67_42_4) rfl rfl ?_
    exact st767.trans k)
  have Z770 : n0 ≤ T767.heap.size := Nat.le_trans Z755 K767.1
  have K771 : Keep h0 T767.heap [] := K756.trans K767 ((allS (Or.inr sz_b753) all0))
  have O772 : Old Z n0 T767.heap := O757.keep K767 (allS g_b753 all0)
  obtain ⟨fs773, hr773, hrun773, hended773, hW773, hsame773⟩ := X767.leave (v := some (.ref b753)) (fun h => by rw [Bd.returns] at h; cases h)
  refine ⟨_, _, pre0 _ (P769 _ ?_), hrun773, hended773, _, _, rfl, ?_, ⟨⟨_, rfl⟩, hW773, hsame773.mono (oB rfl) (oB rfl)⟩⟩
  · exact retOut X767 hx Bd.returns rfl (Or.inr (Or.inr (Or.inr (Or.inr ⟨rfl, rfl, rfl⟩)))) (hb hby dj67_42_8) hr773
  · show Q_sts0 Z bc h0 n0 _ T767.heap _
    exact ⟨b753, rfl, N768, K771, sz_b753, Es767, Fc767, t767, k767, N767_, Fv767, A767, hN767⟩
theorem dj42_150_41 : decode j42_150 41 = .ok (.getstatic 38, 3) := by decide +kernel
theorem dj42_150_44 : decode j42_150 44 = .ok (.ifCond .eq 35, 3) := by decide +kernel
theorem dj42_150_47 : decode j42_150 47 = .ok (.aload_n 1, 1) := by decide +kernel
theorem dj42_150_48 : decode j42_150 48 = .ok (.getfield 1048, 3) := by decide +kernel
theorem dj42_150_51 : decode j42_150 51 = .ok (.ifCond .eq 28, 3) := by decide +kernel
theorem dj42_150_79 : decode j42_150 79 = .ok (.aload_n 0, 1) := by decide +kernel
theorem dj42_150_80 : decode j42_150 80 = .ok (.iconst 1, 1) := by decide +kernel
theorem dj42_150_81 : decode j42_150 81 = .ok (.putfield 15, 3) := by decide +kernel
theorem dj42_150_84 : decode j42_150 84 = .ok (.aload_n 0, 1) := by decide +kernel
theorem dj42_150_85 : decode j42_150 85 = .ok (.aload_n 3, 1) := by decide +kernel
theorem dj42_150_86 : decode j42_150 86 = .ok (.iconst 0, 1) := by decide +kernel
theorem dj42_150_87 : decode j42_150 87 = .ok (.iload 4, 2) := by decide +kernel
theorem dj42_150_89 : decode j42_150 89 = .ok (.iconst 1, 1) := by decide +kernel
theorem dj42_150_90 : decode j42_150 90 = .ok (.ishl, 1) := by decide +kernel
theorem dj42_150_91 : decode j42_150 91 = .ok (.invokestatic 54, 3) := by decide +kernel
theorem dj42_150_94 : decode j42_150 94 = .ok (.putfield 9, 3) := by decide +kernel
theorem ef_sia1 (m : MethodId) (x0 : Addr) (x1 : Addr) : entryFrame m #[(.ref x0), (.ref x1), .null] 5 = mkF m 0 #[sR x0, sR x1, .val .null, sU, sU] [] := by (first | (simp [entryFrame, mkF, argsToLocals, Value.category]; done) | rfl)
def Q_sia1 (Z : State) (a1 : Addr) (bc : List Int32) (h0 : Heap) (n0 : Nat) (v : Option Value) (h : Heap) (L : List Loc) : Prop := v = none ∧ Fr n0 L ∧ Keep h0 h [a1] ∧ Exa Z h a1 nS ∧ Fld Z h a1 nS "coder" "B" (vI 1) ∧ ∃ (t : Addr) (k : ClassId) (N : Int32), Fld Z h a1 nS "value" "[B" (.ref t) ∧ Arv Z h t k .byte N ((own_by true bc).map Value.int) (vI 0) ∧ N = Int32.ofNat (own_by true bc).length
theorem rm_sia1 (l : Launch) (Z : State) (a0 : Array Value) (hw : Tb a0 Z) (ws : List Jvm.Cond) (a1 : Addr) (b1 v1 : Addr) (kv : ClassId) (bc : List Int32) (G1 : Int32) (G2 : Value) (h0 : Heap) (n0 : Nat) (Z0 : n0 ≤ h0.size) (g_a1 : n0 ≤ a1) (E_a1 : Exa Z h0 a1 nS) (Fv : Fld Z h0 a1 nS "value" "[B" .null) (Fk : Fld Z h0 a1 nS "coder" "B" (vI 0)) (g_b1 : n0 ≤ b1) (g_v1 : n0 ≤ v1) (E_b1 : Exa Z h0 b1 nB) (F_value : Fld Z h0 b1 nA "value" "[B" (.ref v1)) (F_coder : Fld Z h0 b1 nA "coder" "B" (vI 1)) (F_count : Fld Z h0 b1 nA "count" "I" (.int (Int32.ofNat bc.length))) (F_maybe : Fld Z h0 b1 nA "maybeLatin1" "Z" (vI 0)) (A_v1 : Arv Z h0 v1 kv .byte (32 : Int32) ((own_by true bc).map Value.int) (vI 0)) (E_v1 : Exa Z h0 v1 "[B") (hb6 : bc.length ≤ 6) (Sg : oSg Z G1) (P5 : ¬ (G1 = (0 : Int32))) (Sf : oSf Z G2) (hG2 : G2.isRef = true) (Sa : oSa Z) (Sh : oSh Z) (Sl : oSl Z) (Ol : Old Z n0 h0) :
    MF l Z h0 y_33 j42_150 5 none ws (rM 3 1 12 49) #[(.ref a1), (.ref b1), .null] (Q_sia1 Z a1 bc h0 n0) := by
  refine MetFree.of_bodySF (plainFor_of_name pn_java_lang_String) hisR ?_
  intro p e s m args below meth c s₁ Bd hml hP hK
  obtain ⟨rfl, hZ, hh⟩ := hP
  have hx := Bd.exec
  have hby := Bd.bytes
  have hown : s.vm.findClass "java/lang/String" = some m.cls := findClass_of_methodNamed Bd.named
  have hnm := (name_of_methodNamed Bd.named Bd.method).1
  have X0 : Stand p l e (rM 3 1 12 49) s m #[(.ref a1), (.ref b1), .null] below meth c s₁ [] 0 0 := Stand.of_body Bd
  have e0 : s₁.heap = h0 := by rw [← hh, Bd.state]; rfl
  have N0 := Fr.nil n0
  obtain ⟨B0, pre0, P0⟩ : ∃ B, Rg p e below B (s₁.setTop (entryFrame m #[(.ref a1), (.ref b1), .null] 5)) ∧ Rg p e below (s₁.setTop (mkF m 0 #[sR a1, sR b1, .val .null, sU, sU] [])) B := ⟨_, fun t k => castTop (ef_sia1 m a1 b1) k, fun t k => k⟩
  obtain ⟨T774, X774, e774, st774⟩ := initO X0 hx hZ hown (oH hw 17 rfl) (oH hw 18 rfl) (oH hw 19 rfl) e0 (g := (mkF m 1 #[sR a1, sR b1, .val .null, sU, sU] [(.ref a1)])) rfl (by rw [hml]; rfl) rfl (hb hby dj42_150_1) (by decide) (W := 0) (oW rfl) (by decide)
  have P775 : Rg p e below (T774.setTop (mkF m 4 #[sR a1, sR b1, .val .null, sU, sU] [])) B0 := fun t k => P0 t (by
    refine XS.aloadN X0.here hx rfl (hb hby dj42_150_0) rfl rfl ?_
    exact st774 _ k)
  obtain ⟨cq776, kq776, q776a, q776b, q776c⟩ := isOf hZ e774 E_b1
  obtain ⟨_, _, ⟨T776, L776, k776, n776⟩, -, X776, ⟨Lc776, hQ776, l776, y776, z776⟩, st776⟩ := X774.virtualBack hx (y := y_26) (z := y_26) hown (mvT hZ (oH hw 138 rfl)) (mvT hZ (oH hw 139 rfl)) (notFace_of_selects (args := #[]) (mvT hZ (oH hw 141 rfl))) (mvT hZ (oH hw 141 rfl)) (mvT hZ (oH hw 140 rfl)) (by decide) (backOf (W := 0) (rm_gvl l Z a0 hw [] b1 v1 h0 n0 Z0 F_value) hZ (oH hw 142 rfl) (oH hw 70 rfl) (by decide) (by decide)) q776a q776c (g := (mkF m 5 #[sR a1, sR b1, .val .null, sU, sU] [(.ref b1)])) rfl (by rw [hml]; rfl) (Steps.refl _) (argsL := []) (rest := []) (lenOf pd22 rfl) rfl (oW rfl) (hb hby dj42_150_5) (fun _ _ => ⟨rfl, e774, (oB rfl : 0 + 0 ≤ _), (oB rfl : 0 + 0 ≤ _)⟩)
  dsimp only [Pt.U, Pt.locs, Pt.cells, Pt.slots] at X776 l776 y776 z776 st776 hQ776
  subst l776 y776 z776
  obtain ⟨rfl, Nq776, e776⟩ := hQ776
  have N777 := Fr.app N0 Nq776
  have P778 : Rg p e below (T776.setTop (mkF m 8 #[sR a1, sR b1, .val .null, sU, sU] [(.ref v1)])) B0 := fun t k => P775 t (by
    refine XS.aloadN X774.here hx rfl (hb hby dj42_150_4) rfl rfl ?_
    exact st776.trans k)
  obtain ⟨cq779, kq779, q779a, q779b, q779c⟩ := isOf hZ e776 E_b1
  obtain ⟨_, _, ⟨T779, L779, k779, n779⟩, -, X779, ⟨Lc779, hQ779, l779, y779, z779⟩, st779⟩ := X776.virtualBack hx (y := y_27) (z := y_28) hown (mvT hZ (oH hw 143 rfl)) (mvT hZ (oH hw 144 rfl)) (own_nfSel (y2 := y_21) rfl (args := #[]) (mvT hZ (oH hw 103 rfl))) (mvT hZ (oH hw 146 rfl)) (mvT hZ (oH hw 147 rfl)) (by decide) (backOf (W := 0) (rm_bln l Z a0 hw [] b1 (Int32.ofNat bc.length) h0 n0 Z0 E_b1 F_count) hZ (oH hw 148 rfl) (oH hw 62 rfl) (by decide) (by decide)) q779a q779c (g := (mkF m 10 #[sR a1, sR b1, .val .null, sR v1, sU] [(.ref b1)])) rfl (by rw [hml]; rfl) (Steps.refl _) (argsL := []) (rest := []) (lenOf pd16 rfl) rfl (oW rfl) (hb hby dj42_150_10) (fun _ _ => ⟨rfl, e776, (oB rfl : 0 + 0 ≤ _), (oB rfl : 0 + 0 ≤ _)⟩)
  dsimp only [Pt.U, Pt.locs, Pt.cells, Pt.slots] at X779 l779 y779 z779 st779 hQ779
  subst l779 y779 z779
  obtain ⟨rfl, Nq779, e779⟩ := hQ779
  have N780 := Fr.app N777 Nq779
  have P781 : Rg p e below (T779.setTop (mkF m 13 #[sR a1, sR b1, .val .null, sR v1, sU] [(.int (Int32.ofNat bc.length))])) B0 := fun t k => P778 t (by
    refine XS.astoreN X776.here hx rfl (hb hby dj42_150_8) rfl rfl (l' := #[sR a1, sR b1, .val .null, sR v1, sU]) rfl ?_
    refine XS.aloadN X776.here hx rfl (hb hby dj42_150_9) rfl rfl ?_
    exact st779.trans k)
  obtain ⟨cq782, kq782, q782a, q782b, q782c⟩ := isOf hZ e779 E_b1
  obtain ⟨_, _, ⟨T782, L782, k782, n782⟩, -, X782, ⟨Lc782, hQ782, l782, y782, z782⟩, st782⟩ := X779.virtualBack hx (y := y_17) (z := y_17) hown (mvT hZ (oH hw 151 rfl)) (mvT hZ (oH hw 152 rfl)) (notFace_of_selects (args := #[]) (mvT hZ (oH hw 154 rfl))) (mvT hZ (oH hw 154 rfl)) (mvT hZ (oH hw 153 rfl)) (by decide) (backOf (W := 0) (rm_biltrue l Z a0 hw [] b1 G1 G2 h0 n0 Z0 F_coder Sg P5 Sf hG2 Sa Sh Sl Ol) hZ (oH hw 155 rfl) (oH hw 70 rfl) (by decide) (by decide)) q782a q782c (g := (mkF m 16 #[sR a1, sR b1, .val .null, sR v1, .val (.int (Int32.ofNat bc.length))] [(.ref b1)])) rfl (by rw [hml]; rfl) (Steps.refl _) (argsL := []) (rest := []) (lenOf pd11 rfl) rfl (oW rfl) (hb hby dj42_150_16) (fun _ _ => ⟨rfl, e779, (oB rfl : 0 + 0 ≤ _), (oB rfl : 0 + 0 ≤ _)⟩)
  dsimp only [Pt.U, Pt.locs, Pt.cells, Pt.slots] at X782 l782 y782 z782 st782 hQ782
  subst l782 y782 z782
  obtain ⟨rfl, Nq782, e782⟩ := hQ782
  have N783 := Fr.app N780 Nq782
  have P784 : Rg p e below (T782.setTop (mkF m 19 #[sR a1, sR b1, .val .null, sR v1, .val (.int (Int32.ofNat bc.length))] [(vI 0)])) B0 := fun t k => P781 t (by
    refine XS.istore X779.here hx rfl (hb hby dj42_150_13) rfl (l' := #[sR a1, sR b1, .val .null, sR v1, .val (.int (Int32.ofNat bc.length))]) rfl ?_
    refine XS.aloadN X779.here hx rfl (hb hby dj42_150_15) rfl rfl ?_
    exact st782.trans k)
  have L2 := own_byL bc
  obtain ⟨T785, X785, e785, st785⟩ := getS2 X782 hx hZ hown (host := "") (Or.inl (oH hw 20 rfl)) Via.refl e782 (Sg.ext Ol.2) (g := (mkF m 41 #[sR a1, sR b1, .val .null, sR v1, .val (.int (Int32.ofNat bc.length))] [])) rfl (hb hby dj42_150_41)
  have P786 : Rg p e below (T785.setTop (mkF m 44 #[sR a1, sR b1, .val .null, sR v1, .val (.int (Int32.ofNat bc.length))] [(.int G1)])) B0 := fun t k => P784 t (by
    refine XS.ifYes X782.here hx rfl (pc0 := 19) (pc' := 41) rfl (hb hby dj42_150_19) rfl ((if0 _ _).trans (teq (show (0 : Int32) = (0 : Int32) from (by decide))).1) (by decide) (by decide) ?_
    exact st785 _ k)
  obtain ⟨T787, X787, e787, st787⟩ := getF X785 hx hZ hown (host := "") (Or.inl (oH hw 254 rfl)) Via.refl e785 F_maybe (g := (mkF m 48 #[sR a1, sR b1, .val .null, sR v1, .val (.int (Int32.ofNat bc.length))] [(.ref b1)])) rfl rfl (hb hby dj42_150_48)
  have P788 : Rg p e below (T787.setTop (mkF m 51 #[sR a1, sR b1, .val .null, sR v1, .val (.int (Int32.ofNat bc.length))] [(vI 0)])) B0 := fun t k => P786 t (by
    refine XS.ifNo X785.here hx rfl (hb hby dj42_150_44) rfl ((if0 _ _).trans (feq (show ¬ (G1 = (0 : Int32)) from P5)).1) ?_
    refine XS.aloadN X785.here hx rfl (hb hby dj42_150_47) rfl rfl ?_
    exact st787 _ k)
  obtain ⟨T789, h789, X789, e789, W789, st789⟩ := putFN X787 hx hZ hown (oH hw 32 rfl) Via.refl e787 Fk E_a1 (Or.inr ⟨(oH hw 33 rfl), rfl, hnm⟩) (oH hw 7 rfl) (ty := .byte) (v' := .int (1 : Int32)) (by decide) rfl rfl (g := (mkF m 81 #[sR a1, sR b1, .val .null, sR v1, .val (.int (Int32.ofNat bc.length))] [(vI 1), (.ref a1)])) rfl rfl (hb hby dj42_150_81)
  have P790 : Rg p e below (T789.setTop (mkF m 84 #[sR a1, sR b1, .val .null, sR v1, .val (.int (Int32.ofNat bc.length))] [])) B0 := fun t k => P788 t (by
    refine XS.ifYes X787.here hx rfl (pc0 := 51) (pc' := 79) rfl (hb hby dj42_150_51) rfl ((if0 _ _).trans (teq (show (0 : Int32) = (0 : Int32) from (by decide))).1) (by decide) (by decide) ?_
    refine XS.aloadN X787.here hx rfl (hb hby dj42_150_79) rfl rfl ?_
    refine XS.iconst X787.here hx rfl (hb hby dj42_150_80) ?_
    exact st789 _ k)
  have f791 := Fk.same W789
  have N792 := Fr.snoc X789 N783 g_a1
  have Z793 : n0 ≤ h789.size := Nat.le_trans Z0 (Keep.of_wr W789).1
  have K794 : Keep h0 h789 [a1] := (Keep.refl h0 [a1]).wr W789 (Or.inl (List.mem_of_getElem? (i := 0) rfl))
  have O795 : Old Z n0 h789 := Ol.wr W789 g_a1
  have f796 := (A_v1.other W789 (Exa.ne E_v1 E_a1 (by decide)))
  obtain ⟨_, _, ⟨T797, L797, k797, n797⟩, -, X797, ⟨Lc797, hQ797, l797, y797, z797⟩, st797⟩ := Jvm.LawKit.callS X789 hx (y := y_32) hown (mvT hZ (oH hw 156 rfl)) (mvT hZ (oH hw 157 rfl)) (mvT hZ (oH hw 158 rfl)) (mvT hZ (oH hw 159 rfl)) (by decide) (backOf (W := 1) (rm_cor1 l Z a0 hw [] v1 kv bc ((Int32.ofNat bc.length) <<< ((1 : Int32) &&& 31)) h789 n0 Z793 f796 (by rw [own_shU hb6, L2.2]) hb6) hZ (oH hw 159 rfl) (oH hw 158 rfl) (by decide) (by decide)) (g := (mkF m 91 #[sR a1, sR b1, .val .null, sR v1, .val (.int (Int32.ofNat bc.length))] [(.int ((Int32.ofNat bc.length) <<< ((1 : Int32) &&& 31))), (vI 0), (.ref v1), (.ref a1)])) rfl (by rw [hml]; rfl) (argsL := [(.ref v1), (vI 0), (.int ((Int32.ofNat bc.length) <<< ((1 : Int32) &&& 31)))]) (rest := [(.ref a1)]) (lenOf pd21 rfl) rfl (oW rfl) (hb hby dj42_150_91) (fun _ _ => ⟨rfl, e789, (oB rfl : 0 + 1 ≤ _), (oB rfl : 0 + 12 ≤ _)⟩)
  dsimp only [Pt.U, Pt.locs, Pt.cells, Pt.slots] at X797 l797 y797 z797 st797 hQ797
  subst l797 y797 z797
  obtain ⟨t797, k797, rfl, Nq797, K797, A797, s797⟩ := hQ797
  have N798 := Fr.app N792 Nq797
  have P799 : Rg p e below (T797.setTop (mkF m 94 #[sR a1, sR b1, .val .null, sR v1, .val (.int (Int32.ofNat bc.length))] [(.ref t797), (.ref a1)])) B0 := fun t k => P790 t (by
    refine XS.aloadN X789.here hx rfl (hb hby dj42_150_84) rfl rfl ?_
    refine XS.aloadN X789.here hx rfl (hb hby dj42_150_85) rfl rfl ?_
    refine XS.iconst X789.here hx rfl (hb hby dj42_150_86) ?_
    refine XS.iload X789.here hx rfl (hb hby dj42_150_87) rfl ?_
    refine XS.iconst X789.here hx rfl (hb hby dj42_150_89) ?_
    refine XS.ishl X789.here hx rfl (hb hby dj42_150_90) rfl ?_
    exact st797 _ k)
  have Z800 : n0 ≤ T797.heap.size := Nat.le_trans Z793 K797.1
  have K801 : Keep h0 T797.heap [a1] := K794.trans K797 (all0)
  have O802 : Old Z n0 T797.heap := O795.keep K797 all0
  have g_t797 : n0 ≤ t797 := Nat.le_trans Z793 s797
  have sz_t797 : h0.size ≤ t797 := Nat.le_trans K794.1 s797
  have f803 := ((Fv.other W789 (Or.inr (slot_ne (Or.inr (oH hw 35 rfl)) (Or.inr (oH hw 33 rfl)) (by decide) (t := (.array .byte)) (t' := .byte) (by decide) (by decide)))).keep K797 nin0)
  have f804 := ((E_a1.wr W789).keep K797)
  obtain ⟨T805, h805, X805, e805, W805, st805⟩ := putF X797 hx hZ hown (host := "") (Or.inl (oH hw 34 rfl)) Via.refl rfl f803 f804 (Or.inr ⟨(oH hw 35 rfl), rfl, hnm⟩) (oH hw 7 rfl) (ty := (.array .byte)) (by decide) rfl rfl (g := (mkF m 94 #[sR a1, sR b1, .val .null, sR v1, .val (.int (Int32.ofNat bc.length))] [(.ref t797), (.ref a1)])) rfl rfl (hb hby dj42_150_94)
  have P806 : Rg p e below (T805.setTop (mkF m 97 #[sR a1, sR b1, .val .null, sR v1, .val (.int (Int32.ofNat bc.length))] [])) B0 := fun t k => P799 t (by
    exact st805 _ k)
  have f807 := f803.same W805
  have N808 := Fr.snoc X805 N798 g_a1
  have Z809 : n0 ≤ h805.size := Nat.le_trans Z800 (Keep.of_wr W805).1
  have K810 : Keep h0 h805 [a1] := K801.wr W805 (Or.inl (List.mem_of_getElem? (i := 0) rfl))
  have O811 : Old Z n0 h805 := O802.wr W805 g_a1
  have f812 := (f804.wr W805)
  have f813 := ((f791.keep K797 nin0).other W805 (Or.inr (slot_ne (Or.inr (oH hw 33 rfl)) (Or.inr (oH hw 35 rfl)) (by decide) (t := .byte) (t' := (.array .byte)) (by decide) (by decide))))
  have f814 := (A797.other W805 (Ne.symm (Nat.ne_of_lt (Nat.lt_of_lt_of_le f791.lt s797))))
  obtain ⟨fs815, hr815, hrun815, hended815, hW815, hsame815⟩ := X805.leave (v := none) (fun _ => rfl)
  refine ⟨_, _, pre0 _ (P806 _ ?_), hrun815, hended815, _, _, rfl, ?_, ⟨⟨_, rfl⟩, hW815, hsame815.mono (oB rfl) (oB rfl)⟩⟩
  · exact X805.returnOut hx Bd.returns (hb hby dj42_150_97) hr815
  · show Q_sia1 Z a1 bc h0 n0 _ T805.heap _
    rw [e805]
    exact ⟨rfl, N808, K810, f812, f813, t797, _, _, f807, f814, by rw [own_shU hb6, L2.2]⟩
theorem ef_sib1 (m : MethodId) (x0 : Addr) (x1 : Addr) : entryFrame m #[(.ref x0), (.ref x1)] 2 = mkF m 0 #[sR x0, sR x1] [] := by (first | (simp [entryFrame, mkF, argsToLocals, Value.category]; done) | rfl)
def Q_sib1 (Z : State) (a1 : Addr) (bc : List Int32) (h0 : Heap) (n0 : Nat) (v : Option Value) (h : Heap) (L : List Loc) : Prop := v = none ∧ Fr n0 L ∧ Keep h0 h [a1] ∧ Exa Z h a1 nS ∧ Fld Z h a1 nS "coder" "B" (vI 1) ∧ ∃ (t : Addr) (k : ClassId) (N : Int32), Fld Z h a1 nS "value" "[B" (.ref t) ∧ Arv Z h t k .byte N ((own_by true bc).map Value.int) (vI 0) ∧ N = Int32.ofNat (own_by true bc).length
theorem rm_sib1 (l : Launch) (Z : State) (a0 : Array Value) (hw : Tb a0 Z) (ws : List Jvm.Cond) (a1 : Addr) (b1 v1 : Addr) (kv : ClassId) (bc : List Int32) (G1 : Int32) (G2 : Value) (h0 : Heap) (n0 : Nat) (Z0 : n0 ≤ h0.size) (g_a1 : n0 ≤ a1) (E_a1 : Exa Z h0 a1 nS) (Fv : Fld Z h0 a1 nS "value" "[B" .null) (Fk : Fld Z h0 a1 nS "coder" "B" (vI 0)) (g_b1 : n0 ≤ b1) (g_v1 : n0 ≤ v1) (E_b1 : Exa Z h0 b1 nB) (F_value : Fld Z h0 b1 nA "value" "[B" (.ref v1)) (F_coder : Fld Z h0 b1 nA "coder" "B" (vI 1)) (F_count : Fld Z h0 b1 nA "count" "I" (.int (Int32.ofNat bc.length))) (F_maybe : Fld Z h0 b1 nA "maybeLatin1" "Z" (vI 0)) (A_v1 : Arv Z h0 v1 kv .byte (32 : Int32) ((own_by true bc).map Value.int) (vI 0)) (E_v1 : Exa Z h0 v1 "[B") (hb6 : bc.length ≤ 6) (Sg : oSg Z G1) (P5 : ¬ (G1 = (0 : Int32))) (Sf : oSf Z G2) (hG2 : G2.isRef = true) (Sa : oSa Z) (Sh : oSh Z) (Sl : oSl Z) (Ol : Old Z n0 h0) :
    MF l Z h0 y_34 j42_53 2 none ws (rM 4 1 12 65) #[(.ref a1), (.ref b1)] (Q_sib1 Z a1 bc h0 n0) := by
  refine MetFree.of_bodySF (plainFor_of_name pn_java_lang_String) hisR ?_
  intro p e s m args below meth c s₁ Bd hml hP hK
  obtain ⟨rfl, hZ, hh⟩ := hP
  have hx := Bd.exec
  have hby := Bd.bytes
  have hown : s.vm.findClass "java/lang/String" = some m.cls := findClass_of_methodNamed Bd.named
  have X0 : Stand p l e (rM 4 1 12 65) s m #[(.ref a1), (.ref b1)] below meth c s₁ [] 0 0 := Stand.of_body Bd
  have e0 : s₁.heap = h0 := by rw [← hh, Bd.state]; rfl
  have N0 := Fr.nil n0
  obtain ⟨B0, pre0, P0⟩ : ∃ B, Rg p e below B (s₁.setTop (entryFrame m #[(.ref a1), (.ref b1)] 2)) ∧ Rg p e below (s₁.setTop (mkF m 0 #[sR a1, sR b1] [])) B := ⟨_, fun t k => castTop (ef_sib1 m a1 b1) k, fun t k => k⟩
  obtain ⟨_, _, ⟨T816, L816, k816, n816⟩, -, X816, ⟨Lc816, hQ816, l816, y816, z816⟩, st816⟩ := X0.specialBack hx (y := y_33) rfl hown (mvT hZ (oH hw 135 rfl)) (mvT hZ (oH hw 136 rfl)) (mvT hZ (oH hw 137 rfl)) (by decide) (backOf (W := 0) (rm_sia1 l Z a0 hw [] a1 b1 v1 kv bc G1 G2 h0 n0 Z0 g_a1 E_a1 Fv Fk g_b1 g_v1 E_b1 F_value F_coder F_count F_maybe A_v1 E_v1 hb6 Sg P5 Sf hG2 Sa Sh Sl Ol) hZ (oH hw 137 rfl) (oH hw 8 rfl) (by decide) (by decide)) (g := (mkF m 3 #[sR a1, sR b1] [.null, (.ref b1), (.ref a1)])) rfl (by rw [hml]; rfl) (Steps.refl _) (a := a1) (argsL := [(.ref b1), .null]) (rest := []) (lenOf pd23 rfl) rfl (oW rfl) (hb hby dj42_53_3) (fun _ _ => ⟨rfl, e0, (oB rfl : 0 + 1 ≤ _), (oB rfl : 0 + 12 ≤ _)⟩)
  dsimp only [Pt.U, Pt.locs, Pt.cells, Pt.slots] at X816 l816 y816 z816 st816 hQ816
  subst l816 y816 z816
  obtain ⟨rfl, Nq816, K816, Es816, Fc816, t816, k816, N816_, Fv816, A816, hN816⟩ := hQ816
  have N817 := Fr.app N0 Nq816
  have P818 : Rg p e below (T816.setTop (mkF m 6 #[sR a1, sR b1] [])) B0 := fun t k => P0 t (by
    refine XS.aloadN X0.here hx rfl (hb hby dj42_53_0) rfl rfl ?_
    refine XS.aloadN X0.here hx rfl (hb hby dj42_53_1) rfl rfl ?_
    refine XS.aconstNull X0.here hx rfl (hb hby dj42_53_2) ?_
    exact st816.trans k)
  have Z819 : n0 ≤ T816.heap.size := Nat.le_trans Z0 K816.1
  have K820 : Keep h0 T816.heap [a1] := (Keep.refl h0 [a1]).trans K816 ((allS (Or.inl (List.mem_of_getElem? (i := 0) rfl)) all0))
  have O821 : Old Z n0 T816.heap := Ol.keep K816 (allS g_a1 all0)
  obtain ⟨fs822, hr822, hrun822, hended822, hW822, hsame822⟩ := X816.leave (v := none) (fun _ => rfl)
  refine ⟨_, _, pre0 _ (P818 _ ?_), hrun822, hended822, _, _, rfl, ?_, ⟨⟨_, rfl⟩, hW822, hsame822.mono (oB rfl) (oB rfl)⟩⟩
  · exact X816.returnOut hx Bd.returns (hb hby dj42_53_6) hr822
  · show Q_sib1 Z a1 bc h0 n0 _ T816.heap _
    exact ⟨rfl, N817, K820, Es816, Fc816, t816, k816, N816_, Fv816, A816, hN816⟩
theorem ef_sts1 (m : MethodId) (x0 : Addr) : entryFrame m #[(.ref x0)] 1 = mkF m 0 #[sR x0] [] := by (first | (simp [entryFrame, mkF, argsToLocals, Value.category]; done) | rfl)
def Q_sts1 (Z : State) (bc : List Int32) (h0 : Heap) (n0 : Nat) (v : Option Value) (h : Heap) (L : List Loc) : Prop := ∃ s : Addr, v = some (.ref s) ∧ Fr n0 L ∧ Keep h0 h [] ∧ h0.size ≤ s ∧ Exa Z h s nS ∧ Fld Z h s nS "coder" "B" (vI 1) ∧ ∃ (t : Addr) (k : ClassId) (N : Int32), Fld Z h s nS "value" "[B" (.ref t) ∧ Arv Z h t k .byte N ((own_by true bc).map Value.int) (vI 0) ∧ N = Int32.ofNat (own_by true bc).length
theorem rm_sts1 (l : Launch) (Z : State) (a0 : Array Value) (hw : Tb a0 Z) (ws : List Jvm.Cond) (b1 v1 : Addr) (kv : ClassId) (bc : List Int32) (G1 : Int32) (G2 : Value) (h0 : Heap) (n0 : Nat) (Z0 : n0 ≤ h0.size) (g_b1 : n0 ≤ b1) (g_v1 : n0 ≤ v1) (E_b1 : Exa Z h0 b1 nB) (F_value : Fld Z h0 b1 nA "value" "[B" (.ref v1)) (F_coder : Fld Z h0 b1 nA "coder" "B" (vI 1)) (F_count : Fld Z h0 b1 nA "count" "I" (.int (Int32.ofNat bc.length))) (F_maybe : Fld Z h0 b1 nA "maybeLatin1" "Z" (vI 0)) (A_v1 : Arv Z h0 v1 kv .byte (32 : Int32) ((own_by true bc).map Value.int) (vI 0)) (E_v1 : Exa Z h0 v1 "[B") (hb6 : bc.length ≤ 6) (Sg : oSg Z G1) (P5 : ¬ (G1 = (0 : Int32))) (Sf : oSf Z G2) (hG2 : G2.isRef = true) (Sa : oSa Z) (Sh : oSh Z) (Sl : oSl Z) (Ol : Old Z n0 h0) :
    MF l Z h0 y_35 j67_42 1 (some (.object "java/lang/String")) ws (rM 5 2 16 79) #[(.ref b1)] (Q_sts1 Z bc h0 n0) := by
  refine MetFree.of_bodySF (plainFor_of_name pn_java_lang_StringBuilder) hisR ?_
  intro p e s m args below meth c s₁ Bd hml hP hK
  obtain ⟨rfl, hZ, hh⟩ := hP
  have hx := Bd.exec
  have hby := Bd.bytes
  have hown : s.vm.findClass "java/lang/StringBuilder" = some m.cls := findClass_of_methodNamed Bd.named
  have X0 : Stand p l e (rM 5 2 16 79) s m #[(.ref b1)] below meth c s₁ [] 0 0 := Stand.of_body Bd
  have e0 : s₁.heap = h0 := by rw [← hh, Bd.state]; rfl
  have N0 := Fr.nil n0
  obtain ⟨B0, pre0, P0⟩ : ∃ B, Rg p e below B (s₁.setTop (entryFrame m #[(.ref b1)] 1)) ∧ Rg p e below (s₁.setTop (mkF m 0 #[sR b1] [])) B := ⟨_, fun t k => castTop (ef_sts1 m b1) k, fun t k => k⟩
  obtain ⟨T823, h823, X823, e823, E823, A823, D823, -, st823⟩ := newO X0 hx hZ hown (oH hw 131 rfl) (oH hw 7 rfl) (oH hw 8 rfl) e0 (g := (mkF m 0 #[sR b1] [])) rfl (hb hby dj67_42_0) (by decide) (by decide)
  obtain ⟨b823, g823⟩ : ∃ z, z = h0.size := ⟨_, rfl⟩
  rw [← g823] at A823 D823 st823
  have g_b823 : n0 ≤ b823 := Nat.le_trans Z0 (Nat.le_of_eq g823.symm)
  have sz_b823 : h0.size ≤ b823 := Nat.le_trans (Keep.refl h0 []).1 (Nat.le_of_eq g823.symm)
  have P824 : Rg p e below (T823.setTop (mkF m 3 #[sR b1] [(.ref b823)])) B0 := fun t k => P0 t (by
    exact st823 _ k)
  have Z825 : n0 ≤ h823.size := Nat.le_trans Z0 E823.1
  have K826 : Keep h0 h823 [] := (Keep.refl h0 []).ext E823
  have O827 : Old Z n0 h823 := Ol.ext E823
  have f828 : Fld Z h823 b823 nS "coder" "B" (vI 0) := D823 (Or.inr (oH hw 33 rfl)) (ty := .byte) (by decide)
  have f829 : Fld Z h823 b823 nS "value" "[B" .null := D823 (Or.inr (oH hw 35 rfl)) (ty := (.array .byte)) (by decide)
  have f830 := (E_b1.ext E823)
  have f831 := (F_value.ext E823)
  have f832 := (F_coder.ext E823)
  have f833 := (F_count.ext E823)
  have f834 := (F_maybe.ext E823)
  have f835 := (A_v1.ext E823)
  have f836 := (E_v1.ext E823)
  obtain ⟨_, _, ⟨T837, L837, k837, n837⟩, -, X837, ⟨Lc837, hQ837, l837, y837, z837⟩, st837⟩ := X823.specialBack hx (y := y_34) rfl hown (mvT hZ (oH hw 132 rfl)) (mvT hZ (oH hw 133 rfl)) (mvT hZ (oH hw 134 rfl)) (by decide) (backOf (W := 1) (rm_sib1 l Z a0 hw [] b823 b1 v1 kv bc G1 G2 h823 n0 Z825 g_b823 A823 f829 f828 g_b1 g_v1 f830 f831 f832 f833 f834 f835 f836 hb6 Sg P5 Sf hG2 Sa Sh Sl O827) hZ (oH hw 134 rfl) (oH hw 8 rfl) (by decide) (by decide)) (g := (mkF m 5 #[sR b1] [(.ref b1), (.ref b823), (.ref b823)])) rfl (by rw [hml]; rfl) (Steps.refl _) (a := b823) (argsL := [(.ref b1)]) (rest := [(.ref b823)]) (lenOf pd24 rfl) rfl (oW rfl) (hb hby dj67_42_5) (fun _ _ => ⟨rfl, e823, (oB rfl : 1 + 1 ≤ _), (oB rfl : 4 + 12 ≤ _)⟩)
  dsimp only [Pt.U, Pt.locs, Pt.cells, Pt.slots] at X837 l837 y837 z837 st837 hQ837
  subst l837 y837 z837
  obtain ⟨rfl, Nq837, K837, Es837, Fc837, t837, k837, N837_, Fv837, A837, hN837⟩ := hQ837
  have N838 := Fr.app N0 Nq837
  have P839 : Rg p e below (T837.setTop (mkF m 8 #[sR b1] [(.ref b823)])) B0 := fun t k => P824 t (by
    refine XS.dup X823.here hx rfl (hb hby dj67_42_3) rfl rfl ?_
    refine XS.aloadN X823.here hx rfl (hb hby dj67_42_4) rfl rfl ?_
    exact st837.trans k)
  have Z840 : n0 ≤ T837.heap.size := Nat.le_trans Z825 K837.1
  have K841 : Keep h0 T837.heap [] := K826.trans K837 ((allS (Or.inr sz_b823) all0))
  have O842 : Old Z n0 T837.heap := O827.keep K837 (allS g_b823 all0)
  obtain ⟨fs843, hr843, hrun843, hended843, hW843, hsame843⟩ := X837.leave (v := some (.ref b823)) (fun h => by rw [Bd.returns] at h; cases h)
  refine ⟨_, _, pre0 _ (P839 _ ?_), hrun843, hended843, _, _, rfl, ?_, ⟨⟨_, rfl⟩, hW843, hsame843.mono (oB rfl) (oB rfl)⟩⟩
  · exact retOut X837 hx Bd.returns rfl (Or.inr (Or.inr (Or.inr (Or.inr ⟨rfl, rfl, rfl⟩)))) (hb hby dj67_42_8) hr843
  · show Q_sts1 Z bc h0 n0 _ T837.heap _
    exact ⟨b823, rfl, N838, K841, sz_b823, Es837, Fc837, t837, k837, N837_, Fv837, A837, hN837⟩
theorem dj52_5_0 : decode j52_5 0 = .ok (.getstatic 44, 3) := by decide +kernel
theorem dj52_5_3 : decode j52_5 3 = .ok (.ifCond .ne 25, 3) := by decide +kernel
theorem dj52_5_28 : decode j52_5 28 = .ok (.iload_n 1, 1) := by decide +kernel
theorem dj52_5_29 : decode j52_5 29 = .ok (.iconst 1, 1) := by decide +kernel
theorem dj52_5_30 : decode j52_5 30 = .ok (.ishl, 1) := by decide +kernel
theorem dj52_5_31 : decode j52_5 31 = .ok (.istore_n 1, 1) := by decide +kernel
theorem dj52_5_32 : decode j52_5 32 = .ok (.aload_n 0, 1) := by decide +kernel
theorem dj52_5_33 : decode j52_5 33 = .ok (.iload_n 1, 1) := by decide +kernel
theorem dj52_5_34 : decode j52_5 34 = .ok (.iinc 1 1, 3) := by decide +kernel
theorem dj52_5_37 : decode j52_5 37 = .ok (.baload, 1) := by decide +kernel
theorem dj52_5_38 : decode j52_5 38 = .ok (.sipush 255, 3) := by decide +kernel
theorem dj52_5_41 : decode j52_5 41 = .ok (.iand, 1) := by decide +kernel
theorem dj52_5_42 : decode j52_5 42 = .ok (.getstatic 59, 3) := by decide +kernel
theorem dj52_5_45 : decode j52_5 45 = .ok (.ishl, 1) := by decide +kernel
theorem dj52_5_46 : decode j52_5 46 = .ok (.aload_n 0, 1) := by decide +kernel
theorem dj52_5_47 : decode j52_5 47 = .ok (.iload_n 1, 1) := by decide +kernel
theorem dj52_5_48 : decode j52_5 48 = .ok (.baload, 1) := by decide +kernel
theorem dj52_5_49 : decode j52_5 49 = .ok (.sipush 255, 3) := by decide +kernel
theorem dj52_5_52 : decode j52_5 52 = .ok (.iand, 1) := by decide +kernel
theorem dj52_5_53 : decode j52_5 53 = .ok (.getstatic 63, 3) := by decide +kernel
theorem dj52_5_56 : decode j52_5 56 = .ok (.ishl, 1) := by decide +kernel
theorem dj52_5_57 : decode j52_5 57 = .ok (.ior, 1) := by decide +kernel
theorem dj52_5_58 : decode j52_5 58 = .ok (.i2c, 1) := by decide +kernel
theorem dj52_5_59 : decode j52_5 59 = .ok (.ireturn, 1) := by decide +kernel
theorem ef_gch (m : MethodId) (x0 : Addr) (x1 : Int32) : entryFrame m #[(.ref x0), (.int x1)] 2 = mkF m 0 #[sR x0, sI x1] [] := by (first | (simp [entryFrame, mkF, argsToLocals, Value.category]; done) | rfl)
def Q_gch (cc : Int32) (h0 : Heap) (n0 : Nat) (v : Option Value) (h : Heap) (L : List Loc) : Prop := v = some (.int cc) ∧ Fr n0 L ∧ h = h0
theorem rm_gch (l : Launch) (Z : State) (a0 : Array Value) (hw : Tb a0 Z) (ws : List Jvm.Cond) (v1 : Addr) (kv : ClassId) (M ix cc : Int32) (vs : List Value) (G1 : Int32) (G2 : Value) (h0 : Heap) (n0 : Nat) (Z0 : n0 ≤ h0.size) (A1 : Arv Z h0 v1 kv .byte M vs (vI 0)) (i1 : ¬ (ix <<< ((1 : Int32) &&& 31)) < 0 ∧ (ix <<< ((1 : Int32) &&& 31)) < M) (e1 : vs.getD (ix <<< ((1 : Int32) &&& 31)).toNatClampNeg (vI 0) = .int (cc.toInt8.toInt32)) (i2 : ¬ ((ix <<< ((1 : Int32) &&& 31)) + (1 : Int32)) < 0 ∧ ((ix <<< ((1 : Int32) &&& 31)) + (1 : Int32)) < M) (e2 : vs.getD ((ix <<< ((1 : Int32) &&& 31)) + (1 : Int32)).toNatClampNeg (vI 0) = .int ((cc >>> (8 : Int32)).toInt8.toInt32)) (hcc : ¬ cc < 0 ∧ ¬ (65535 : Int32) < cc) (Sg : oSg Z G1) (P5 : ¬ (G1 = (0 : Int32))) (Sf : oSf Z G2) (hG2 : G2.isRef = true) (Sa : oSa Z) (Sh : oSh Z) (Sl : oSl Z) (Ol : Old Z n0 h0) :
    MF l Z h0 y_36 j52_5 2 (some .char) ws (rM 0 0 0 0) #[(.ref v1), (.int ix)] (Q_gch cc h0 n0) := by
  refine MetFree.of_bodySF (plainFor_of_name pn_java_lang_StringUTF16) hisR ?_
  intro p e s m args below meth c s₁ Bd hml hP hK
  obtain ⟨rfl, hZ, hh⟩ := hP
  have hx := Bd.exec
  have hby := Bd.bytes
  have hown : s.vm.findClass "java/lang/StringUTF16" = some m.cls := findClass_of_methodNamed Bd.named
  have X0 : Stand p l e (rM 0 0 0 0) s m #[(.ref v1), (.int ix)] below meth c s₁ [] 0 0 := Stand.of_body Bd
  have e0 : s₁.heap = h0 := by rw [← hh, Bd.state]; rfl
  have N0 := Fr.nil n0
  obtain ⟨B0, pre0, P0⟩ : ∃ B, Rg p e below B (s₁.setTop (entryFrame m #[(.ref v1), (.int ix)] 2)) ∧ Rg p e below (s₁.setTop (mkF m 0 #[sR v1, sI ix] [])) B := ⟨_, fun t k => castTop (ef_gch m v1 ix) k, fun t k => k⟩
  obtain ⟨T844, X844, e844, st844⟩ := getS2 X0 hx hZ hown (host := "") (Or.inl (oH hw 219 rfl)) Via.refl e0 (Sa.ext Ol.2) (g := (mkF m 0 #[sR v1, sI ix] [])) rfl (hb hby dj52_5_0)
  have P845 : Rg p e below (T844.setTop (mkF m 3 #[sR v1, sI ix] [(vI 1)])) B0 := fun t k => P0 t (by
    exact st844 _ k)
  obtain ⟨cl846, Ar846, -, S846, N846, H846, -⟩ := id A1
  have hin846 : ¬ ((ix <<< ((1 : Int32) &&& 31)) < 0 ∨ cl846.slots.size ≤ ((ix <<< ((1 : Int32) &&& 31))).toNatClampNeg) := inb_of S846 i1
  obtain ⟨T847, X847, e847, st847⟩ := getS2 X844 hx hZ hown (host := "") (Or.inl (oH hw 220 rfl)) Via.refl e844 (Sh.ext Ol.2) (g := (mkF m 42 #[sR v1, .val (.int ((ix <<< ((1 : Int32) &&& 31)) + (1 : Int32)))] [(.int ((cc.toInt8.toInt32) &&& (255 : Int32)))])) rfl (hb hby dj52_5_42)
  have P848 : Rg p e below (T847.setTop (mkF m 45 #[sR v1, .val (.int ((ix <<< ((1 : Int32) &&& 31)) + (1 : Int32)))] [(vI 0), (.int ((cc.toInt8.toInt32) &&& (255 : Int32)))])) B0 := fun t k => P845 t (by
    refine XS.ifYes X844.here hx rfl (pc0 := 3) (pc' := 28) rfl (hb hby dj52_5_3) rfl ((if0 _ _).trans (feq (show ¬ ((1 : Int32) = (0 : Int32)) from (by decide))).2) (by decide) (by decide) ?_
    refine XS.iloadN X844.here hx rfl (hb hby dj52_5_28) rfl ?_
    refine XS.iconst X844.here hx rfl (hb hby dj52_5_29) ?_
    refine XS.ishl X844.here hx rfl (hb hby dj52_5_30) rfl ?_
    refine XS.istoreN X844.here hx rfl (hb hby dj52_5_31) rfl (l' := #[sR v1, .val (.int (ix <<< ((1 : Int32) &&& 31)))]) rfl ?_
    refine XS.aloadN X844.here hx rfl (hb hby dj52_5_32) rfl rfl ?_
    refine XS.iloadN X844.here hx rfl (hb hby dj52_5_33) rfl ?_
    refine XS.iinc X844.here hx rfl (hb hby dj52_5_34) rfl (l' := #[sR v1, .val (.int ((ix <<< ((1 : Int32) &&& 31)) + (1 : Int32)))]) rfl ?_
    show Sq p e below (T844.setTop (mkF m 37 #[sR v1, .val (.int ((ix <<< ((1 : Int32) &&& 31)) + (1 : Int32)))] [(.int (ix <<< ((1 : Int32) &&& 31))), (.ref v1)])) _
    refine X844.baloadBytes hx (j := (ix <<< ((1 : Int32) &&& 31))) (v := (.int (cc.toInt8.toInt32))) (by rw [e844]; exact Ar846.1) (State.isArrayOf_alike hZ.alike Ar846.2.1) Ar846.2.2 hin846 (H846.at hin846 e1) (g := (mkF m 37 #[sR v1, .val (.int ((ix <<< ((1 : Int32) &&& 31)) + (1 : Int32)))] [(.int (ix <<< ((1 : Int32) &&& 31))), (.ref v1)])) rfl rfl (hb hby dj52_5_37) _ ?_
    show Sq p e below (T844.setTop (mkF m 38 #[sR v1, .val (.int ((ix <<< ((1 : Int32) &&& 31)) + (1 : Int32)))] [(.int (cc.toInt8.toInt32))])) _
    refine XS.sipush X844.here hx rfl (hb hby dj52_5_38) ?_
    refine XS.iand X844.here hx rfl (hb hby dj52_5_41) rfl ?_
    exact st847 _ k)
  obtain ⟨cl849, Ar849, -, S849, N849, H849, -⟩ := id A1
  have hin849 : ¬ (((ix <<< ((1 : Int32) &&& 31)) + (1 : Int32)) < 0 ∨ cl849.slots.size ≤ (((ix <<< ((1 : Int32) &&& 31)) + (1 : Int32))).toNatClampNeg) := inb_of S849 i2
  obtain ⟨T850, X850, e850, st850⟩ := getS2 X847 hx hZ hown (host := "") (Or.inl (oH hw 221 rfl)) Via.refl e847 (Sl.ext Ol.2) (g := (mkF m 53 #[sR v1, .val (.int ((ix <<< ((1 : Int32) &&& 31)) + (1 : Int32)))] [(.int (((cc >>> (8 : Int32)).toInt8.toInt32) &&& (255 : Int32))), (.int (((cc.toInt8.toInt32) &&& (255 : Int32)) <<< ((0 : Int32) &&& 31)))])) rfl (hb hby dj52_5_53)
  have P851 : Rg p e below (T850.setTop (mkF m 56 #[sR v1, .val (.int ((ix <<< ((1 : Int32) &&& 31)) + (1 : Int32)))] [(vI 8), (.int (((cc >>> (8 : Int32)).toInt8.toInt32) &&& (255 : Int32))), (.int (((cc.toInt8.toInt32) &&& (255 : Int32)) <<< ((0 : Int32) &&& 31)))])) B0 := fun t k => P848 t (by
    refine XS.ishl X847.here hx rfl (hb hby dj52_5_45) rfl ?_
    refine XS.aloadN X847.here hx rfl (hb hby dj52_5_46) rfl rfl ?_
    refine XS.iloadN X847.here hx rfl (hb hby dj52_5_47) rfl ?_
    show Sq p e below (T847.setTop (mkF m 48 #[sR v1, .val (.int ((ix <<< ((1 : Int32) &&& 31)) + (1 : Int32)))] [(.int ((ix <<< ((1 : Int32) &&& 31)) + (1 : Int32))), (.ref v1), (.int (((cc.toInt8.toInt32) &&& (255 : Int32)) <<< ((0 : Int32) &&& 31)))])) _
    refine X847.baloadBytes hx (j := ((ix <<< ((1 : Int32) &&& 31)) + (1 : Int32))) (v := (.int ((cc >>> (8 : Int32)).toInt8.toInt32))) (by rw [e847]; exact Ar849.1) (State.isArrayOf_alike hZ.alike Ar849.2.1) Ar849.2.2 hin849 (H849.at hin849 e2) (g := (mkF m 48 #[sR v1, .val (.int ((ix <<< ((1 : Int32) &&& 31)) + (1 : Int32)))] [(.int ((ix <<< ((1 : Int32) &&& 31)) + (1 : Int32))), (.ref v1), (.int (((cc.toInt8.toInt32) &&& (255 : Int32)) <<< ((0 : Int32) &&& 31)))])) rfl rfl (hb hby dj52_5_48) _ ?_
    show Sq p e below (T847.setTop (mkF m 49 #[sR v1, .val (.int ((ix <<< ((1 : Int32) &&& 31)) + (1 : Int32)))] [(.int ((cc >>> (8 : Int32)).toInt8.toInt32)), (.int (((cc.toInt8.toInt32) &&& (255 : Int32)) <<< ((0 : Int32) &&& 31)))])) _
    refine XS.sipush X847.here hx rfl (hb hby dj52_5_49) ?_
    refine XS.iand X847.here hx rfl (hb hby dj52_5_52) rfl ?_
    exact st850 _ k)
  obtain ⟨fs852, hr852, hrun852, hended852, hW852, hsame852⟩ := X850.leave (v := some (.int (nar .char (((((cc.toInt8.toInt32) &&& (255 : Int32)) <<< ((0 : Int32) &&& 31)) ||| ((((cc >>> (8 : Int32)).toInt8.toInt32) &&& (255 : Int32)) <<< ((8 : Int32) &&& 31))).toUInt32.toUInt16.toUInt32.toInt32)))) (fun h => by rw [Bd.returns] at h; cases h)
  refine ⟨_, _, pre0 _ (P851 _ ?_), hrun852, hended852, _, _, rfl, ?_, ⟨⟨_, rfl⟩, hW852, hsame852.mono (oB rfl) (oB rfl)⟩⟩
  · show Sq p e below (T850.setTop (mkF m 56 #[sR v1, .val (.int ((ix <<< ((1 : Int32) &&& 31)) + (1 : Int32)))] [(vI 8), (.int (((cc >>> (8 : Int32)).toInt8.toInt32) &&& (255 : Int32))), (.int (((cc.toInt8.toInt32) &&& (255 : Int32)) <<< ((0 : Int32) &&& 31)))])) _
    refine XS.ishl X850.here hx rfl (hb hby dj52_5_56) rfl ?_
    refine XS.ior X850.here hx rfl (hb hby dj52_5_57) rfl ?_
    refine XS.i2c X850.here hx rfl (hb hby dj52_5_58) rfl ?_
    exact retN X850 hx (t := .char) Bd.returns (by simp) (hb hby dj52_5_59) hr852
  · show Q_gch cc h0 n0 _ T850.heap _
    rw [e850]
    exact ⟨congrArg (fun z => some (Value.int z)) (own_gc hcc), N0, rfl⟩
theorem dj43_2_0 : decode j43_2 0 = .ok (.iload_n 1, 1) := by decide +kernel
theorem dj43_2_1 : decode j43_2 1 = .ok (.aload_n 0, 1) := by decide +kernel
theorem dj43_2_2 : decode j43_2 2 = .ok (.arraylength, 1) := by decide +kernel
theorem dj43_2_3 : decode j43_2 3 = .ok (.invokestatic 9, 3) := by decide +kernel
theorem dj43_2_6 : decode j43_2 6 = .ok (.aload_n 0, 1) := by decide +kernel
theorem dj43_2_7 : decode j43_2 7 = .ok (.iload_n 1, 1) := by decide +kernel
theorem dj43_2_8 : decode j43_2 8 = .ok (.baload, 1) := by decide +kernel
theorem dj43_2_9 : decode j43_2 9 = .ok (.sipush 255, 3) := by decide +kernel
theorem dj43_2_12 : decode j43_2 12 = .ok (.iand, 1) := by decide +kernel
theorem dj43_2_13 : decode j43_2 13 = .ok (.i2c, 1) := by decide +kernel
theorem dj43_2_14 : decode j43_2 14 = .ok (.ireturn, 1) := by decide +kernel
theorem ef_lca (m : MethodId) (x0 : Addr) (x1 : Int32) : entryFrame m #[(.ref x0), (.int x1)] 2 = mkF m 0 #[sR x0, sI x1] [] := by (first | (simp [entryFrame, mkF, argsToLocals, Value.category]; done) | rfl)
def Q_lca (cc : Int32) (h0 : Heap) (n0 : Nat) (v : Option Value) (h : Heap) (L : List Loc) : Prop := v = some (.int cc) ∧ Fr n0 L ∧ h = h0
theorem rm_lca (l : Launch) (Z : State) (a0 : Array Value) (hw : Tb a0 Z) (ws : List Jvm.Cond) (v1 : Addr) (kv : ClassId) (M ix cc : Int32) (vs : List Value) (G1 : Int32) (G2 : Value) (h0 : Heap) (n0 : Nat) (Z0 : n0 ≤ h0.size) (A1 : Arv Z h0 v1 kv .byte M vs (vI 0)) (i1 : ¬ ix < 0 ∧ ix < M) (e1 : vs.getD ix.toNatClampNeg (vI 0) = .int (cc.toInt8.toInt32)) (hc8 : ¬ cc < 0 ∧ ¬ (255 : Int32) < cc) (hcc : ¬ cc < 0 ∧ ¬ (65535 : Int32) < cc) (Sg : oSg Z G1) (P5 : ¬ (G1 = (0 : Int32))) (Sf : oSf Z G2) (hG2 : G2.isRef = true) (Sa : oSa Z) (Sh : oSh Z) (Sl : oSl Z) (Ol : Old Z n0 h0) :
    MF l Z h0 y_37 j43_2 2 (some .char) ws (rM 2 0 0 27) #[(.ref v1), (.int ix)] (Q_lca cc h0 n0) := by
  refine MetFree.of_bodySF (plainFor_of_name pn_java_lang_StringLatin1) hisR ?_
  intro p e s m args below meth c s₁ Bd hml hP hK
  obtain ⟨rfl, hZ, hh⟩ := hP
  have hx := Bd.exec
  have hby := Bd.bytes
  have hown : s.vm.findClass "java/lang/StringLatin1" = some m.cls := findClass_of_methodNamed Bd.named
  have X0 : Stand p l e (rM 2 0 0 27) s m #[(.ref v1), (.int ix)] below meth c s₁ [] 0 0 := Stand.of_body Bd
  have e0 : s₁.heap = h0 := by rw [← hh, Bd.state]; rfl
  have N0 := Fr.nil n0
  obtain ⟨B0, pre0, P0⟩ : ∃ B, Rg p e below B (s₁.setTop (entryFrame m #[(.ref v1), (.int ix)] 2)) ∧ Rg p e below (s₁.setTop (mkF m 0 #[sR v1, sI ix] [])) B := ⟨_, fun t k => castTop (ef_lca m v1 ix) k, fun t k => k⟩
  obtain ⟨cl853, Ar853, -, S853, N853, -, -⟩ := id A1
  obtain ⟨_, _, ⟨T854, L854, k854, n854⟩, -, X854, ⟨Lc854, hQ854, l854, y854, z854⟩, st854⟩ := Jvm.LawKit.callS X0 hx (y := y_7) hown (mvT hZ (oH hw 189 rfl)) (mvT hZ (oH hw 190 rfl)) (mvT hZ (oH hw 8 rfl)) (mvT hZ (oH hw 191 rfl)) (by decide) (backOf (W := 0) (rm_six l Z a0 hw [] ix M G1 G2 h0 n0 Z0 i1.1 i1.2 Sg P5 Sf hG2 Sa Sh Sl Ol) hZ (oH hw 191 rfl) (oH hw 8 rfl) (by decide) (by decide)) (g := (mkF m 3 #[sR v1, sI ix] [(.int M), (.int ix)])) rfl (by rw [hml]; rfl) (argsL := [(.int ix), (.int M)]) (rest := []) (lenOf pd5 rfl) rfl (oW rfl) (hb hby dj43_2_3) (fun _ _ => ⟨rfl, e0, (oB rfl : 0 + 0 ≤ _), (oB rfl : 0 + 0 ≤ _)⟩)
  dsimp only [Pt.U, Pt.locs, Pt.cells, Pt.slots] at X854 l854 y854 z854 st854 hQ854
  subst l854 y854 z854
  obtain ⟨rfl, Nq854, e854⟩ := hQ854
  have N855 := Fr.app N0 Nq854
  have P856 : Rg p e below (T854.setTop (mkF m 6 #[sR v1, sI ix] [])) B0 := fun t k => P0 t (by
    refine XS.iloadN X0.here hx rfl (hb hby dj43_2_0) rfl ?_
    refine XS.aloadN X0.here hx rfl (hb hby dj43_2_1) rfl rfl ?_
    show Sq p e below (s₁.setTop (mkF m 2 #[sR v1, sI ix] [(.ref v1), (.int ix)])) _
    refine X0.arraylength hx (by rw [e0]; exact Ar853.1) (State.isArrayOf_alike hZ.alike Ar853.2.1) (g := (mkF m 2 #[sR v1, sI ix] [(.ref v1), (.int ix)])) rfl rfl (hb hby dj43_2_2) _ ?_
    rw [len_of S853 N853]
    exact st854 _ k)
  obtain ⟨cl857, Ar857, -, S857, N857, H857, -⟩ := id A1
  have hin857 : ¬ (ix < 0 ∨ cl857.slots.size ≤ (ix).toNatClampNeg) := inb_of S857 i1
  obtain ⟨fs858, hr858, hrun858, hended858, hW858, hsame858⟩ := X854.leave (v := some (.int (nar .char (((cc.toInt8.toInt32) &&& (255 : Int32)).toUInt32.toUInt16.toUInt32.toInt32)))) (fun h => by rw [Bd.returns] at h; cases h)
  refine ⟨_, _, pre0 _ (P856 _ ?_), hrun858, hended858, _, _, rfl, ?_, ⟨⟨_, rfl⟩, hW858, hsame858.mono (oB rfl) (oB rfl)⟩⟩
  · show Sq p e below (T854.setTop (mkF m 6 #[sR v1, sI ix] [])) _
    refine XS.aloadN X854.here hx rfl (hb hby dj43_2_6) rfl rfl ?_
    refine XS.iloadN X854.here hx rfl (hb hby dj43_2_7) rfl ?_
    show Sq p e below (T854.setTop (mkF m 8 #[sR v1, sI ix] [(.int ix), (.ref v1)])) _
    refine X854.baloadBytes hx (j := ix) (v := (.int (cc.toInt8.toInt32))) (by rw [e854]; exact Ar857.1) (State.isArrayOf_alike hZ.alike Ar857.2.1) Ar857.2.2 hin857 (H857.at hin857 e1) (g := (mkF m 8 #[sR v1, sI ix] [(.int ix), (.ref v1)])) rfl rfl (hb hby dj43_2_8) _ ?_
    show Sq p e below (T854.setTop (mkF m 9 #[sR v1, sI ix] [(.int (cc.toInt8.toInt32))])) _
    refine XS.sipush X854.here hx rfl (hb hby dj43_2_9) ?_
    refine XS.iand X854.here hx rfl (hb hby dj43_2_12) rfl ?_
    refine XS.i2c X854.here hx rfl (hb hby dj43_2_13) rfl ?_
    exact retN X854 hx (t := .char) Bd.returns (by simp) (hb hby dj43_2_14) hr858
  · show Q_lca cc h0 n0 _ T854.heap _
    rw [e854]
    exact ⟨congrArg (fun z => some (Value.int z)) (own_lc hc8 hcc), N855, rfl⟩
theorem dj52_83_0 : decode j52_83 0 = .ok (.iload_n 1, 1) := by decide +kernel
theorem dj52_83_1 : decode j52_83 1 = .ok (.aload_n 0, 1) := by decide +kernel
theorem dj52_83_2 : decode j52_83 2 = .ok (.invokestatic 67, 3) := by decide +kernel
theorem pd25 : parseMethodDescriptor "(I[B)V" = some ⟨[.int, (.array .byte)], none⟩ := by decide +kernel
theorem dj52_83_5 : decode j52_83 5 = .ok (.aload_n 0, 1) := by decide +kernel
theorem dj52_83_6 : decode j52_83 6 = .ok (.iload_n 1, 1) := by decide +kernel
theorem dj52_83_7 : decode j52_83 7 = .ok (.invokestatic 71, 3) := by decide +kernel
theorem pd26 : parseMethodDescriptor "([BI)C" = some ⟨[(.array .byte), .int], some .char⟩ := by decide +kernel
theorem dj52_83_10 : decode j52_83 10 = .ok (.ireturn, 1) := by decide +kernel
theorem ef_uca (m : MethodId) (x0 : Addr) (x1 : Int32) : entryFrame m #[(.ref x0), (.int x1)] 2 = mkF m 0 #[sR x0, sI x1] [] := by (first | (simp [entryFrame, mkF, argsToLocals, Value.category]; done) | rfl)
def Q_uca (cc : Int32) (h0 : Heap) (n0 : Nat) (v : Option Value) (h : Heap) (L : List Loc) : Prop := v = some (.int cc) ∧ Fr n0 L ∧ h = h0
theorem rm_uca (l : Launch) (Z : State) (a0 : Array Value) (hw : Tb a0 Z) (ws : List Jvm.Cond) (v1 : Addr) (kv : ClassId) (M ix cc : Int32) (vs : List Value) (G1 : Int32) (G2 : Value) (h0 : Heap) (n0 : Nat) (Z0 : n0 ≤ h0.size) (A1 : Arv Z h0 v1 kv .byte M vs (vI 0)) (q1 : ¬ ix < (0 : Int32)) (q2 : ix < (M >>> ((1 : Int32) &&& 31))) (i1 : ¬ (ix <<< ((1 : Int32) &&& 31)) < 0 ∧ (ix <<< ((1 : Int32) &&& 31)) < M) (e1 : vs.getD (ix <<< ((1 : Int32) &&& 31)).toNatClampNeg (vI 0) = .int (cc.toInt8.toInt32)) (i2 : ¬ ((ix <<< ((1 : Int32) &&& 31)) + (1 : Int32)) < 0 ∧ ((ix <<< ((1 : Int32) &&& 31)) + (1 : Int32)) < M) (e2 : vs.getD ((ix <<< ((1 : Int32) &&& 31)) + (1 : Int32)).toNatClampNeg (vI 0) = .int ((cc >>> (8 : Int32)).toInt8.toInt32)) (hcc : ¬ cc < 0 ∧ ¬ (65535 : Int32) < cc) (Sg : oSg Z G1) (P5 : ¬ (G1 = (0 : Int32))) (Sf : oSf Z G2) (hG2 : G2.isRef = true) (Sa : oSa Z) (Sh : oSh Z) (Sl : oSl Z) (Ol : Old Z n0 h0) :
    MF l Z h0 y_38 j52_83 2 (some .char) ws (rM 3 0 0 40) #[(.ref v1), (.int ix)] (Q_uca cc h0 n0) := by
  refine MetFree.of_bodySF (plainFor_of_name pn_java_lang_StringUTF16) hisR ?_
  intro p e s m args below meth c s₁ Bd hml hP hK
  obtain ⟨rfl, hZ, hh⟩ := hP
  have hx := Bd.exec
  have hby := Bd.bytes
  have hown : s.vm.findClass "java/lang/StringUTF16" = some m.cls := findClass_of_methodNamed Bd.named
  have X0 : Stand p l e (rM 3 0 0 40) s m #[(.ref v1), (.int ix)] below meth c s₁ [] 0 0 := Stand.of_body Bd
  have e0 : s₁.heap = h0 := by rw [← hh, Bd.state]; rfl
  have N0 := Fr.nil n0
  obtain ⟨B0, pre0, P0⟩ : ∃ B, Rg p e below B (s₁.setTop (entryFrame m #[(.ref v1), (.int ix)] 2)) ∧ Rg p e below (s₁.setTop (mkF m 0 #[sR v1, sI ix] [])) B := ⟨_, fun t k => castTop (ef_uca m v1 ix) k, fun t k => k⟩
  obtain ⟨_, _, ⟨T859, L859, k859, n859⟩, -, X859, ⟨Lc859, hQ859, l859, y859, z859⟩, st859⟩ := Jvm.LawKit.callS X0 hx (y := y_8) hown (mvT hZ (oH hw 259 rfl)) (mvT hZ (oH hw 260 rfl)) (mvT hZ (oH hw 23 rfl)) (mvT hZ (oH hw 261 rfl)) (by decide) (backOf (W := 0) (rm_uix l Z a0 hw [] ix v1 kv M vs G1 G2 h0 n0 Z0 A1 q1 q2 Sg P5 Sf hG2 Sa Sh Sl Ol) hZ (oH hw 261 rfl) (oH hw 23 rfl) (by decide) (by decide)) (g := (mkF m 2 #[sR v1, sI ix] [(.ref v1), (.int ix)])) rfl (by rw [hml]; rfl) (argsL := [(.int ix), (.ref v1)]) (rest := []) (lenOf pd25 rfl) rfl (oW rfl) (hb hby dj52_83_2) (fun _ _ => ⟨rfl, e0, (oB rfl : 0 + 0 ≤ _), (oB rfl : 0 + 0 ≤ _)⟩)
  dsimp only [Pt.U, Pt.locs, Pt.cells, Pt.slots] at X859 l859 y859 z859 st859 hQ859
  subst l859 y859 z859
  obtain ⟨rfl, Nq859, e859⟩ := hQ859
  have N860 := Fr.app N0 Nq859
  have P861 : Rg p e below (T859.setTop (mkF m 5 #[sR v1, sI ix] [])) B0 := fun t k => P0 t (by
    refine XS.iloadN X0.here hx rfl (hb hby dj52_83_0) rfl ?_
    refine XS.aloadN X0.here hx rfl (hb hby dj52_83_1) rfl rfl ?_
    exact st859 _ k)
  obtain ⟨_, _, ⟨T862, L862, k862, n862⟩, -, X862, ⟨Lc862, hQ862, l862, y862, z862⟩, st862⟩ := Jvm.LawKit.callS X859 hx (y := y_36) hown (mvT hZ (oH hw 263 rfl)) (mvT hZ (oH hw 264 rfl)) (mvT hZ (oH hw 23 rfl)) (mvT hZ (oH hw 265 rfl)) (by decide) (backOf (W := 0) (rm_gch l Z a0 hw [] v1 kv M ix cc vs G1 G2 h0 n0 Z0 A1 i1 e1 i2 e2 hcc Sg P5 Sf hG2 Sa Sh Sl Ol) hZ (oH hw 265 rfl) (oH hw 23 rfl) (by decide) (by decide)) (g := (mkF m 7 #[sR v1, sI ix] [(.int ix), (.ref v1)])) rfl (by rw [hml]; rfl) (argsL := [(.ref v1), (.int ix)]) (rest := []) (lenOf pd26 rfl) rfl (oW rfl) (hb hby dj52_83_7) (fun _ _ => ⟨rfl, e859, (oB rfl : 0 + 0 ≤ _), (oB rfl : 0 + 0 ≤ _)⟩)
  dsimp only [Pt.U, Pt.locs, Pt.cells, Pt.slots] at X862 l862 y862 z862 st862 hQ862
  subst l862 y862 z862
  obtain ⟨rfl, Nq862, e862⟩ := hQ862
  have N863 := Fr.app N860 Nq862
  have P864 : Rg p e below (T862.setTop (mkF m 10 #[sR v1, sI ix] [(.int cc)])) B0 := fun t k => P861 t (by
    refine XS.aloadN X859.here hx rfl (hb hby dj52_83_5) rfl rfl ?_
    refine XS.iloadN X859.here hx rfl (hb hby dj52_83_6) rfl ?_
    exact st862 _ k)
  obtain ⟨fs865, hr865, hrun865, hended865, hW865, hsame865⟩ := X862.leave (v := some (.int (nar .char cc))) (fun h => by rw [Bd.returns] at h; cases h)
  refine ⟨_, _, pre0 _ (P864 _ ?_), hrun865, hended865, _, _, rfl, ?_, ⟨⟨_, rfl⟩, hW865, hsame865.mono (oB rfl) (oB rfl)⟩⟩
  · exact retN X862 hx (t := .char) Bd.returns (by simp) (hb hby dj52_83_10) hr865
  · show Q_uca cc h0 n0 _ T862.heap _
    rw [e862]
    exact ⟨congrArg (fun z => some (Value.int z)) (own_nar hcc), N863, rfl⟩
theorem dj42_56_0 : decode j42_56 0 = .ok (.aload_n 0, 1) := by decide +kernel
theorem dj42_56_1 : decode j42_56 1 = .ok (.invokevirtual 492, 3) := by decide +kernel
theorem dj42_56_4 : decode j42_56 4 = .ok (.ifCond .eq 12, 3) := by decide +kernel
theorem dj42_56_7 : decode j42_56 7 = .ok (.aload_n 0, 1) := by decide +kernel
theorem dj42_56_8 : decode j42_56 8 = .ok (.getfield 9, 3) := by decide +kernel
theorem dj42_56_11 : decode j42_56 11 = .ok (.iload_n 1, 1) := by decide +kernel
theorem dj42_56_12 : decode j42_56 12 = .ok (.invokestatic 495, 3) := by decide +kernel
theorem dj42_56_15 : decode j42_56 15 = .ok (.ireturn, 1) := by decide +kernel
theorem ef_scafalse (m : MethodId) (x0 : Addr) (x1 : Int32) : entryFrame m #[(.ref x0), (.int x1)] 2 = mkF m 0 #[sR x0, sI x1] [] := by (first | (simp [entryFrame, mkF, argsToLocals, Value.category]; done) | rfl)
def Q_scafalse (ck : Int32) (h0 : Heap) (n0 : Nat) (v : Option Value) (h : Heap) (L : List Loc) : Prop := v = some (.int ck) ∧ Fr n0 L ∧ h = h0
theorem rm_scafalse (l : Launch) (Z : State) (a0 : Array Value) (hw : Tb a0 Z) (ws : List Jvm.Cond) (s1 t1 : Addr) (kt : ClassId) (N : Int32) (cs : List Int32) (nk : Nat) (ck : Int32) (G1 : Int32) (G2 : Value) (h0 : Heap) (n0 : Nat) (Z0 : n0 ≤ h0.size) (E_s1 : Exa Z h0 s1 nS) (V_s1 : Fld Z h0 s1 nS "value" "[B" (.ref t1)) (C_s1 : Fld Z h0 s1 nS "coder" "B" (vI 0)) (A_s1 : Arv Z h0 t1 kt .byte N ((own_by false cs).map Value.int) (vI 0)) (N_s1 : N = Int32.ofNat (own_by false cs).length) (hc6 : cs.length ≤ 6) (hk : cs[nk]? = some ck) (hcc : ¬ ck < 0 ∧ ¬ (65535 : Int32) < ck) (hL : false = false → ∀ c ∈ cs, ¬ c < 0 ∧ ¬ (255 : Int32) < c) (Sg : oSg Z G1) (P5 : ¬ (G1 = (0 : Int32))) (Sf : oSf Z G2) (hG2 : G2.isRef = true) (Sa : oSa Z) (Sh : oSh Z) (Sl : oSl Z) (Ol : Old Z n0 h0) :
    MF l Z h0 y_39 j42_56 2 (some .char) ws (rM 4 0 0 53) #[(.ref s1), (.int (Int32.ofNat nk))] (Q_scafalse ck h0 n0) := by
  refine MetFree.of_bodySF (plainFor_of_name pn_java_lang_String) hisR ?_
  intro p e s m args below meth c s₁ Bd hml hP hK
  obtain ⟨rfl, hZ, hh⟩ := hP
  have hx := Bd.exec
  have hby := Bd.bytes
  have hown : s.vm.findClass "java/lang/String" = some m.cls := findClass_of_methodNamed Bd.named
  have X0 : Stand p l e (rM 4 0 0 53) s m #[(.ref s1), (.int (Int32.ofNat nk))] below meth c s₁ [] 0 0 := Stand.of_body Bd
  have e0 : s₁.heap = h0 := by rw [← hh, Bd.state]; rfl
  have N0 := Fr.nil n0
  obtain ⟨B0, pre0, P0⟩ : ∃ B, Rg p e below B (s₁.setTop (entryFrame m #[(.ref s1), (.int (Int32.ofNat nk))] 2)) ∧ Rg p e below (s₁.setTop (mkF m 0 #[sR s1, .val (.int (Int32.ofNat nk))] [])) B := ⟨_, fun t k => castTop (ef_scafalse m s1 (Int32.ofNat nk)) k, fun t k => k⟩
  obtain ⟨cq884, kq884, q884a, q884b, q884c⟩ := isOf hZ e0 E_s1
  obtain ⟨_, _, ⟨T884, L884, k884, n884⟩, -, X884, ⟨Lc884, hQ884, l884, y884, z884⟩, st884⟩ := X0.virtualBack hx (y := y_15) (z := y_15) hown (mvT hZ (oH hw 180 rfl)) (mvT hZ (oH hw 181 rfl)) (notFace_of_selects (args := #[]) (mvT hZ (oH hw 183 rfl))) (mvT hZ (oH hw 183 rfl)) (mvT hZ (oH hw 182 rfl)) (by decide) (backOf (W := 0) (rm_silfalse l Z a0 hw [] s1 G1 G2 h0 n0 Z0 C_s1 Sg P5 Sf hG2 Sa Sh Sl Ol) hZ (oH hw 184 rfl) (oH hw 8 rfl) (by decide) (by decide)) q884a q884c (g := (mkF m 1 #[sR s1, .val (.int (Int32.ofNat nk))] [(.ref s1)])) rfl (by rw [hml]; rfl) (Steps.refl _) (argsL := []) (rest := []) (lenOf pd11 rfl) rfl (oW rfl) (hb hby dj42_56_1) (fun _ _ => ⟨rfl, e0, (oB rfl : 0 + 0 ≤ _), (oB rfl : 0 + 0 ≤ _)⟩)
  dsimp only [Pt.U, Pt.locs, Pt.cells, Pt.slots] at X884 l884 y884 z884 st884 hQ884
  subst l884 y884 z884
  obtain ⟨rfl, Nq884, e884⟩ := hQ884
  have N885 := Fr.app N0 Nq884
  have P886 : Rg p e below (T884.setTop (mkF m 4 #[sR s1, .val (.int (Int32.ofNat nk))] [(vI 1)])) B0 := fun t k => P0 t (by
    refine XS.aloadN X0.here hx rfl (hb hby dj42_56_0) rfl rfl ?_
    exact st884.trans k)
  obtain ⟨T887, X887, e887, st887⟩ := getF X884 hx hZ hown (host := "") (Or.inl (oH hw 34 rfl)) Via.refl e884 V_s1 (g := (mkF m 8 #[sR s1, .val (.int (Int32.ofNat nk))] [(.ref s1)])) rfl rfl (hb hby dj42_56_8)
  have P888 : Rg p e below (T887.setTop (mkF m 11 #[sR s1, .val (.int (Int32.ofNat nk))] [(.ref t1)])) B0 := fun t k => P886 t (by
    refine XS.ifNo X884.here hx rfl (hb hby dj42_56_4) rfl ((if0 _ _).trans (feq (show ¬ ((1 : Int32) = (0 : Int32)) from (by decide))).1) ?_
    refine XS.aloadN X884.here hx rfl (hb hby dj42_56_7) rfl rfl ?_
    exact st887 _ k)
  obtain ⟨x1, x2⟩ := own_atL N_s1 hc6 hk
  obtain ⟨_, _, ⟨T889, L889, k889, n889⟩, -, X889, ⟨Lc889, hQ889, l889, y889, z889⟩, st889⟩ := Jvm.LawKit.callS X887 hx (y := y_37) hown (mvT hZ (oH hw 185 rfl)) (mvT hZ (oH hw 186 rfl)) (mvT hZ (oH hw 187 rfl)) (mvT hZ (oH hw 188 rfl)) (by decide) (backOf (W := 0) (rm_lca l Z a0 hw [] t1 kt N (Int32.ofNat nk) ck ((own_by false cs).map Value.int) G1 G2 h0 n0 Z0 A_s1 x1 x2 (hL rfl ck (List.mem_of_getElem? hk)) hcc Sg P5 Sf hG2 Sa Sh Sl Ol) hZ (oH hw 188 rfl) (oH hw 187 rfl) (by decide) (by decide)) (g := (mkF m 12 #[sR s1, .val (.int (Int32.ofNat nk))] [(.int (Int32.ofNat nk)), (.ref t1)])) rfl (by rw [hml]; rfl) (argsL := [(.ref t1), (.int (Int32.ofNat nk))]) (rest := []) (lenOf pd26 rfl) rfl (oW rfl) (hb hby dj42_56_12) (fun _ _ => ⟨rfl, e887, (oB rfl : 0 + 0 ≤ _), (oB rfl : 0 + 0 ≤ _)⟩)
  dsimp only [Pt.U, Pt.locs, Pt.cells, Pt.slots] at X889 l889 y889 z889 st889 hQ889
  subst l889 y889 z889
  obtain ⟨rfl, Nq889, e889⟩ := hQ889
  have N890 := Fr.app N885 Nq889
  have P891 : Rg p e below (T889.setTop (mkF m 15 #[sR s1, .val (.int (Int32.ofNat nk))] [(.int ck)])) B0 := fun t k => P888 t (by
    refine XS.iloadN X887.here hx rfl (hb hby dj42_56_11) rfl ?_
    exact st889 _ k)
  obtain ⟨fs892, hr892, hrun892, hended892, hW892, hsame892⟩ := X889.leave (v := some (.int (nar .char ck))) (fun h => by rw [Bd.returns] at h; cases h)
  refine ⟨_, _, pre0 _ (P891 _ ?_), hrun892, hended892, _, _, rfl, ?_, ⟨⟨_, rfl⟩, hW892, hsame892.mono (oB rfl) (oB rfl)⟩⟩
  · exact retN X889 hx (t := .char) Bd.returns (by simp) (hb hby dj42_56_15) hr892
  · show Q_scafalse ck h0 n0 _ T889.heap _
    rw [e889]
    exact ⟨congrArg (fun z => some (Value.int z)) (own_nar hcc), N890, rfl⟩
theorem dj42_56_16 : decode j42_56 16 = .ok (.aload_n 0, 1) := by decide +kernel
theorem dj42_56_17 : decode j42_56 17 = .ok (.getfield 9, 3) := by decide +kernel
theorem dj42_56_20 : decode j42_56 20 = .ok (.iload_n 1, 1) := by decide +kernel
theorem dj42_56_21 : decode j42_56 21 = .ok (.invokestatic 498, 3) := by decide +kernel
theorem dj42_56_24 : decode j42_56 24 = .ok (.ireturn, 1) := by decide +kernel
theorem ef_scatrue (m : MethodId) (x0 : Addr) (x1 : Int32) : entryFrame m #[(.ref x0), (.int x1)] 2 = mkF m 0 #[sR x0, sI x1] [] := by (first | (simp [entryFrame, mkF, argsToLocals, Value.category]; done) | rfl)
def Q_scatrue (ck : Int32) (h0 : Heap) (n0 : Nat) (v : Option Value) (h : Heap) (L : List Loc) : Prop := v = some (.int ck) ∧ Fr n0 L ∧ h = h0
theorem rm_scatrue (l : Launch) (Z : State) (a0 : Array Value) (hw : Tb a0 Z) (ws : List Jvm.Cond) (s1 t1 : Addr) (kt : ClassId) (N : Int32) (cs : List Int32) (nk : Nat) (ck : Int32) (G1 : Int32) (G2 : Value) (h0 : Heap) (n0 : Nat) (Z0 : n0 ≤ h0.size) (E_s1 : Exa Z h0 s1 nS) (V_s1 : Fld Z h0 s1 nS "value" "[B" (.ref t1)) (C_s1 : Fld Z h0 s1 nS "coder" "B" (vI 1)) (A_s1 : Arv Z h0 t1 kt .byte N ((own_by true cs).map Value.int) (vI 0)) (N_s1 : N = Int32.ofNat (own_by true cs).length) (hc6 : cs.length ≤ 6) (hk : cs[nk]? = some ck) (hcc : ¬ ck < 0 ∧ ¬ (65535 : Int32) < ck) (hL : true = false → ∀ c ∈ cs, ¬ c < 0 ∧ ¬ (255 : Int32) < c) (Sg : oSg Z G1) (P5 : ¬ (G1 = (0 : Int32))) (Sf : oSf Z G2) (hG2 : G2.isRef = true) (Sa : oSa Z) (Sh : oSh Z) (Sl : oSl Z) (Ol : Old Z n0 h0) :
    MF l Z h0 y_39 j42_56 2 (some .char) ws (rM 4 0 0 53) #[(.ref s1), (.int (Int32.ofNat nk))] (Q_scatrue ck h0 n0) := by
  refine MetFree.of_bodySF (plainFor_of_name pn_java_lang_String) hisR ?_
  intro p e s m args below meth c s₁ Bd hml hP hK
  obtain ⟨rfl, hZ, hh⟩ := hP
  have hx := Bd.exec
  have hby := Bd.bytes
  have hown : s.vm.findClass "java/lang/String" = some m.cls := findClass_of_methodNamed Bd.named
  have X0 : Stand p l e (rM 4 0 0 53) s m #[(.ref s1), (.int (Int32.ofNat nk))] below meth c s₁ [] 0 0 := Stand.of_body Bd
  have e0 : s₁.heap = h0 := by rw [← hh, Bd.state]; rfl
  have N0 := Fr.nil n0
  obtain ⟨B0, pre0, P0⟩ : ∃ B, Rg p e below B (s₁.setTop (entryFrame m #[(.ref s1), (.int (Int32.ofNat nk))] 2)) ∧ Rg p e below (s₁.setTop (mkF m 0 #[sR s1, .val (.int (Int32.ofNat nk))] [])) B := ⟨_, fun t k => castTop (ef_scatrue m s1 (Int32.ofNat nk)) k, fun t k => k⟩
  obtain ⟨cq893, kq893, q893a, q893b, q893c⟩ := isOf hZ e0 E_s1
  obtain ⟨_, _, ⟨T893, L893, k893, n893⟩, -, X893, ⟨Lc893, hQ893, l893, y893, z893⟩, st893⟩ := X0.virtualBack hx (y := y_15) (z := y_15) hown (mvT hZ (oH hw 180 rfl)) (mvT hZ (oH hw 181 rfl)) (notFace_of_selects (args := #[]) (mvT hZ (oH hw 183 rfl))) (mvT hZ (oH hw 183 rfl)) (mvT hZ (oH hw 182 rfl)) (by decide) (backOf (W := 0) (rm_siltrue l Z a0 hw [] s1 G1 G2 h0 n0 Z0 C_s1 Sg P5 Sf hG2 Sa Sh Sl Ol) hZ (oH hw 184 rfl) (oH hw 8 rfl) (by decide) (by decide)) q893a q893c (g := (mkF m 1 #[sR s1, .val (.int (Int32.ofNat nk))] [(.ref s1)])) rfl (by rw [hml]; rfl) (Steps.refl _) (argsL := []) (rest := []) (lenOf pd11 rfl) rfl (oW rfl) (hb hby dj42_56_1) (fun _ _ => ⟨rfl, e0, (oB rfl : 0 + 0 ≤ _), (oB rfl : 0 + 0 ≤ _)⟩)
  dsimp only [Pt.U, Pt.locs, Pt.cells, Pt.slots] at X893 l893 y893 z893 st893 hQ893
  subst l893 y893 z893
  obtain ⟨rfl, Nq893, e893⟩ := hQ893
  have N894 := Fr.app N0 Nq893
  have P895 : Rg p e below (T893.setTop (mkF m 4 #[sR s1, .val (.int (Int32.ofNat nk))] [(vI 0)])) B0 := fun t k => P0 t (by
    refine XS.aloadN X0.here hx rfl (hb hby dj42_56_0) rfl rfl ?_
    exact st893.trans k)
  obtain ⟨T896, X896, e896, st896⟩ := getF X893 hx hZ hown (host := "") (Or.inl (oH hw 34 rfl)) Via.refl e893 V_s1 (g := (mkF m 17 #[sR s1, .val (.int (Int32.ofNat nk))] [(.ref s1)])) rfl rfl (hb hby dj42_56_17)
  have P897 : Rg p e below (T896.setTop (mkF m 20 #[sR s1, .val (.int (Int32.ofNat nk))] [(.ref t1)])) B0 := fun t k => P895 t (by
    refine XS.ifYes X893.here hx rfl (pc0 := 4) (pc' := 16) rfl (hb hby dj42_56_4) rfl ((if0 _ _).trans (teq (show (0 : Int32) = (0 : Int32) from (by decide))).1) (by decide) (by decide) ?_
    refine XS.aloadN X893.here hx rfl (hb hby dj42_56_16) rfl rfl ?_
    exact st896 _ k)
  obtain ⟨x1, x2, x3, x4, x5, x6⟩ := own_atU N_s1 hc6 hk
  obtain ⟨_, _, ⟨T898, L898, k898, n898⟩, -, X898, ⟨Lc898, hQ898, l898, y898, z898⟩, st898⟩ := Jvm.LawKit.callS X896 hx (y := y_38) hown (mvT hZ (oH hw 256 rfl)) (mvT hZ (oH hw 257 rfl)) (mvT hZ (oH hw 23 rfl)) (mvT hZ (oH hw 258 rfl)) (by decide) (backOf (W := 0) (rm_uca l Z a0 hw [] t1 kt N (Int32.ofNat nk) ck ((own_by true cs).map Value.int) G1 G2 h0 n0 Z0 A_s1 x1 x2 x3 x4 x5 x6 hcc Sg P5 Sf hG2 Sa Sh Sl Ol) hZ (oH hw 258 rfl) (oH hw 23 rfl) (by decide) (by decide)) (g := (mkF m 21 #[sR s1, .val (.int (Int32.ofNat nk))] [(.int (Int32.ofNat nk)), (.ref t1)])) rfl (by rw [hml]; rfl) (argsL := [(.ref t1), (.int (Int32.ofNat nk))]) (rest := []) (lenOf pd26 rfl) rfl (oW rfl) (hb hby dj42_56_21) (fun _ _ => ⟨rfl, e896, (oB rfl : 0 + 0 ≤ _), (oB rfl : 0 + 0 ≤ _)⟩)
  dsimp only [Pt.U, Pt.locs, Pt.cells, Pt.slots] at X898 l898 y898 z898 st898 hQ898
  subst l898 y898 z898
  obtain ⟨rfl, Nq898, e898⟩ := hQ898
  have N899 := Fr.app N894 Nq898
  have P900 : Rg p e below (T898.setTop (mkF m 24 #[sR s1, .val (.int (Int32.ofNat nk))] [(.int ck)])) B0 := fun t k => P897 t (by
    refine XS.iloadN X896.here hx rfl (hb hby dj42_56_20) rfl ?_
    exact st898 _ k)
  obtain ⟨fs901, hr901, hrun901, hended901, hW901, hsame901⟩ := X898.leave (v := some (.int (nar .char ck))) (fun h => by rw [Bd.returns] at h; cases h)
  refine ⟨_, _, pre0 _ (P900 _ ?_), hrun901, hended901, _, _, rfl, ?_, ⟨⟨_, rfl⟩, hW901, hsame901.mono (oB rfl) (oB rfl)⟩⟩
  · exact retN X898 hx (t := .char) Bd.returns (by simp) (hb hby dj42_56_24) hr901
  · show Q_scatrue ck h0 n0 _ T898.heap _
    rw [e898]
    exact ⟨congrArg (fun z => some (Value.int z)) (own_nar hcc), N899, rfl⟩
def Q_sca (ck : Int32) (h0 : Heap) (n0 : Nat) (v : Option Value) (h : Heap) (L : List Loc) : Prop := v = some (.int ck) ∧ Fr n0 L ∧ h = h0
theorem rm_sca (l : Launch) (Z : State) (a0 : Array Value) (hw : Tb a0 Z) (ws : List Jvm.Cond) (u : Bool) (s1 t1 : Addr) (kt : ClassId) (N : Int32) (cs : List Int32) (nk : Nat) (ck : Int32) (G1 : Int32) (G2 : Value) (h0 : Heap) (n0 : Nat) (Z0 : n0 ≤ h0.size) (E_s1 : Exa Z h0 s1 nS) (V_s1 : Fld Z h0 s1 nS "value" "[B" (.ref t1)) (C_s1 : Fld Z h0 s1 nS "coder" "B" (.int (own_co u))) (A_s1 : Arv Z h0 t1 kt .byte N ((own_by u cs).map Value.int) (vI 0)) (N_s1 : N = Int32.ofNat (own_by u cs).length) (hc6 : cs.length ≤ 6) (hk : cs[nk]? = some ck) (hcc : ¬ ck < 0 ∧ ¬ (65535 : Int32) < ck) (hL : u = false → ∀ c ∈ cs, ¬ c < 0 ∧ ¬ (255 : Int32) < c) (Sg : oSg Z G1) (P5 : ¬ (G1 = (0 : Int32))) (Sf : oSf Z G2) (hG2 : G2.isRef = true) (Sa : oSa Z) (Sh : oSh Z) (Sl : oSl Z) (Ol : Old Z n0 h0) :
    MF l Z h0 y_39 j42_56 2 (some .char) ws (rM 4 0 0 53) #[(.ref s1), (.int (Int32.ofNat nk))] (Q_sca ck h0 n0) := by
  cases u
  · exact rm_scafalse l Z a0 hw ws s1 t1 kt N cs nk ck G1 G2 h0 n0 Z0 E_s1 V_s1 C_s1 A_s1 N_s1 hc6 hk hcc hL Sg P5 Sf hG2 Sa Sh Sl Ol
  · exact rm_scatrue l Z a0 hw ws s1 t1 kt N cs nk ck G1 G2 h0 n0 Z0 E_s1 V_s1 C_s1 A_s1 N_s1 hc6 hk hcc hL Sg P5 Sf hG2 Sa Sh Sl Ol
def Q_slg (cs : List Int32) (h0 : Heap) (n0 : Nat) (v : Option Value) (h : Heap) (L : List Loc) : Prop := v = some (.int (Int32.ofNat cs.length)) ∧ Fr n0 L ∧ h = h0
theorem rm_slg (l : Launch) (Z : State) (a0 : Array Value) (hw : Tb a0 Z) (ws : List Jvm.Cond) (u : Bool) (s1 t1 : Addr) (kt : ClassId) (N : Int32) (cs : List Int32) (G1 : Int32) (G2 : Value) (h0 : Heap) (n0 : Nat) (Z0 : n0 ≤ h0.size) (E_s1 : Exa Z h0 s1 nS) (V_s1 : Fld Z h0 s1 nS "value" "[B" (.ref t1)) (C_s1 : Fld Z h0 s1 nS "coder" "B" (.int (own_co u))) (A_s1 : Arv Z h0 t1 kt .byte N ((own_by u cs).map Value.int) (vI 0)) (N_s1 : N = Int32.ofNat (own_by u cs).length) (hc6 : cs.length ≤ 6) (Sg : oSg Z G1) (P5 : ¬ (G1 = (0 : Int32))) (Sf : oSf Z G2) (hG2 : G2.isRef = true) (Sa : oSa Z) (Sh : oSh Z) (Sl : oSl Z) (Ol : Old Z n0 h0) :
    MF l Z h0 y_14 j42_54 1 (some .int) ws (rM 1 0 0 13) #[(.ref s1)] (Q_slg cs h0 n0) := by
  cases u
  · exact rm_slefalse l Z a0 hw ws s1 t1 kt N cs G1 G2 h0 n0 Z0 E_s1 V_s1 C_s1 A_s1 N_s1 hc6 Sg P5 Sf hG2 Sa Sh Sl Ol
  · exact rm_sletrue l Z a0 hw ws s1 t1 kt N cs G1 G2 h0 n0 Z0 E_s1 V_s1 C_s1 A_s1 N_s1 hc6 Sg P5 Sf hG2 Sa Sh Sl Ol
theorem dj52_21_0 : decode j52_21 0 = .ok (.iconst 0, 1) := by decide +kernel
theorem dj52_21_1 : decode j52_21 1 = .ok (.istore 5, 2) := by decide +kernel
theorem dj52_21_3 : decode j52_21 3 = .ok (.iload 5, 2) := by decide +kernel
theorem dj52_21_5 : decode j52_21 5 = .ok (.iload 4, 2) := by decide +kernel
theorem dj52_21_7 : decode j52_21 7 = .ok (.if_icmp .ge 37, 3) := by decide +kernel
theorem dj52_21_10 : decode j52_21 10 = .ok (.aload_n 0, 1) := by decide +kernel
theorem dj52_21_11 : decode j52_21 11 = .ok (.iload_n 1, 1) := by decide +kernel
theorem dj52_21_12 : decode j52_21 12 = .ok (.caload, 1) := by decide +kernel
theorem dj52_21_13 : decode j52_21 13 = .ok (.istore 6, 2) := by decide +kernel
theorem dj52_21_15 : decode j52_21 15 = .ok (.iload 6, 2) := by decide +kernel
theorem dj52_21_17 : decode j52_21 17 = .ok (.sipush 255, 3) := by decide +kernel
theorem dj52_21_20 : decode j52_21 20 = .ok (.if_icmp .le 6, 3) := by decide +kernel
theorem dj52_21_26 : decode j52_21 26 = .ok (.aload_n 2, 1) := by decide +kernel
theorem dj52_21_27 : decode j52_21 27 = .ok (.iload_n 3, 1) := by decide +kernel
theorem dj52_21_28 : decode j52_21 28 = .ok (.iload 6, 2) := by decide +kernel
theorem dj52_21_30 : decode j52_21 30 = .ok (.i2b, 1) := by decide +kernel
theorem dj52_21_31 : decode j52_21 31 = .ok (.bastore, 1) := by decide +kernel
theorem dj52_21_32 : decode j52_21 32 = .ok (.iinc 1 1, 3) := by decide +kernel
theorem dj52_21_35 : decode j52_21 35 = .ok (.iinc 3 1, 3) := by decide +kernel
theorem dj52_21_38 : decode j52_21 38 = .ok (.iinc 5 1, 3) := by decide +kernel
theorem dj52_21_41 : decode j52_21 41 = .ok (.goto (-38), 3) := by decide +kernel
theorem dj52_21_44 : decode j52_21 44 = .ok (.iload 4, 2) := by decide +kernel
theorem dj52_21_46 : decode j52_21 46 = .ok (.ireturn, 1) := by decide +kernel
theorem ef_cmiLL (m : MethodId) (x0 : Addr) (x1 : Int32) (x2 : Addr) (x3 : Int32) (x4 : Int32) : entryFrame m #[(.ref x0), (.int x1), (.ref x2), (.int x3), (.int x4)] 7 = mkF m 0 #[sR x0, sI x1, sR x2, sI x3, sI x4, sU, sU] [] := by (first | (simp [entryFrame, mkF, argsToLocals, Value.category]; done) | rfl)
def Q_cmiLL (Z : State) (dst : Addr) (kd : ClassId) (p1 p2 : Int32) (h0 : Heap) (n0 : Nat) (v : Option Value) (h : Heap) (L : List Loc) : Prop := v = some (vI 2) ∧ Fr n0 L ∧ Keep h0 h [dst] ∧ Arv Z h dst kd .byte (2 : Int32) ((own_by false [p1, p2]).map Value.int) (vI 0)
theorem rm_cmiLL (l : Launch) (Z : State) (a0 : Array Value) (hw : Tb a0 Z) (ws : List Jvm.Cond) (src dst : Addr) (ks kd : ClassId) (p1 p2 : Int32) (h0 : Heap) (n0 : Nat) (Z0 : n0 ≤ h0.size) (g_dst : n0 ≤ dst) (AS : Arv Z h0 src ks .char (2 : Int32) [(.int p1), (.int p2)] (vI 0)) (AD : Arv Z h0 dst kd .byte (2 : Int32) [(vI 0), (vI 0)] (vI 0)) (nSD : src ≠ dst) (o1 : ¬ (255 : Int32) < p1) (o2 : ¬ (255 : Int32) < p2)  :
    MF l Z h0 y_40 j52_21 7 (some .int) ws (rM 0 0 0 0) #[(.ref src), (vI 0), (.ref dst), (vI 0), (vI 2)] (Q_cmiLL Z dst kd p1 p2 h0 n0) := by
  refine MetFree.of_bodySF (plainFor_of_name pn_java_lang_StringUTF16) hisR ?_
  intro p e s m args below meth c s₁ Bd hml hP hK
  obtain ⟨rfl, hZ, hh⟩ := hP
  have hx := Bd.exec
  have hby := Bd.bytes
  have hown : s.vm.findClass "java/lang/StringUTF16" = some m.cls := findClass_of_methodNamed Bd.named
  have X0 : Stand p l e (rM 0 0 0 0) s m #[(.ref src), (vI 0), (.ref dst), (vI 0), (vI 2)] below meth c s₁ [] 0 0 := Stand.of_body Bd
  have e0 : s₁.heap = h0 := by rw [← hh, Bd.state]; rfl
  have N0 := Fr.nil n0
  obtain ⟨B0, pre0, P0⟩ : ∃ B, Rg p e below B (s₁.setTop (entryFrame m #[(.ref src), (vI 0), (.ref dst), (vI 0), (vI 2)] 7)) ∧ Rg p e below (s₁.setTop (mkF m 0 #[sR src, sI 0, sR dst, sI 0, sI 2, sU, sU] [])) B := ⟨_, fun t k => castTop (ef_cmiLL m src (0 : Int32) dst (0 : Int32) (2 : Int32)) k, fun t k => k⟩
  obtain ⟨cl902, Ar902, -, S902, N902, H902, -⟩ := id AS
  have hin902 : ¬ ((0 : Int32) < 0 ∨ cl902.slots.size ≤ ((0 : Int32)).toNatClampNeg) := inb_of S902 ⟨by decide, by decide⟩
  obtain ⟨cl903, Ar903, q903, S903, N903, H903, G903⟩ := id AD
  obtain ⟨T903, h903, X903, e903, W903, st903⟩ := stB X0 hx hZ e0 Ar903 (j := (0 : Int32)) (inb_of S903 ⟨by decide, by decide⟩) (g := (mkF m 31 #[sR src, sI 0, sR dst, sI 0, sI 2, sI 0, sI p1] [(.int (p1.toInt8.toInt32)), (vI 0), (.ref dst)])) rfl rfl (hb hby dj52_21_31)
  have v904 : Arv Z h903 dst kd .byte (2 : Int32) [(.int (p1.toInt8.toInt32).toInt8.toInt32), (vI 0)] (vI 0) := Arv.set Ar903 q903 S903 N903 H903 G903 (fits_nar_byte _) W903 0 rfl (oB rfl)
  have P905 : Rg p e below (T903.setTop (mkF m 32 #[sR src, sI 0, sR dst, sI 0, sI 2, sI 0, sI p1] [])) B0 := fun t k => P0 t (by
    refine XS.iconst X0.here hx rfl (hb hby dj52_21_0) ?_
    refine XS.istore X0.here hx rfl (hb hby dj52_21_1) rfl (l' := #[sR src, sI 0, sR dst, sI 0, sI 2, sI 0, sU]) rfl ?_
    refine XS.iload X0.here hx rfl (hb hby dj52_21_3) rfl ?_
    refine XS.iload X0.here hx rfl (hb hby dj52_21_5) rfl ?_
    refine XS.icmpNo X0.here hx rfl (hb hby dj52_21_7) rfl (tlt (show (0 : Int32) < (2 : Int32) from (by decide))).2.1 ?_
    refine XS.aloadN X0.here hx rfl (hb hby dj52_21_10) rfl rfl ?_
    refine XS.iloadN X0.here hx rfl (hb hby dj52_21_11) rfl ?_
    show Sq p e below (s₁.setTop (mkF m 12 #[sR src, sI 0, sR dst, sI 0, sI 2, sI 0, sU] [(vI 0), (.ref src)])) _
    refine X0.caload hx (j := (0 : Int32)) (v := (.int p1)) (by rw [e0]; exact Ar902.1) (State.isArrayOf_alike hZ.alike Ar902.2.1) Ar902.2.2 hin902 (H902.at hin902 rfl) (g := (mkF m 12 #[sR src, sI 0, sR dst, sI 0, sI 2, sI 0, sU] [(vI 0), (.ref src)])) rfl rfl (hb hby dj52_21_12) _ ?_
    show Sq p e below (s₁.setTop (mkF m 13 #[sR src, sI 0, sR dst, sI 0, sI 2, sI 0, sU] [(.int p1)])) _
    refine XS.istore X0.here hx rfl (hb hby dj52_21_13) rfl (l' := #[sR src, sI 0, sR dst, sI 0, sI 2, sI 0, sI p1]) rfl ?_
    refine XS.iload X0.here hx rfl (hb hby dj52_21_15) rfl ?_
    refine XS.sipush X0.here hx rfl (hb hby dj52_21_17) ?_
    refine XS.icmpYes X0.here hx rfl (pc0 := 20) (pc' := 26) rfl (hb hby dj52_21_20) rfl (flt (show ¬ ((255 : Int32) < p1) from o1)).2.2.2 (by decide) (by decide) ?_
    refine XS.aloadN X0.here hx rfl (hb hby dj52_21_26) rfl rfl ?_
    refine XS.iloadN X0.here hx rfl (hb hby dj52_21_27) rfl ?_
    refine XS.iload X0.here hx rfl (hb hby dj52_21_28) rfl ?_
    refine XS.i2b X0.here hx rfl (hb hby dj52_21_30) rfl ?_
    exact st903 _ k)
  have N906 := Fr.snoc X903 N0 g_dst
  have Z907 : n0 ≤ h903.size := Nat.le_trans Z0 (Keep.of_wr W903).1
  have K908 : Keep h0 h903 [dst] := (Keep.refl h0 [dst]).wr W903 (Or.inl (List.mem_of_getElem? (i := 0) rfl))
  have f909 := (AS.other W903 nSD)
  obtain ⟨cl910, Ar910, -, S910, N910, H910, -⟩ := id f909
  have hin910 : ¬ ((1 : Int32) < 0 ∨ cl910.slots.size ≤ ((1 : Int32)).toNatClampNeg) := inb_of S910 ⟨by decide, by decide⟩
  obtain ⟨cl911, Ar911, q911, S911, N911, H911, G911⟩ := id v904
  obtain ⟨T911, h911, X911, e911, W911, st911⟩ := stB X903 hx hZ e903 Ar911 (j := (1 : Int32)) (inb_of S911 ⟨by decide, by decide⟩) (g := (mkF m 31 #[sR src, sI 1, sR dst, sI 1, sI 2, sI 1, sI p2] [(.int (p2.toInt8.toInt32)), (vI 1), (.ref dst)])) rfl rfl (hb hby dj52_21_31)
  have v912 : Arv Z h911 dst kd .byte (2 : Int32) [(.int (p1.toInt8.toInt32).toInt8.toInt32), (.int (p2.toInt8.toInt32).toInt8.toInt32)] (vI 0) := Arv.set Ar911 q911 S911 N911 H911 G911 (fits_nar_byte _) W911 1 rfl (oB rfl)
  have P913 : Rg p e below (T911.setTop (mkF m 32 #[sR src, sI 1, sR dst, sI 1, sI 2, sI 1, sI p2] [])) B0 := fun t k => P905 t (by
    refine XS.iinc X903.here hx rfl (hb hby dj52_21_32) rfl (l' := #[sR src, sI 1, sR dst, sI 0, sI 2, sI 0, sI p1]) rfl ?_
    refine XS.iinc X903.here hx rfl (hb hby dj52_21_35) rfl (l' := #[sR src, sI 1, sR dst, sI 1, sI 2, sI 0, sI p1]) rfl ?_
    refine XS.iinc X903.here hx rfl (hb hby dj52_21_38) rfl (l' := #[sR src, sI 1, sR dst, sI 1, sI 2, sI 1, sI p1]) rfl ?_
    refine XS.goto X903.here hx rfl (pc0 := 41) (pc' := 3) rfl (hb hby dj52_21_41) (by decide) (by decide) ?_
    refine XS.iload X903.here hx rfl (hb hby dj52_21_3) rfl ?_
    refine XS.iload X903.here hx rfl (hb hby dj52_21_5) rfl ?_
    refine XS.icmpNo X903.here hx rfl (hb hby dj52_21_7) rfl (tlt (show (1 : Int32) < (2 : Int32) from (by decide))).2.1 ?_
    refine XS.aloadN X903.here hx rfl (hb hby dj52_21_10) rfl rfl ?_
    refine XS.iloadN X903.here hx rfl (hb hby dj52_21_11) rfl ?_
    show Sq p e below (T903.setTop (mkF m 12 #[sR src, sI 1, sR dst, sI 1, sI 2, sI 1, sI p1] [(vI 1), (.ref src)])) _
    refine X903.caload hx (j := (1 : Int32)) (v := (.int p2)) (by rw [e903]; exact Ar910.1) (State.isArrayOf_alike hZ.alike Ar910.2.1) Ar910.2.2 hin910 (H910.at hin910 rfl) (g := (mkF m 12 #[sR src, sI 1, sR dst, sI 1, sI 2, sI 1, sI p1] [(vI 1), (.ref src)])) rfl rfl (hb hby dj52_21_12) _ ?_
    show Sq p e below (T903.setTop (mkF m 13 #[sR src, sI 1, sR dst, sI 1, sI 2, sI 1, sI p1] [(.int p2)])) _
    refine XS.istore X903.here hx rfl (hb hby dj52_21_13) rfl (l' := #[sR src, sI 1, sR dst, sI 1, sI 2, sI 1, sI p2]) rfl ?_
    refine XS.iload X903.here hx rfl (hb hby dj52_21_15) rfl ?_
    refine XS.sipush X903.here hx rfl (hb hby dj52_21_17) ?_
    refine XS.icmpYes X903.here hx rfl (pc0 := 20) (pc' := 26) rfl (hb hby dj52_21_20) rfl (flt (show ¬ ((255 : Int32) < p2) from o2)).2.2.2 (by decide) (by decide) ?_
    refine XS.aloadN X903.here hx rfl (hb hby dj52_21_26) rfl rfl ?_
    refine XS.iloadN X903.here hx rfl (hb hby dj52_21_27) rfl ?_
    refine XS.iload X903.here hx rfl (hb hby dj52_21_28) rfl ?_
    refine XS.i2b X903.here hx rfl (hb hby dj52_21_30) rfl ?_
    exact st911 _ k)
  have N914 := Fr.snoc X911 N906 g_dst
  have Z915 : n0 ≤ h911.size := Nat.le_trans Z907 (Keep.of_wr W911).1
  have K916 : Keep h0 h911 [dst] := K908.wr W911 (Or.inl (List.mem_of_getElem? (i := 0) rfl))
  obtain ⟨fs917, hr917, hrun917, hended917, hW917, hsame917⟩ := X911.leave (v := some (vI 2)) (fun h => by rw [Bd.returns] at h; cases h)
  refine ⟨_, _, pre0 _ (P913 _ ?_), hrun917, hended917, _, _, rfl, ?_, ⟨⟨_, rfl⟩, hW917, hsame917.mono (oB rfl) (oB rfl)⟩⟩
  · show Sq p e below (T911.setTop (mkF m 32 #[sR src, sI 1, sR dst, sI 1, sI 2, sI 1, sI p2] [])) _
    refine XS.iinc X911.here hx rfl (hb hby dj52_21_32) rfl (l' := #[sR src, sI 2, sR dst, sI 1, sI 2, sI 1, sI p2]) rfl ?_
    refine XS.iinc X911.here hx rfl (hb hby dj52_21_35) rfl (l' := #[sR src, sI 2, sR dst, sI 2, sI 2, sI 1, sI p2]) rfl ?_
    refine XS.iinc X911.here hx rfl (hb hby dj52_21_38) rfl (l' := #[sR src, sI 2, sR dst, sI 2, sI 2, sI 2, sI p2]) rfl ?_
    refine XS.goto X911.here hx rfl (pc0 := 41) (pc' := 3) rfl (hb hby dj52_21_41) (by decide) (by decide) ?_
    refine XS.iload X911.here hx rfl (hb hby dj52_21_3) rfl ?_
    refine XS.iload X911.here hx rfl (hb hby dj52_21_5) rfl ?_
    refine XS.icmpYes X911.here hx rfl (pc0 := 7) (pc' := 44) rfl (hb hby dj52_21_7) rfl (flt (show ¬ ((2 : Int32) < (2 : Int32)) from (by decide))).2.1 (by decide) (by decide) ?_
    refine XS.iload X911.here hx rfl (hb hby dj52_21_44) rfl ?_
    exact retI X911 hx Bd.returns (hb hby dj52_21_46) hr917
  · show Q_cmiLL Z dst kd p1 p2 h0 n0 _ T911.heap _
    rw [e911]
    exact ⟨rfl, N914, K916, by have q9 := v912; simp only [own_i8] at q9; exact q9⟩
theorem dj52_21_23 : decode j52_21 23 = .ok (.iload 5, 2) := by decide +kernel
theorem dj52_21_25 : decode j52_21 25 = .ok (.ireturn, 1) := by decide +kernel
theorem ef_cmiU (m : MethodId) (x0 : Addr) (x1 : Int32) (x2 : Addr) (x3 : Int32) (x4 : Int32) : entryFrame m #[(.ref x0), (.int x1), (.ref x2), (.int x3), (.int x4)] 7 = mkF m 0 #[sR x0, sI x1, sR x2, sI x3, sI x4, sU, sU] [] := by (first | (simp [entryFrame, mkF, argsToLocals, Value.category]; done) | rfl)
def Q_cmiU (Z : State) (dst : Addr) (kd : ClassId) (p1 p2 : Int32) (h0 : Heap) (n0 : Nat) (v : Option Value) (h : Heap) (L : List Loc) : Prop := v = some (vI 0) ∧ Fr n0 L ∧ Keep h0 h [dst]
theorem rm_cmiU (l : Launch) (Z : State) (a0 : Array Value) (hw : Tb a0 Z) (ws : List Jvm.Cond) (src dst : Addr) (ks kd : ClassId) (p1 p2 : Int32) (h0 : Heap) (n0 : Nat) (Z0 : n0 ≤ h0.size) (g_dst : n0 ≤ dst) (AS : Arv Z h0 src ks .char (2 : Int32) [(.int p1), (.int p2)] (vI 0)) (AD : Arv Z h0 dst kd .byte (2 : Int32) [(vI 0), (vI 0)] (vI 0)) (nSD : src ≠ dst) (o1 : (255 : Int32) < p1)  :
    MF l Z h0 y_40 j52_21 7 (some .int) ws (rM 0 0 0 0) #[(.ref src), (vI 0), (.ref dst), (vI 0), (vI 2)] (Q_cmiU Z dst kd p1 p2 h0 n0) := by
  refine MetFree.of_bodySF (plainFor_of_name pn_java_lang_StringUTF16) hisR ?_
  intro p e s m args below meth c s₁ Bd hml hP hK
  obtain ⟨rfl, hZ, hh⟩ := hP
  have hx := Bd.exec
  have hby := Bd.bytes
  have hown : s.vm.findClass "java/lang/StringUTF16" = some m.cls := findClass_of_methodNamed Bd.named
  have X0 : Stand p l e (rM 0 0 0 0) s m #[(.ref src), (vI 0), (.ref dst), (vI 0), (vI 2)] below meth c s₁ [] 0 0 := Stand.of_body Bd
  have e0 : s₁.heap = h0 := by rw [← hh, Bd.state]; rfl
  have N0 := Fr.nil n0
  obtain ⟨B0, pre0, P0⟩ : ∃ B, Rg p e below B (s₁.setTop (entryFrame m #[(.ref src), (vI 0), (.ref dst), (vI 0), (vI 2)] 7)) ∧ Rg p e below (s₁.setTop (mkF m 0 #[sR src, sI 0, sR dst, sI 0, sI 2, sU, sU] [])) B := ⟨_, fun t k => castTop (ef_cmiU m src (0 : Int32) dst (0 : Int32) (2 : Int32)) k, fun t k => k⟩
  obtain ⟨cl918, Ar918, -, S918, N918, H918, -⟩ := id AS
  have hin918 : ¬ ((0 : Int32) < 0 ∨ cl918.slots.size ≤ ((0 : Int32)).toNatClampNeg) := inb_of S918 ⟨by decide, by decide⟩
  obtain ⟨fs919, hr919, hrun919, hended919, hW919, hsame919⟩ := X0.leave (v := some (vI 0)) (fun h => by rw [Bd.returns] at h; cases h)
  refine ⟨_, _, pre0 _ (P0 _ ?_), hrun919, hended919, _, _, rfl, ?_, ⟨⟨_, rfl⟩, hW919, hsame919.mono (oB rfl) (oB rfl)⟩⟩
  · refine XS.iconst X0.here hx rfl (hb hby dj52_21_0) ?_
    show Sq p e below (s₁.setTop (mkF m 1 #[sR src, sI 0, sR dst, sI 0, sI 2, sU, sU] [(vI 0)])) _
    refine XS.istore X0.here hx rfl (hb hby dj52_21_1) rfl (l' := #[sR src, sI 0, sR dst, sI 0, sI 2, sI 0, sU]) rfl ?_
    refine XS.iload X0.here hx rfl (hb hby dj52_21_3) rfl ?_
    refine XS.iload X0.here hx rfl (hb hby dj52_21_5) rfl ?_
    refine XS.icmpNo X0.here hx rfl (hb hby dj52_21_7) rfl (tlt (show (0 : Int32) < (2 : Int32) from (by decide))).2.1 ?_
    refine XS.aloadN X0.here hx rfl (hb hby dj52_21_10) rfl rfl ?_
    refine XS.iloadN X0.here hx rfl (hb hby dj52_21_11) rfl ?_
    show Sq p e below (s₁.setTop (mkF m 12 #[sR src, sI 0, sR dst, sI 0, sI 2, sI 0, sU] [(vI 0), (.ref src)])) _
    refine X0.caload hx (j := (0 : Int32)) (v := (.int p1)) (by rw [e0]; exact Ar918.1) (State.isArrayOf_alike hZ.alike Ar918.2.1) Ar918.2.2 hin918 (H918.at hin918 rfl) (g := (mkF m 12 #[sR src, sI 0, sR dst, sI 0, sI 2, sI 0, sU] [(vI 0), (.ref src)])) rfl rfl (hb hby dj52_21_12) _ ?_
    show Sq p e below (s₁.setTop (mkF m 13 #[sR src, sI 0, sR dst, sI 0, sI 2, sI 0, sU] [(.int p1)])) _
    refine XS.istore X0.here hx rfl (hb hby dj52_21_13) rfl (l' := #[sR src, sI 0, sR dst, sI 0, sI 2, sI 0, sI p1]) rfl ?_
    refine XS.iload X0.here hx rfl (hb hby dj52_21_15) rfl ?_
    refine XS.sipush X0.here hx rfl (hb hby dj52_21_17) ?_
    refine XS.icmpNo X0.here hx rfl (hb hby dj52_21_20) rfl (tlt (show (255 : Int32) < p1 from o1)).2.2.2 ?_
    refine XS.iload X0.here hx rfl (hb hby dj52_21_23) rfl ?_
    exact retI X0 hx Bd.returns (hb hby dj52_21_25) hr919
  · show Q_cmiU Z dst kd p1 p2 h0 n0 _ s₁.heap _
    rw [e0]
    exact ⟨rfl, N0, (Keep.refl h0 [dst])⟩
theorem ef_cmiLU (m : MethodId) (x0 : Addr) (x1 : Int32) (x2 : Addr) (x3 : Int32) (x4 : Int32) : entryFrame m #[(.ref x0), (.int x1), (.ref x2), (.int x3), (.int x4)] 7 = mkF m 0 #[sR x0, sI x1, sR x2, sI x3, sI x4, sU, sU] [] := by (first | (simp [entryFrame, mkF, argsToLocals, Value.category]; done) | rfl)
def Q_cmiLU (Z : State) (dst : Addr) (kd : ClassId) (p1 p2 : Int32) (h0 : Heap) (n0 : Nat) (v : Option Value) (h : Heap) (L : List Loc) : Prop := v = some (vI 1) ∧ Fr n0 L ∧ Keep h0 h [dst]
theorem rm_cmiLU (l : Launch) (Z : State) (a0 : Array Value) (hw : Tb a0 Z) (ws : List Jvm.Cond) (src dst : Addr) (ks kd : ClassId) (p1 p2 : Int32) (h0 : Heap) (n0 : Nat) (Z0 : n0 ≤ h0.size) (g_dst : n0 ≤ dst) (AS : Arv Z h0 src ks .char (2 : Int32) [(.int p1), (.int p2)] (vI 0)) (AD : Arv Z h0 dst kd .byte (2 : Int32) [(vI 0), (vI 0)] (vI 0)) (nSD : src ≠ dst) (o1 : ¬ (255 : Int32) < p1) (o2 : (255 : Int32) < p2)  :
    MF l Z h0 y_40 j52_21 7 (some .int) ws (rM 0 0 0 0) #[(.ref src), (vI 0), (.ref dst), (vI 0), (vI 2)] (Q_cmiLU Z dst kd p1 p2 h0 n0) := by
  refine MetFree.of_bodySF (plainFor_of_name pn_java_lang_StringUTF16) hisR ?_
  intro p e s m args below meth c s₁ Bd hml hP hK
  obtain ⟨rfl, hZ, hh⟩ := hP
  have hx := Bd.exec
  have hby := Bd.bytes
  have hown : s.vm.findClass "java/lang/StringUTF16" = some m.cls := findClass_of_methodNamed Bd.named
  have X0 : Stand p l e (rM 0 0 0 0) s m #[(.ref src), (vI 0), (.ref dst), (vI 0), (vI 2)] below meth c s₁ [] 0 0 := Stand.of_body Bd
  have e0 : s₁.heap = h0 := by rw [← hh, Bd.state]; rfl
  have N0 := Fr.nil n0
  obtain ⟨B0, pre0, P0⟩ : ∃ B, Rg p e below B (s₁.setTop (entryFrame m #[(.ref src), (vI 0), (.ref dst), (vI 0), (vI 2)] 7)) ∧ Rg p e below (s₁.setTop (mkF m 0 #[sR src, sI 0, sR dst, sI 0, sI 2, sU, sU] [])) B := ⟨_, fun t k => castTop (ef_cmiLU m src (0 : Int32) dst (0 : Int32) (2 : Int32)) k, fun t k => k⟩
  obtain ⟨cl920, Ar920, -, S920, N920, H920, -⟩ := id AS
  have hin920 : ¬ ((0 : Int32) < 0 ∨ cl920.slots.size ≤ ((0 : Int32)).toNatClampNeg) := inb_of S920 ⟨by decide, by decide⟩
  obtain ⟨cl921, Ar921, q921, S921, N921, H921, G921⟩ := id AD
  obtain ⟨T921, h921, X921, e921, W921, st921⟩ := stB X0 hx hZ e0 Ar921 (j := (0 : Int32)) (inb_of S921 ⟨by decide, by decide⟩) (g := (mkF m 31 #[sR src, sI 0, sR dst, sI 0, sI 2, sI 0, sI p1] [(.int (p1.toInt8.toInt32)), (vI 0), (.ref dst)])) rfl rfl (hb hby dj52_21_31)
  have v922 : Arv Z h921 dst kd .byte (2 : Int32) [(.int (p1.toInt8.toInt32).toInt8.toInt32), (vI 0)] (vI 0) := Arv.set Ar921 q921 S921 N921 H921 G921 (fits_nar_byte _) W921 0 rfl (oB rfl)
  have P923 : Rg p e below (T921.setTop (mkF m 32 #[sR src, sI 0, sR dst, sI 0, sI 2, sI 0, sI p1] [])) B0 := fun t k => P0 t (by
    refine XS.iconst X0.here hx rfl (hb hby dj52_21_0) ?_
    refine XS.istore X0.here hx rfl (hb hby dj52_21_1) rfl (l' := #[sR src, sI 0, sR dst, sI 0, sI 2, sI 0, sU]) rfl ?_
    refine XS.iload X0.here hx rfl (hb hby dj52_21_3) rfl ?_
    refine XS.iload X0.here hx rfl (hb hby dj52_21_5) rfl ?_
    refine XS.icmpNo X0.here hx rfl (hb hby dj52_21_7) rfl (tlt (show (0 : Int32) < (2 : Int32) from (by decide))).2.1 ?_
    refine XS.aloadN X0.here hx rfl (hb hby dj52_21_10) rfl rfl ?_
    refine XS.iloadN X0.here hx rfl (hb hby dj52_21_11) rfl ?_
    show Sq p e below (s₁.setTop (mkF m 12 #[sR src, sI 0, sR dst, sI 0, sI 2, sI 0, sU] [(vI 0), (.ref src)])) _
    refine X0.caload hx (j := (0 : Int32)) (v := (.int p1)) (by rw [e0]; exact Ar920.1) (State.isArrayOf_alike hZ.alike Ar920.2.1) Ar920.2.2 hin920 (H920.at hin920 rfl) (g := (mkF m 12 #[sR src, sI 0, sR dst, sI 0, sI 2, sI 0, sU] [(vI 0), (.ref src)])) rfl rfl (hb hby dj52_21_12) _ ?_
    show Sq p e below (s₁.setTop (mkF m 13 #[sR src, sI 0, sR dst, sI 0, sI 2, sI 0, sU] [(.int p1)])) _
    refine XS.istore X0.here hx rfl (hb hby dj52_21_13) rfl (l' := #[sR src, sI 0, sR dst, sI 0, sI 2, sI 0, sI p1]) rfl ?_
    refine XS.iload X0.here hx rfl (hb hby dj52_21_15) rfl ?_
    refine XS.sipush X0.here hx rfl (hb hby dj52_21_17) ?_
    refine XS.icmpYes X0.here hx rfl (pc0 := 20) (pc' := 26) rfl (hb hby dj52_21_20) rfl (flt (show ¬ ((255 : Int32) < p1) from o1)).2.2.2 (by decide) (by decide) ?_
    refine XS.aloadN X0.here hx rfl (hb hby dj52_21_26) rfl rfl ?_
    refine XS.iloadN X0.here hx rfl (hb hby dj52_21_27) rfl ?_
    refine XS.iload X0.here hx rfl (hb hby dj52_21_28) rfl ?_
    refine XS.i2b X0.here hx rfl (hb hby dj52_21_30) rfl ?_
    exact st921 _ k)
  have N924 := Fr.snoc X921 N0 g_dst
  have Z925 : n0 ≤ h921.size := Nat.le_trans Z0 (Keep.of_wr W921).1
  have K926 : Keep h0 h921 [dst] := (Keep.refl h0 [dst]).wr W921 (Or.inl (List.mem_of_getElem? (i := 0) rfl))
  have f927 := (AS.other W921 nSD)
  obtain ⟨cl928, Ar928, -, S928, N928, H928, -⟩ := id f927
  have hin928 : ¬ ((1 : Int32) < 0 ∨ cl928.slots.size ≤ ((1 : Int32)).toNatClampNeg) := inb_of S928 ⟨by decide, by decide⟩
  obtain ⟨fs929, hr929, hrun929, hended929, hW929, hsame929⟩ := X921.leave (v := some (vI 1)) (fun h => by rw [Bd.returns] at h; cases h)
  refine ⟨_, _, pre0 _ (P923 _ ?_), hrun929, hended929, _, _, rfl, ?_, ⟨⟨_, rfl⟩, hW929, hsame929.mono (oB rfl) (oB rfl)⟩⟩
  · show Sq p e below (T921.setTop (mkF m 32 #[sR src, sI 0, sR dst, sI 0, sI 2, sI 0, sI p1] [])) _
    refine XS.iinc X921.here hx rfl (hb hby dj52_21_32) rfl (l' := #[sR src, sI 1, sR dst, sI 0, sI 2, sI 0, sI p1]) rfl ?_
    refine XS.iinc X921.here hx rfl (hb hby dj52_21_35) rfl (l' := #[sR src, sI 1, sR dst, sI 1, sI 2, sI 0, sI p1]) rfl ?_
    refine XS.iinc X921.here hx rfl (hb hby dj52_21_38) rfl (l' := #[sR src, sI 1, sR dst, sI 1, sI 2, sI 1, sI p1]) rfl ?_
    refine XS.goto X921.here hx rfl (pc0 := 41) (pc' := 3) rfl (hb hby dj52_21_41) (by decide) (by decide) ?_
    refine XS.iload X921.here hx rfl (hb hby dj52_21_3) rfl ?_
    refine XS.iload X921.here hx rfl (hb hby dj52_21_5) rfl ?_
    refine XS.icmpNo X921.here hx rfl (hb hby dj52_21_7) rfl (tlt (show (1 : Int32) < (2 : Int32) from (by decide))).2.1 ?_
    refine XS.aloadN X921.here hx rfl (hb hby dj52_21_10) rfl rfl ?_
    refine XS.iloadN X921.here hx rfl (hb hby dj52_21_11) rfl ?_
    show Sq p e below (T921.setTop (mkF m 12 #[sR src, sI 1, sR dst, sI 1, sI 2, sI 1, sI p1] [(vI 1), (.ref src)])) _
    refine X921.caload hx (j := (1 : Int32)) (v := (.int p2)) (by rw [e921]; exact Ar928.1) (State.isArrayOf_alike hZ.alike Ar928.2.1) Ar928.2.2 hin928 (H928.at hin928 rfl) (g := (mkF m 12 #[sR src, sI 1, sR dst, sI 1, sI 2, sI 1, sI p1] [(vI 1), (.ref src)])) rfl rfl (hb hby dj52_21_12) _ ?_
    show Sq p e below (T921.setTop (mkF m 13 #[sR src, sI 1, sR dst, sI 1, sI 2, sI 1, sI p1] [(.int p2)])) _
    refine XS.istore X921.here hx rfl (hb hby dj52_21_13) rfl (l' := #[sR src, sI 1, sR dst, sI 1, sI 2, sI 1, sI p2]) rfl ?_
    refine XS.iload X921.here hx rfl (hb hby dj52_21_15) rfl ?_
    refine XS.sipush X921.here hx rfl (hb hby dj52_21_17) ?_
    refine XS.icmpNo X921.here hx rfl (hb hby dj52_21_20) rfl (tlt (show (255 : Int32) < p2 from o2)).2.2.2 ?_
    refine XS.iload X921.here hx rfl (hb hby dj52_21_23) rfl ?_
    exact retI X921 hx Bd.returns (hb hby dj52_21_25) hr929
  · show Q_cmiLU Z dst kd p1 p2 h0 n0 _ T921.heap _
    rw [e921]
    exact ⟨rfl, N924, K926⟩
theorem dj52_14_0 : decode j52_14 0 = .ok (.iload_n 2, 1) := by decide +kernel
theorem dj52_14_1 : decode j52_14 1 = .ok (.invokestatic 107, 3) := by decide +kernel
theorem dj52_14_4 : decode j52_14 4 = .ok (.astore_n 3, 1) := by decide +kernel
theorem dj52_14_5 : decode j52_14 5 = .ok (.iconst 0, 1) := by decide +kernel
theorem dj52_14_6 : decode j52_14 6 = .ok (.istore 4, 2) := by decide +kernel
theorem dj52_14_8 : decode j52_14 8 = .ok (.iload 4, 2) := by decide +kernel
theorem dj52_14_10 : decode j52_14 10 = .ok (.iload_n 2, 1) := by decide +kernel
theorem dj52_14_11 : decode j52_14 11 = .ok (.if_icmp .ge 21, 3) := by decide +kernel
theorem dj52_14_14 : decode j52_14 14 = .ok (.aload_n 3, 1) := by decide +kernel
theorem dj52_14_15 : decode j52_14 15 = .ok (.iload 4, 2) := by decide +kernel
theorem dj52_14_17 : decode j52_14 17 = .ok (.aload_n 0, 1) := by decide +kernel
theorem dj52_14_18 : decode j52_14 18 = .ok (.iload_n 1, 1) := by decide +kernel
theorem dj52_14_19 : decode j52_14 19 = .ok (.caload, 1) := by decide +kernel
theorem dj52_14_20 : decode j52_14 20 = .ok (.invokestatic 111, 3) := by decide +kernel
theorem dj52_14_23 : decode j52_14 23 = .ok (.iinc 1 1, 3) := by decide +kernel
theorem dj52_14_26 : decode j52_14 26 = .ok (.iinc 4 1, 3) := by decide +kernel
theorem dj52_14_29 : decode j52_14 29 = .ok (.goto (-21), 3) := by decide +kernel
theorem dj52_14_32 : decode j52_14 32 = .ok (.aload_n 3, 1) := by decide +kernel
theorem dj52_14_33 : decode j52_14 33 = .ok (.areturn, 1) := by decide +kernel
theorem ef_tb2 (m : MethodId) (x0 : Addr) (x1 : Int32) (x2 : Int32) : entryFrame m #[(.ref x0), (.int x1), (.int x2)] 5 = mkF m 0 #[sR x0, sI x1, sI x2, sU, sU] [] := by (first | (simp [entryFrame, mkF, argsToLocals, Value.category]; done) | rfl)
def Q_tb2 (Z : State) (p1 p2 : Int32) (h0 : Heap) (n0 : Nat) (v : Option Value) (h : Heap) (L : List Loc) : Prop := ∃ (t : Addr) (k : ClassId), v = some (.ref t) ∧ Fr n0 L ∧ Keep h0 h [] ∧ Arv Z h t k .byte (4 : Int32) ((own_by true [p1, p2]).map Value.int) (vI 0) ∧ h0.size ≤ t
theorem rm_tb2 (l : Launch) (Z : State) (a0 : Array Value) (hw : Tb a0 Z) (ws : List Jvm.Cond) (src : Addr) (ks : ClassId) (p1 p2 : Int32) (G1 : Int32) (G2 : Value) (h0 : Heap) (n0 : Nat) (Z0 : n0 ≤ h0.size) (AS : Arv Z h0 src ks .char (2 : Int32) [(.int p1), (.int p2)] (vI 0)) (Sg : oSg Z G1) (P5 : ¬ (G1 = (0 : Int32))) (Sf : oSf Z G2) (hG2 : G2.isRef = true) (Sa : oSa Z) (Sh : oSh Z) (Sl : oSl Z) (Ol : Old Z n0 h0) :
    MF l Z h0 y_41 j52_14 5 (some (.array .byte)) ws (rM 2 1 4 24) #[(.ref src), (vI 0), (vI 2)] (Q_tb2 Z p1 p2 h0 n0) := by
  refine MetFree.of_bodySF (plainFor_of_name pn_java_lang_StringUTF16) hisR ?_
  intro p e s m args below meth c s₁ Bd hml hP hK
  obtain ⟨rfl, hZ, hh⟩ := hP
  have hx := Bd.exec
  have hby := Bd.bytes
  have hown : s.vm.findClass "java/lang/StringUTF16" = some m.cls := findClass_of_methodNamed Bd.named
  have X0 : Stand p l e (rM 2 1 4 24) s m #[(.ref src), (vI 0), (vI 2)] below meth c s₁ [] 0 0 := Stand.of_body Bd
  have e0 : s₁.heap = h0 := by rw [← hh, Bd.state]; rfl
  have N0 := Fr.nil n0
  obtain ⟨B0, pre0, P0⟩ : ∃ B, Rg p e below B (s₁.setTop (entryFrame m #[(.ref src), (vI 0), (vI 2)] 5)) ∧ Rg p e below (s₁.setTop (mkF m 0 #[sR src, sI 0, sI 2, sU, sU] [])) B := ⟨_, fun t k => castTop (ef_tb2 m src (0 : Int32) (2 : Int32)) k, fun t k => k⟩
  obtain ⟨_, _, ⟨T930, L930, k930, n930⟩, -, X930, ⟨Lc930, hQ930, l930, y930, z930⟩, st930⟩ := Jvm.LawKit.callS X0 hx (y := y_10) hown (mvT hZ (oH hw 269 rfl)) (mvT hZ (oH hw 229 rfl)) (mvT hZ (oH hw 23 rfl)) (mvT hZ (oH hw 230 rfl)) (by decide) (backOf (W := 0) (rm_nbf2 l Z a0 hw []  h0 n0 Z0 ) hZ (oH hw 230 rfl) (oH hw 23 rfl) (by decide) (by decide)) (g := (mkF m 1 #[sR src, sI 0, sI 2, sU, sU] [(vI 2)])) rfl (by rw [hml]; rfl) (argsL := [(vI 2)]) (rest := []) (lenOf pd12 rfl) rfl (oW rfl) (hb hby dj52_14_1) (fun _ _ => ⟨rfl, e0, (oB rfl : 0 + 1 ≤ _), (oB rfl : 0 + 4 ≤ _)⟩)
  dsimp only [Pt.U, Pt.locs, Pt.cells, Pt.slots] at X930 l930 y930 z930 st930 hQ930
  subst l930 y930 z930
  obtain ⟨t930, k930, rfl, Nq930, K930, A930, E930, s930⟩ := hQ930
  have N931 := Fr.app N0 Nq930
  have P932 : Rg p e below (T930.setTop (mkF m 4 #[sR src, sI 0, sI 2, sU, sU] [(.ref t930)])) B0 := fun t k => P0 t (by
    refine XS.iloadN X0.here hx rfl (hb hby dj52_14_0) rfl ?_
    exact st930 _ k)
  have Z933 : n0 ≤ T930.heap.size := Nat.le_trans Z0 K930.1
  have K934 : Keep h0 T930.heap [] := (Keep.refl h0 []).trans K930 (all0)
  have O935 : Old Z n0 T930.heap := Ol.keep K930 all0
  have g_t930 : n0 ≤ t930 := Nat.le_trans Z0 s930
  have sz_t930 : h0.size ≤ t930 := Nat.le_trans (Keep.refl h0 []).1 s930
  have f936 := (AS.keep K930 nin0)
  obtain ⟨cl937, Ar937, -, S937, N937, H937, -⟩ := id f936
  have hin937 : ¬ ((0 : Int32) < 0 ∨ cl937.slots.size ≤ ((0 : Int32)).toNatClampNeg) := inb_of S937 ⟨by decide, by decide⟩
  obtain ⟨_, _, ⟨T938, L938, k938, n938⟩, -, X938, ⟨Lc938, hQ938, l938, y938, z938⟩, st938⟩ := Jvm.LawKit.callS X930 hx (y := y_1) hown (mvT hZ (oH hw 216 rfl)) (mvT hZ (oH hw 217 rfl)) (mvT hZ (oH hw 23 rfl)) (mvT hZ (oH hw 218 rfl)) (by decide) (backOf (W := 0) (rm_ptc l Z a0 hw [] t930 k930 (4 : Int32) (0 : Int32) p1 ([] : List Int32) G1 G2 T930.heap n0 Z933 g_t930 A930 ⟨by decide, by decide⟩ rfl ⟨by decide, by decide⟩ rfl Sg P5 Sf hG2 Sa Sh Sl O935) hZ (oH hw 218 rfl) (oH hw 23 rfl) (by decide) (by decide)) (g := (mkF m 20 #[sR src, sI 0, sI 2, sR t930, sI 0] [(.int p1), (vI 0), (.ref t930)])) rfl (by rw [hml]; rfl) (argsL := [(.ref t930), (vI 0), (.int p1)]) (rest := []) (lenOf pd7 rfl) rfl (oW rfl) (hb hby dj52_14_20) (fun _ _ => ⟨rfl, rfl, (oB rfl : 1 + 0 ≤ _), (oB rfl : 4 + 0 ≤ _)⟩)
  dsimp only [Pt.U, Pt.locs, Pt.cells, Pt.slots] at X938 l938 y938 z938 st938 hQ938
  subst l938 y938 z938
  obtain ⟨rfl, Nq938, K938, A938⟩ := hQ938
  have N939 := Fr.app N931 Nq938
  have P940 : Rg p e below (T938.setTop (mkF m 23 #[sR src, sI 0, sI 2, sR t930, sI 0] [])) B0 := fun t k => P932 t (by
    refine XS.astoreN X930.here hx rfl (hb hby dj52_14_4) rfl rfl (l' := #[sR src, sI 0, sI 2, sR t930, sU]) rfl ?_
    refine XS.iconst X930.here hx rfl (hb hby dj52_14_5) ?_
    refine XS.istore X930.here hx rfl (hb hby dj52_14_6) rfl (l' := #[sR src, sI 0, sI 2, sR t930, sI 0]) rfl ?_
    refine XS.iload X930.here hx rfl (hb hby dj52_14_8) rfl ?_
    refine XS.iloadN X930.here hx rfl (hb hby dj52_14_10) rfl ?_
    refine XS.icmpNo X930.here hx rfl (hb hby dj52_14_11) rfl (tlt (show (0 : Int32) < (2 : Int32) from (by decide))).2.1 ?_
    refine XS.aloadN X930.here hx rfl (hb hby dj52_14_14) rfl rfl ?_
    refine XS.iload X930.here hx rfl (hb hby dj52_14_15) rfl ?_
    refine XS.aloadN X930.here hx rfl (hb hby dj52_14_17) rfl rfl ?_
    refine XS.iloadN X930.here hx rfl (hb hby dj52_14_18) rfl ?_
    show Sq p e below (T930.setTop (mkF m 19 #[sR src, sI 0, sI 2, sR t930, sI 0] [(vI 0), (.ref src), (vI 0), (.ref t930)])) _
    refine X930.caload hx (j := (0 : Int32)) (v := (.int p1)) Ar937.1 (State.isArrayOf_alike hZ.alike Ar937.2.1) Ar937.2.2 hin937 (H937.at hin937 rfl) (g := (mkF m 19 #[sR src, sI 0, sI 2, sR t930, sI 0] [(vI 0), (.ref src), (vI 0), (.ref t930)])) rfl rfl (hb hby dj52_14_19) _ ?_
    exact st938 _ k)
  have Z941 : n0 ≤ T938.heap.size := Nat.le_trans Z933 K938.1
  have K942 : Keep h0 T938.heap [] := K934.trans K938 ((allS (Or.inr sz_t930) all0))
  have O943 : Old Z n0 T938.heap := O935.keep K938 (allS g_t930 all0)
  have f944 := (f936.keep K938 (ninS (Nat.ne_of_lt (Nat.lt_of_lt_of_le AS.lt s930)) nin0))
  obtain ⟨cl945, Ar945, -, S945, N945, H945, -⟩ := id f944
  have hin945 : ¬ ((1 : Int32) < 0 ∨ cl945.slots.size ≤ ((1 : Int32)).toNatClampNeg) := inb_of S945 ⟨by decide, by decide⟩
  obtain ⟨_, _, ⟨T946, L946, k946, n946⟩, -, X946, ⟨Lc946, hQ946, l946, y946, z946⟩, st946⟩ := Jvm.LawKit.callS X938 hx (y := y_1) hown (mvT hZ (oH hw 216 rfl)) (mvT hZ (oH hw 217 rfl)) (mvT hZ (oH hw 23 rfl)) (mvT hZ (oH hw 218 rfl)) (by decide) (backOf (W := 0) (rm_ptc l Z a0 hw [] t930 k930 (4 : Int32) (1 : Int32) p2 (([] : List Int32) ++ [p1.toInt8.toInt32, (p1 >>> (8 : Int32)).toInt8.toInt32]) G1 G2 T938.heap n0 Z941 g_t930 A938 ⟨by decide, by decide⟩ rfl ⟨by decide, by decide⟩ rfl Sg P5 Sf hG2 Sa Sh Sl O943) hZ (oH hw 218 rfl) (oH hw 23 rfl) (by decide) (by decide)) (g := (mkF m 20 #[sR src, sI 1, sI 2, sR t930, sI 1] [(.int p2), (vI 1), (.ref t930)])) rfl (by rw [hml]; rfl) (argsL := [(.ref t930), (vI 1), (.int p2)]) (rest := []) (lenOf pd7 rfl) rfl (oW rfl) (hb hby dj52_14_20) (fun _ _ => ⟨rfl, rfl, (oB rfl : 1 + 0 ≤ _), (oB rfl : 4 + 0 ≤ _)⟩)
  dsimp only [Pt.U, Pt.locs, Pt.cells, Pt.slots] at X946 l946 y946 z946 st946 hQ946
  subst l946 y946 z946
  obtain ⟨rfl, Nq946, K946, A946⟩ := hQ946
  have N947 := Fr.app N939 Nq946
  have P948 : Rg p e below (T946.setTop (mkF m 23 #[sR src, sI 1, sI 2, sR t930, sI 1] [])) B0 := fun t k => P940 t (by
    refine XS.iinc X938.here hx rfl (hb hby dj52_14_23) rfl (l' := #[sR src, sI 1, sI 2, sR t930, sI 0]) rfl ?_
    refine XS.iinc X938.here hx rfl (hb hby dj52_14_26) rfl (l' := #[sR src, sI 1, sI 2, sR t930, sI 1]) rfl ?_
    refine XS.goto X938.here hx rfl (pc0 := 29) (pc' := 8) rfl (hb hby dj52_14_29) (by decide) (by decide) ?_
    refine XS.iload X938.here hx rfl (hb hby dj52_14_8) rfl ?_
    refine XS.iloadN X938.here hx rfl (hb hby dj52_14_10) rfl ?_
    refine XS.icmpNo X938.here hx rfl (hb hby dj52_14_11) rfl (tlt (show (1 : Int32) < (2 : Int32) from (by decide))).2.1 ?_
    refine XS.aloadN X938.here hx rfl (hb hby dj52_14_14) rfl rfl ?_
    refine XS.iload X938.here hx rfl (hb hby dj52_14_15) rfl ?_
    refine XS.aloadN X938.here hx rfl (hb hby dj52_14_17) rfl rfl ?_
    refine XS.iloadN X938.here hx rfl (hb hby dj52_14_18) rfl ?_
    show Sq p e below (T938.setTop (mkF m 19 #[sR src, sI 1, sI 2, sR t930, sI 1] [(vI 1), (.ref src), (vI 1), (.ref t930)])) _
    refine X938.caload hx (j := (1 : Int32)) (v := (.int p2)) Ar945.1 (State.isArrayOf_alike hZ.alike Ar945.2.1) Ar945.2.2 hin945 (H945.at hin945 rfl) (g := (mkF m 19 #[sR src, sI 1, sI 2, sR t930, sI 1] [(vI 1), (.ref src), (vI 1), (.ref t930)])) rfl rfl (hb hby dj52_14_19) _ ?_
    exact st946 _ k)
  have Z949 : n0 ≤ T946.heap.size := Nat.le_trans Z941 K946.1
  have K950 : Keep h0 T946.heap [] := K942.trans K946 ((allS (Or.inr sz_t930) all0))
  have O951 : Old Z n0 T946.heap := O943.keep K946 (allS g_t930 all0)
  obtain ⟨fs952, hr952, hrun952, hended952, hW952, hsame952⟩ := X946.leave (v := some (.ref t930)) (fun h => by rw [Bd.returns] at h; cases h)
  refine ⟨_, _, pre0 _ (P948 _ ?_), hrun952, hended952, _, _, rfl, ?_, ⟨⟨_, rfl⟩, hW952, hsame952.mono (oB rfl) (oB rfl)⟩⟩
  · show Sq p e below (T946.setTop (mkF m 23 #[sR src, sI 1, sI 2, sR t930, sI 1] [])) _
    refine XS.iinc X946.here hx rfl (hb hby dj52_14_23) rfl (l' := #[sR src, sI 2, sI 2, sR t930, sI 1]) rfl ?_
    refine XS.iinc X946.here hx rfl (hb hby dj52_14_26) rfl (l' := #[sR src, sI 2, sI 2, sR t930, sI 2]) rfl ?_
    refine XS.goto X946.here hx rfl (pc0 := 29) (pc' := 8) rfl (hb hby dj52_14_29) (by decide) (by decide) ?_
    refine XS.iload X946.here hx rfl (hb hby dj52_14_8) rfl ?_
    refine XS.iloadN X946.here hx rfl (hb hby dj52_14_10) rfl ?_
    refine XS.icmpYes X946.here hx rfl (pc0 := 11) (pc' := 32) rfl (hb hby dj52_14_11) rfl (flt (show ¬ ((2 : Int32) < (2 : Int32)) from (by decide))).2.1 (by decide) (by decide) ?_
    refine XS.aloadN X946.here hx rfl (hb hby dj52_14_32) rfl rfl ?_
    exact retOut X946 hx Bd.returns rfl (Or.inr (Or.inr (Or.inr (Or.inr ⟨rfl, rfl, rfl⟩)))) (hb hby dj52_14_33) hr952
  · show Q_tb2 Z p1 p2 h0 n0 _ T946.heap _
    exact ⟨t930, _, rfl, N947, K950, A946, sz_t930⟩
theorem dj52_16_0 : decode j52_16 0 = .ok (.iload_n 2, 1) := by decide +kernel
theorem dj52_16_1 : decode j52_16 1 = .ok (.newarray .byte, 2) := by decide +kernel
theorem dj52_16_3 : decode j52_16 3 = .ok (.astore_n 3, 1) := by decide +kernel
theorem dj52_16_4 : decode j52_16 4 = .ok (.aload_n 0, 1) := by decide +kernel
theorem dj52_16_5 : decode j52_16 5 = .ok (.iload_n 1, 1) := by decide +kernel
theorem dj52_16_6 : decode j52_16 6 = .ok (.aload_n 3, 1) := by decide +kernel
theorem dj52_16_7 : decode j52_16 7 = .ok (.iconst 0, 1) := by decide +kernel
theorem dj52_16_8 : decode j52_16 8 = .ok (.iload_n 2, 1) := by decide +kernel
theorem dj52_16_9 : decode j52_16 9 = .ok (.invokestatic 115, 3) := by decide +kernel
theorem pd27 : parseMethodDescriptor "([CI[BII)I" = some ⟨[(.array .char), .int, (.array .byte), .int, .int], some .int⟩ := by decide +kernel
theorem dj52_16_12 : decode j52_16 12 = .ok (.istore 4, 2) := by decide +kernel
theorem dj52_16_14 : decode j52_16 14 = .ok (.iload 4, 2) := by decide +kernel
theorem dj52_16_16 : decode j52_16 16 = .ok (.iload_n 2, 1) := by decide +kernel
theorem dj52_16_17 : decode j52_16 17 = .ok (.if_icmp .eq 40, 3) := by decide +kernel
theorem dj52_16_57 : decode j52_16 57 = .ok (.aload_n 3, 1) := by decide +kernel
theorem dj52_16_58 : decode j52_16 58 = .ok (.areturn, 1) := by decide +kernel
theorem ef_cmb0 (m : MethodId) (x0 : Addr) (x1 : Int32) (x2 : Int32) : entryFrame m #[(.ref x0), (.int x1), (.int x2)] 6 = mkF m 0 #[sR x0, sI x1, sI x2, sU, sU, sU] [] := by (first | (simp [entryFrame, mkF, argsToLocals, Value.category]; done) | rfl)
def Q_cmb0 (Z : State) (p1 p2 : Int32) (h0 : Heap) (n0 : Nat) (v : Option Value) (h : Heap) (L : List Loc) : Prop := ∃ (t : Addr) (k : ClassId), v = some (.ref t) ∧ Fr n0 L ∧ Keep h0 h [] ∧ Arv Z h t k .byte (2 : Int32) ((own_by false [p1, p2]).map Value.int) (vI 0) ∧ h0.size ≤ t
theorem rm_cmb0 (l : Launch) (Z : State) (a0 : Array Value) (hw : Tb a0 Z) (ws : List Jvm.Cond) (src : Addr) (ks : ClassId) (p1 p2 : Int32) (G1 : Int32) (G2 : Value) (h0 : Heap) (n0 : Nat) (Z0 : n0 ≤ h0.size) (AS : Arv Z h0 src ks .char (2 : Int32) [(.int p1), (.int p2)] (vI 0)) (o1 : ¬ (255 : Int32) < p1) (o2 : ¬ (255 : Int32) < p2) (hp1 : ¬ p1 < 0 ∧ ¬ (65535 : Int32) < p1) (hp2 : ¬ p2 < 0 ∧ ¬ (65535 : Int32) < p2) (Sg : oSg Z G1) (P5 : ¬ (G1 = (0 : Int32))) (Sf : oSf Z G2) (hG2 : G2.isRef = true) (Sa : oSa Z) (Sh : oSh Z) (Sl : oSl Z) (Ol : Old Z n0 h0) :
    MF l Z h0 y_42 j52_16 6 (some (.array .byte)) ws (rM 1 1 2 18) #[(.ref src), (vI 0), (vI 2)] (Q_cmb0 Z p1 p2 h0 n0) := by
  refine MetFree.of_bodySF (plainFor_of_name pn_java_lang_StringUTF16) hisR ?_
  intro p e s m args below meth c s₁ Bd hml hP hK
  obtain ⟨rfl, hZ, hh⟩ := hP
  have hx := Bd.exec
  have hby := Bd.bytes
  have hown : s.vm.findClass "java/lang/StringUTF16" = some m.cls := findClass_of_methodNamed Bd.named
  have X0 : Stand p l e (rM 1 1 2 18) s m #[(.ref src), (vI 0), (vI 2)] below meth c s₁ [] 0 0 := Stand.of_body Bd
  have e0 : s₁.heap = h0 := by rw [← hh, Bd.state]; rfl
  have N0 := Fr.nil n0
  obtain ⟨B0, pre0, P0⟩ : ∃ B, Rg p e below B (s₁.setTop (entryFrame m #[(.ref src), (vI 0), (vI 2)] 6)) ∧ Rg p e below (s₁.setTop (mkF m 0 #[sR src, sI 0, sI 2, sU, sU, sU] [])) B := ⟨_, fun t k => castTop (ef_cmb0 m src (0 : Int32) (2 : Int32)) k, fun t k => k⟩
  obtain ⟨T953, h953, k953, X953, e953, E953, A953, st953⟩ := newP X0 hx hZ (oH hw 25 rfl) e0 (g := (mkF m 1 #[sR src, sI 0, sI 2, sU, sU, sU] [(vI 2)])) rfl (hb hby dj52_16_1) rfl (by decide) (cap := 2) (by decide) (by decide) (by decide) (by decide)
  obtain ⟨b953, g953⟩ : ∃ z, z = h0.size := ⟨_, rfl⟩
  rw [← g953] at A953 st953
  have g_b953 : n0 ≤ b953 := Nat.le_trans Z0 (Nat.le_of_eq g953.symm)
  have sz_b953 : h0.size ≤ b953 := Nat.le_trans (Keep.refl h0 []).1 (Nat.le_of_eq g953.symm)
  have P954 : Rg p e below (T953.setTop (mkF m 3 #[sR src, sI 0, sI 2, sU, sU, sU] [(.ref b953)])) B0 := fun t k => P0 t (by
    refine XS.iloadN X0.here hx rfl (hb hby dj52_16_0) rfl ?_
    exact st953 _ k)
  have Z955 : n0 ≤ h953.size := Nat.le_trans Z0 E953.1
  have K956 : Keep h0 h953 [] := (Keep.refl h0 []).ext E953
  have O957 : Old Z n0 h953 := Ol.ext E953
  have v958 : Arv Z h953 b953 k953 .byte (2 : Int32) [(vI 0), (vI 0)] (vI 0) := (Arv.new A953 (by decide)).pad (pad_rep [] (vI 0) 2)
  have f959 := (AS.ext E953)
  obtain ⟨_, _, ⟨T960, L960, k960, n960⟩, -, X960, ⟨Lc960, hQ960, l960, y960, z960⟩, st960⟩ := Jvm.LawKit.callS X953 hx (y := y_40) hown (mvT hZ (oH hw 26 rfl)) (mvT hZ (oH hw 27 rfl)) (mvT hZ (oH hw 23 rfl)) (mvT hZ (oH hw 28 rfl)) (by decide) (backOf (W := 0) (rm_cmiLL l Z a0 hw [] src b953 ks k953 p1 p2 h953 n0 Z955 g_b953 f959 v958 (Nat.ne_of_lt (Nat.lt_of_lt_of_le AS.lt (Nat.le_of_eq g953.symm))) o1 o2) hZ (oH hw 28 rfl) (oH hw 23 rfl) (by decide) (by decide)) (g := (mkF m 9 #[sR src, sI 0, sI 2, sR b953, sU, sU] [(vI 2), (vI 0), (.ref b953), (vI 0), (.ref src)])) rfl (by rw [hml]; rfl) (argsL := [(.ref src), (vI 0), (.ref b953), (vI 0), (vI 2)]) (rest := []) (lenOf pd27 rfl) rfl (oW rfl) (hb hby dj52_16_9) (fun _ _ => ⟨rfl, e953, (oB rfl : 1 + 0 ≤ _), (oB rfl : 2 + 0 ≤ _)⟩)
  dsimp only [Pt.U, Pt.locs, Pt.cells, Pt.slots] at X960 l960 y960 z960 st960 hQ960
  subst l960 y960 z960
  obtain ⟨rfl, Nq960, K960, A960⟩ := hQ960
  have N961 := Fr.app N0 Nq960
  have P962 : Rg p e below (T960.setTop (mkF m 12 #[sR src, sI 0, sI 2, sR b953, sU, sU] [(vI 2)])) B0 := fun t k => P954 t (by
    refine XS.astoreN X953.here hx rfl (hb hby dj52_16_3) rfl rfl (l' := #[sR src, sI 0, sI 2, sR b953, sU, sU]) rfl ?_
    refine XS.aloadN X953.here hx rfl (hb hby dj52_16_4) rfl rfl ?_
    refine XS.iloadN X953.here hx rfl (hb hby dj52_16_5) rfl ?_
    refine XS.aloadN X953.here hx rfl (hb hby dj52_16_6) rfl rfl ?_
    refine XS.iconst X953.here hx rfl (hb hby dj52_16_7) ?_
    refine XS.iloadN X953.here hx rfl (hb hby dj52_16_8) rfl ?_
    exact st960 _ k)
  have Z963 : n0 ≤ T960.heap.size := Nat.le_trans Z955 K960.1
  have K964 : Keep h0 T960.heap [] := K956.trans K960 ((allS (Or.inr sz_b953) all0))
  have O965 : Old Z n0 T960.heap := O957.keep K960 (allS g_b953 all0)
  obtain ⟨fs966, hr966, hrun966, hended966, hW966, hsame966⟩ := X960.leave (v := some (.ref b953)) (fun h => by rw [Bd.returns] at h; cases h)
  refine ⟨_, _, pre0 _ (P962 _ ?_), hrun966, hended966, _, _, rfl, ?_, ⟨⟨_, rfl⟩, hW966, hsame966.mono (oB rfl) (oB rfl)⟩⟩
  · show Sq p e below (T960.setTop (mkF m 12 #[sR src, sI 0, sI 2, sR b953, sU, sU] [(vI 2)])) _
    refine XS.istore X960.here hx rfl (hb hby dj52_16_12) rfl (l' := #[sR src, sI 0, sI 2, sR b953, sI 2, sU]) rfl ?_
    refine XS.iload X960.here hx rfl (hb hby dj52_16_14) rfl ?_
    refine XS.iloadN X960.here hx rfl (hb hby dj52_16_16) rfl ?_
    refine XS.icmpYes X960.here hx rfl (pc0 := 17) (pc' := 57) rfl (hb hby dj52_16_17) rfl (teq (show (2 : Int32) = (2 : Int32) from (by decide))).1 (by decide) (by decide) ?_
    refine XS.aloadN X960.here hx rfl (hb hby dj52_16_57) rfl rfl ?_
    exact retOut X960 hx Bd.returns rfl (Or.inr (Or.inr (Or.inr (Or.inr ⟨rfl, rfl, rfl⟩)))) (hb hby dj52_16_58) hr966
  · show Q_cmb0 Z p1 p2 h0 n0 _ T960.heap _
    exact ⟨b953, _, rfl, N961, K964, A960, sz_b953⟩
theorem dj52_16_20 : decode j52_16 20 = .ok (.aload_n 0, 1) := by decide +kernel
theorem dj52_16_21 : decode j52_16 21 = .ok (.iload_n 1, 1) := by decide +kernel
theorem dj52_16_22 : decode j52_16 22 = .ok (.iload_n 2, 1) := by decide +kernel
theorem dj52_16_23 : decode j52_16 23 = .ok (.invokestatic 119, 3) := by decide +kernel
theorem pd28 : parseMethodDescriptor "([CII)[B" = some ⟨[(.array .char), .int, .int], some (.array .byte)⟩ := by decide +kernel
theorem dj52_16_26 : decode j52_16 26 = .ok (.astore 5, 2) := by decide +kernel
theorem dj52_16_28 : decode j52_16 28 = .ok (.aload 5, 2) := by decide +kernel
theorem dj52_16_30 : decode j52_16 30 = .ok (.iload 4, 2) := by decide +kernel
theorem dj52_16_32 : decode j52_16 32 = .ok (.invokestatic 71, 3) := by decide +kernel
theorem dj52_16_35 : decode j52_16 35 = .ok (.sipush 255, 3) := by decide +kernel
theorem dj52_16_38 : decode j52_16 38 = .ok (.if_icmp .gt 16, 3) := by decide +kernel
theorem dj52_16_54 : decode j52_16 54 = .ok (.aload 5, 2) := by decide +kernel
theorem dj52_16_56 : decode j52_16 56 = .ok (.areturn, 1) := by decide +kernel
theorem ef_cmb1 (m : MethodId) (x0 : Addr) (x1 : Int32) (x2 : Int32) : entryFrame m #[(.ref x0), (.int x1), (.int x2)] 6 = mkF m 0 #[sR x0, sI x1, sI x2, sU, sU, sU] [] := by (first | (simp [entryFrame, mkF, argsToLocals, Value.category]; done) | rfl)
def Q_cmb1 (Z : State) (p1 p2 : Int32) (h0 : Heap) (n0 : Nat) (v : Option Value) (h : Heap) (L : List Loc) : Prop := ∃ (t : Addr) (k : ClassId), v = some (.ref t) ∧ Fr n0 L ∧ Keep h0 h [] ∧ Arv Z h t k .byte (4 : Int32) ((own_by true [p1, p2]).map Value.int) (vI 0) ∧ h0.size ≤ t
theorem rm_cmb1 (l : Launch) (Z : State) (a0 : Array Value) (hw : Tb a0 Z) (ws : List Jvm.Cond) (src : Addr) (ks : ClassId) (p1 p2 : Int32) (G1 : Int32) (G2 : Value) (h0 : Heap) (n0 : Nat) (Z0 : n0 ≤ h0.size) (AS : Arv Z h0 src ks .char (2 : Int32) [(.int p1), (.int p2)] (vI 0)) (o3 : ¬ (255 : Int32) < p1 → (255 : Int32) < p2) (hp1 : ¬ p1 < 0 ∧ ¬ (65535 : Int32) < p1) (hp2 : ¬ p2 < 0 ∧ ¬ (65535 : Int32) < p2) (Sg : oSg Z G1) (P5 : ¬ (G1 = (0 : Int32))) (Sf : oSf Z G2) (hG2 : G2.isRef = true) (Sa : oSa Z) (Sh : oSh Z) (Sl : oSl Z) (Ol : Old Z n0 h0) :
    MF l Z h0 y_42 j52_16 6 (some (.array .byte)) ws (rM 3 2 6 40) #[(.ref src), (vI 0), (vI 2)] (Q_cmb1 Z p1 p2 h0 n0) := by
  refine MetFree.of_bodySF (plainFor_of_name pn_java_lang_StringUTF16) hisR ?_
  intro p e s m args below meth c s₁ Bd hml hP hK
  obtain ⟨rfl, hZ, hh⟩ := hP
  have hx := Bd.exec
  have hby := Bd.bytes
  have hown : s.vm.findClass "java/lang/StringUTF16" = some m.cls := findClass_of_methodNamed Bd.named
  have X0 : Stand p l e (rM 3 2 6 40) s m #[(.ref src), (vI 0), (vI 2)] below meth c s₁ [] 0 0 := Stand.of_body Bd
  have e0 : s₁.heap = h0 := by rw [← hh, Bd.state]; rfl
  have N0 := Fr.nil n0
  obtain ⟨B0, pre0, P0⟩ : ∃ B, Rg p e below B (s₁.setTop (entryFrame m #[(.ref src), (vI 0), (vI 2)] 6)) ∧ Rg p e below (s₁.setTop (mkF m 0 #[sR src, sI 0, sI 2, sU, sU, sU] [])) B := ⟨_, fun t k => castTop (ef_cmb1 m src (0 : Int32) (2 : Int32)) k, fun t k => k⟩
  obtain ⟨T967, h967, k967, X967, e967, E967, A967, st967⟩ := newP X0 hx hZ (oH hw 25 rfl) e0 (g := (mkF m 1 #[sR src, sI 0, sI 2, sU, sU, sU] [(vI 2)])) rfl (hb hby dj52_16_1) rfl (by decide) (cap := 2) (by decide) (by decide) (by decide) (by decide)
  obtain ⟨b967, g967⟩ : ∃ z, z = h0.size := ⟨_, rfl⟩
  rw [← g967] at A967 st967
  have g_b967 : n0 ≤ b967 := Nat.le_trans Z0 (Nat.le_of_eq g967.symm)
  have sz_b967 : h0.size ≤ b967 := Nat.le_trans (Keep.refl h0 []).1 (Nat.le_of_eq g967.symm)
  have P968 : Rg p e below (T967.setTop (mkF m 3 #[sR src, sI 0, sI 2, sU, sU, sU] [(.ref b967)])) B0 := fun t k => P0 t (by
    refine XS.iloadN X0.here hx rfl (hb hby dj52_16_0) rfl ?_
    exact st967 _ k)
  have Z969 : n0 ≤ h967.size := Nat.le_trans Z0 E967.1
  have K970 : Keep h0 h967 [] := (Keep.refl h0 []).ext E967
  have O971 : Old Z n0 h967 := Ol.ext E967
  have v972 : Arv Z h967 b967 k967 .byte (2 : Int32) [(vI 0), (vI 0)] (vI 0) := (Arv.new A967 (by decide)).pad (pad_rep [] (vI 0) 2)
  by_cases q973 : (255 : Int32) < p1
  · skip
    have f974 := (AS.ext E967)
    obtain ⟨_, _, ⟨T975, L975, k975, n975⟩, -, X975, ⟨Lc975, hQ975, l975, y975, z975⟩, st975⟩ := Jvm.LawKit.callS X967 hx (y := y_40) hown (mvT hZ (oH hw 26 rfl)) (mvT hZ (oH hw 27 rfl)) (mvT hZ (oH hw 23 rfl)) (mvT hZ (oH hw 28 rfl)) (by decide) (backOf (W := 0) (rm_cmiU l Z a0 hw [] src b967 ks k967 p1 p2 h967 n0 Z969 g_b967 f974 v972 (Nat.ne_of_lt (Nat.lt_of_lt_of_le AS.lt (Nat.le_of_eq g967.symm))) q973) hZ (oH hw 28 rfl) (oH hw 23 rfl) (by decide) (by decide)) (g := (mkF m 9 #[sR src, sI 0, sI 2, sR b967, sU, sU] [(vI 2), (vI 0), (.ref b967), (vI 0), (.ref src)])) rfl (by rw [hml]; rfl) (argsL := [(.ref src), (vI 0), (.ref b967), (vI 0), (vI 2)]) (rest := []) (lenOf pd27 rfl) rfl (oW rfl) (hb hby dj52_16_9) (fun _ _ => ⟨rfl, e967, (oB rfl : 1 + 0 ≤ _), (oB rfl : 2 + 0 ≤ _)⟩)
    dsimp only [Pt.U, Pt.locs, Pt.cells, Pt.slots] at X975 l975 y975 z975 st975 hQ975
    subst l975 y975 z975
    obtain ⟨rfl, Nq975, K975⟩ := hQ975
    have N976 := Fr.app N0 Nq975
    have P977 : Rg p e below (T975.setTop (mkF m 12 #[sR src, sI 0, sI 2, sR b967, sU, sU] [(vI 0)])) B0 := fun t k => P968 t (by
      refine XS.astoreN X967.here hx rfl (hb hby dj52_16_3) rfl rfl (l' := #[sR src, sI 0, sI 2, sR b967, sU, sU]) rfl ?_
      refine XS.aloadN X967.here hx rfl (hb hby dj52_16_4) rfl rfl ?_
      refine XS.iloadN X967.here hx rfl (hb hby dj52_16_5) rfl ?_
      refine XS.aloadN X967.here hx rfl (hb hby dj52_16_6) rfl rfl ?_
      refine XS.iconst X967.here hx rfl (hb hby dj52_16_7) ?_
      refine XS.iloadN X967.here hx rfl (hb hby dj52_16_8) rfl ?_
      exact st975 _ k)
    have Z978 : n0 ≤ T975.heap.size := Nat.le_trans Z969 K975.1
    have K979 : Keep h0 T975.heap [] := K970.trans K975 ((allS (Or.inr sz_b967) all0))
    have O980 : Old Z n0 T975.heap := O971.keep K975 (allS g_b967 all0)
    have f981 := (f974.keep K975 (ninS (Nat.ne_of_lt (Nat.lt_of_lt_of_le AS.lt (Nat.le_of_eq g967.symm))) nin0))
    obtain ⟨_, _, ⟨T982, L982, k982, n982⟩, -, X982, ⟨Lc982, hQ982, l982, y982, z982⟩, st982⟩ := Jvm.LawKit.callS X975 hx (y := y_41) hown (mvT hZ (oH hw 266 rfl)) (mvT hZ (oH hw 267 rfl)) (mvT hZ (oH hw 23 rfl)) (mvT hZ (oH hw 268 rfl)) (by decide) (backOf (W := 0) (rm_tb2 l Z a0 hw [] src ks p1 p2 G1 G2 T975.heap n0 Z978 f981 Sg P5 Sf hG2 Sa Sh Sl O980) hZ (oH hw 268 rfl) (oH hw 23 rfl) (by decide) (by decide)) (g := (mkF m 23 #[sR src, sI 0, sI 2, sR b967, sI 0, sU] [(vI 2), (vI 0), (.ref src)])) rfl (by rw [hml]; rfl) (argsL := [(.ref src), (vI 0), (vI 2)]) (rest := []) (lenOf pd28 rfl) rfl (oW rfl) (hb hby dj52_16_23) (fun _ _ => ⟨rfl, rfl, (oB rfl : 1 + 1 ≤ _), (oB rfl : 2 + 4 ≤ _)⟩)
    dsimp only [Pt.U, Pt.locs, Pt.cells, Pt.slots] at X982 l982 y982 z982 st982 hQ982
    subst l982 y982 z982
    obtain ⟨t982, k982, rfl, Nq982, K982, A982, s982⟩ := hQ982
    have N983 := Fr.app N976 Nq982
    have P984 : Rg p e below (T982.setTop (mkF m 26 #[sR src, sI 0, sI 2, sR b967, sI 0, sU] [(.ref t982)])) B0 := fun t k => P977 t (by
      refine XS.istore X975.here hx rfl (hb hby dj52_16_12) rfl (l' := #[sR src, sI 0, sI 2, sR b967, sI 0, sU]) rfl ?_
      refine XS.iload X975.here hx rfl (hb hby dj52_16_14) rfl ?_
      refine XS.iloadN X975.here hx rfl (hb hby dj52_16_16) rfl ?_
      refine XS.icmpNo X975.here hx rfl (hb hby dj52_16_17) rfl (feq (show ¬ ((0 : Int32) = (2 : Int32)) from (by decide))).1 ?_
      refine XS.aloadN X975.here hx rfl (hb hby dj52_16_20) rfl rfl ?_
      refine XS.iloadN X975.here hx rfl (hb hby dj52_16_21) rfl ?_
      refine XS.iloadN X975.here hx rfl (hb hby dj52_16_22) rfl ?_
      exact st982 _ k)
    have Z985 : n0 ≤ T982.heap.size := Nat.le_trans Z978 K982.1
    have K986 : Keep h0 T982.heap [] := K979.trans K982 (all0)
    have O987 : Old Z n0 T982.heap := O980.keep K982 all0
    have g_t982 : n0 ≤ t982 := Nat.le_trans Z978 s982
    have sz_t982 : h0.size ≤ t982 := Nat.le_trans K979.1 s982
    obtain ⟨_, _, ⟨T988, L988, k988, n988⟩, -, X988, ⟨Lc988, hQ988, l988, y988, z988⟩, st988⟩ := Jvm.LawKit.callS X982 hx (y := y_36) hown (mvT hZ (oH hw 263 rfl)) (mvT hZ (oH hw 264 rfl)) (mvT hZ (oH hw 23 rfl)) (mvT hZ (oH hw 265 rfl)) (by decide) (backOf (W := 0) (rm_gch l Z a0 hw [] t982 k982 (4 : Int32) (0 : Int32) p1 ((own_by true [p1, p2]).map Value.int) G1 G2 T982.heap n0 Z985 A982 ⟨by decide, by decide⟩ rfl ⟨by decide, by decide⟩ rfl hp1 Sg P5 Sf hG2 Sa Sh Sl O987) hZ (oH hw 265 rfl) (oH hw 23 rfl) (by decide) (by decide)) (g := (mkF m 32 #[sR src, sI 0, sI 2, sR b967, sI 0, sR t982] [(vI 0), (.ref t982)])) rfl (by rw [hml]; rfl) (argsL := [(.ref t982), (vI 0)]) (rest := []) (lenOf pd26 rfl) rfl (oW rfl) (hb hby dj52_16_32) (fun _ _ => ⟨rfl, rfl, (oB rfl : 2 + 0 ≤ _), (oB rfl : 6 + 0 ≤ _)⟩)
    dsimp only [Pt.U, Pt.locs, Pt.cells, Pt.slots] at X988 l988 y988 z988 st988 hQ988
    subst l988 y988 z988
    obtain ⟨rfl, Nq988, e988⟩ := hQ988
    have N989 := Fr.app N983 Nq988
    have P990 : Rg p e below (T988.setTop (mkF m 35 #[sR src, sI 0, sI 2, sR b967, sI 0, sR t982] [(.int p1)])) B0 := fun t k => P984 t (by
      refine XS.astore X982.here hx rfl (hb hby dj52_16_26) rfl rfl (l' := #[sR src, sI 0, sI 2, sR b967, sI 0, sR t982]) rfl ?_
      refine XS.aload X982.here hx rfl (hb hby dj52_16_28) rfl rfl ?_
      refine XS.iload X982.here hx rfl (hb hby dj52_16_30) rfl ?_
      exact st988 _ k)
    obtain ⟨fs991, hr991, hrun991, hended991, hW991, hsame991⟩ := X988.leave (v := some (.ref t982)) (fun h => by rw [Bd.returns] at h; cases h)
    refine ⟨_, _, pre0 _ (P990 _ ?_), hrun991, hended991, _, _, rfl, ?_, ⟨⟨_, rfl⟩, hW991, hsame991.mono (oB rfl) (oB rfl)⟩⟩
    · show Sq p e below (T988.setTop (mkF m 35 #[sR src, sI 0, sI 2, sR b967, sI 0, sR t982] [(.int p1)])) _
      refine XS.sipush X988.here hx rfl (hb hby dj52_16_35) ?_
      refine XS.icmpYes X988.here hx rfl (pc0 := 38) (pc' := 54) rfl (hb hby dj52_16_38) rfl (tlt (show (255 : Int32) < p1 from q973)).2.2.1 (by decide) (by decide) ?_
      refine XS.aload X988.here hx rfl (hb hby dj52_16_54) rfl rfl ?_
      exact retOut X988 hx Bd.returns rfl (Or.inr (Or.inr (Or.inr (Or.inr ⟨rfl, rfl, rfl⟩)))) (hb hby dj52_16_56) hr991
    · show Q_cmb1 Z p1 p2 h0 n0 _ T988.heap _
      rw [e988]
      exact ⟨t982, _, rfl, N989, K986, A982, sz_t982⟩
  · skip
    have f992 := (AS.ext E967)
    obtain ⟨_, _, ⟨T993, L993, k993, n993⟩, -, X993, ⟨Lc993, hQ993, l993, y993, z993⟩, st993⟩ := Jvm.LawKit.callS X967 hx (y := y_40) hown (mvT hZ (oH hw 26 rfl)) (mvT hZ (oH hw 27 rfl)) (mvT hZ (oH hw 23 rfl)) (mvT hZ (oH hw 28 rfl)) (by decide) (backOf (W := 0) (rm_cmiLU l Z a0 hw [] src b967 ks k967 p1 p2 h967 n0 Z969 g_b967 f992 v972 (Nat.ne_of_lt (Nat.lt_of_lt_of_le AS.lt (Nat.le_of_eq g967.symm))) q973 (o3 q973)) hZ (oH hw 28 rfl) (oH hw 23 rfl) (by decide) (by decide)) (g := (mkF m 9 #[sR src, sI 0, sI 2, sR b967, sU, sU] [(vI 2), (vI 0), (.ref b967), (vI 0), (.ref src)])) rfl (by rw [hml]; rfl) (argsL := [(.ref src), (vI 0), (.ref b967), (vI 0), (vI 2)]) (rest := []) (lenOf pd27 rfl) rfl (oW rfl) (hb hby dj52_16_9) (fun _ _ => ⟨rfl, e967, (oB rfl : 1 + 0 ≤ _), (oB rfl : 2 + 0 ≤ _)⟩)
    dsimp only [Pt.U, Pt.locs, Pt.cells, Pt.slots] at X993 l993 y993 z993 st993 hQ993
    subst l993 y993 z993
    obtain ⟨rfl, Nq993, K993⟩ := hQ993
    have N994 := Fr.app N0 Nq993
    have P995 : Rg p e below (T993.setTop (mkF m 12 #[sR src, sI 0, sI 2, sR b967, sU, sU] [(vI 1)])) B0 := fun t k => P968 t (by
      refine XS.astoreN X967.here hx rfl (hb hby dj52_16_3) rfl rfl (l' := #[sR src, sI 0, sI 2, sR b967, sU, sU]) rfl ?_
      refine XS.aloadN X967.here hx rfl (hb hby dj52_16_4) rfl rfl ?_
      refine XS.iloadN X967.here hx rfl (hb hby dj52_16_5) rfl ?_
      refine XS.aloadN X967.here hx rfl (hb hby dj52_16_6) rfl rfl ?_
      refine XS.iconst X967.here hx rfl (hb hby dj52_16_7) ?_
      refine XS.iloadN X967.here hx rfl (hb hby dj52_16_8) rfl ?_
      exact st993 _ k)
    have Z996 : n0 ≤ T993.heap.size := Nat.le_trans Z969 K993.1
    have K997 : Keep h0 T993.heap [] := K970.trans K993 ((allS (Or.inr sz_b967) all0))
    have O998 : Old Z n0 T993.heap := O971.keep K993 (allS g_b967 all0)
    have f999 := (f992.keep K993 (ninS (Nat.ne_of_lt (Nat.lt_of_lt_of_le AS.lt (Nat.le_of_eq g967.symm))) nin0))
    obtain ⟨_, _, ⟨T1000, L1000, k1000, n1000⟩, -, X1000, ⟨Lc1000, hQ1000, l1000, y1000, z1000⟩, st1000⟩ := Jvm.LawKit.callS X993 hx (y := y_41) hown (mvT hZ (oH hw 266 rfl)) (mvT hZ (oH hw 267 rfl)) (mvT hZ (oH hw 23 rfl)) (mvT hZ (oH hw 268 rfl)) (by decide) (backOf (W := 0) (rm_tb2 l Z a0 hw [] src ks p1 p2 G1 G2 T993.heap n0 Z996 f999 Sg P5 Sf hG2 Sa Sh Sl O998) hZ (oH hw 268 rfl) (oH hw 23 rfl) (by decide) (by decide)) (g := (mkF m 23 #[sR src, sI 0, sI 2, sR b967, sI 1, sU] [(vI 2), (vI 0), (.ref src)])) rfl (by rw [hml]; rfl) (argsL := [(.ref src), (vI 0), (vI 2)]) (rest := []) (lenOf pd28 rfl) rfl (oW rfl) (hb hby dj52_16_23) (fun _ _ => ⟨rfl, rfl, (oB rfl : 1 + 1 ≤ _), (oB rfl : 2 + 4 ≤ _)⟩)
    dsimp only [Pt.U, Pt.locs, Pt.cells, Pt.slots] at X1000 l1000 y1000 z1000 st1000 hQ1000
    subst l1000 y1000 z1000
    obtain ⟨t1000, k1000, rfl, Nq1000, K1000, A1000, s1000⟩ := hQ1000
    have N1001 := Fr.app N994 Nq1000
    have P1002 : Rg p e below (T1000.setTop (mkF m 26 #[sR src, sI 0, sI 2, sR b967, sI 1, sU] [(.ref t1000)])) B0 := fun t k => P995 t (by
      refine XS.istore X993.here hx rfl (hb hby dj52_16_12) rfl (l' := #[sR src, sI 0, sI 2, sR b967, sI 1, sU]) rfl ?_
      refine XS.iload X993.here hx rfl (hb hby dj52_16_14) rfl ?_
      refine XS.iloadN X993.here hx rfl (hb hby dj52_16_16) rfl ?_
      refine XS.icmpNo X993.here hx rfl (hb hby dj52_16_17) rfl (feq (show ¬ ((1 : Int32) = (2 : Int32)) from (by decide))).1 ?_
      refine XS.aloadN X993.here hx rfl (hb hby dj52_16_20) rfl rfl ?_
      refine XS.iloadN X993.here hx rfl (hb hby dj52_16_21) rfl ?_
      refine XS.iloadN X993.here hx rfl (hb hby dj52_16_22) rfl ?_
      exact st1000 _ k)
    have Z1003 : n0 ≤ T1000.heap.size := Nat.le_trans Z996 K1000.1
    have K1004 : Keep h0 T1000.heap [] := K997.trans K1000 (all0)
    have O1005 : Old Z n0 T1000.heap := O998.keep K1000 all0
    have g_t1000 : n0 ≤ t1000 := Nat.le_trans Z996 s1000
    have sz_t1000 : h0.size ≤ t1000 := Nat.le_trans K997.1 s1000
    obtain ⟨_, _, ⟨T1006, L1006, k1006, n1006⟩, -, X1006, ⟨Lc1006, hQ1006, l1006, y1006, z1006⟩, st1006⟩ := Jvm.LawKit.callS X1000 hx (y := y_36) hown (mvT hZ (oH hw 263 rfl)) (mvT hZ (oH hw 264 rfl)) (mvT hZ (oH hw 23 rfl)) (mvT hZ (oH hw 265 rfl)) (by decide) (backOf (W := 0) (rm_gch l Z a0 hw [] t1000 k1000 (4 : Int32) (1 : Int32) p2 ((own_by true [p1, p2]).map Value.int) G1 G2 T1000.heap n0 Z1003 A1000 ⟨by decide, by decide⟩ rfl ⟨by decide, by decide⟩ rfl hp2 Sg P5 Sf hG2 Sa Sh Sl O1005) hZ (oH hw 265 rfl) (oH hw 23 rfl) (by decide) (by decide)) (g := (mkF m 32 #[sR src, sI 0, sI 2, sR b967, sI 1, sR t1000] [(vI 1), (.ref t1000)])) rfl (by rw [hml]; rfl) (argsL := [(.ref t1000), (vI 1)]) (rest := []) (lenOf pd26 rfl) rfl (oW rfl) (hb hby dj52_16_32) (fun _ _ => ⟨rfl, rfl, (oB rfl : 2 + 0 ≤ _), (oB rfl : 6 + 0 ≤ _)⟩)
    dsimp only [Pt.U, Pt.locs, Pt.cells, Pt.slots] at X1006 l1006 y1006 z1006 st1006 hQ1006
    subst l1006 y1006 z1006
    obtain ⟨rfl, Nq1006, e1006⟩ := hQ1006
    have N1007 := Fr.app N1001 Nq1006
    have P1008 : Rg p e below (T1006.setTop (mkF m 35 #[sR src, sI 0, sI 2, sR b967, sI 1, sR t1000] [(.int p2)])) B0 := fun t k => P1002 t (by
      refine XS.astore X1000.here hx rfl (hb hby dj52_16_26) rfl rfl (l' := #[sR src, sI 0, sI 2, sR b967, sI 1, sR t1000]) rfl ?_
      refine XS.aload X1000.here hx rfl (hb hby dj52_16_28) rfl rfl ?_
      refine XS.iload X1000.here hx rfl (hb hby dj52_16_30) rfl ?_
      exact st1006 _ k)
    obtain ⟨fs1009, hr1009, hrun1009, hended1009, hW1009, hsame1009⟩ := X1006.leave (v := some (.ref t1000)) (fun h => by rw [Bd.returns] at h; cases h)
    refine ⟨_, _, pre0 _ (P1008 _ ?_), hrun1009, hended1009, _, _, rfl, ?_, ⟨⟨_, rfl⟩, hW1009, hsame1009.mono (oB rfl) (oB rfl)⟩⟩
    · show Sq p e below (T1006.setTop (mkF m 35 #[sR src, sI 0, sI 2, sR b967, sI 1, sR t1000] [(.int p2)])) _
      refine XS.sipush X1006.here hx rfl (hb hby dj52_16_35) ?_
      refine XS.icmpYes X1006.here hx rfl (pc0 := 38) (pc' := 54) rfl (hb hby dj52_16_38) rfl (tlt (show (255 : Int32) < p2 from (o3 q973))).2.2.1 (by decide) (by decide) ?_
      refine XS.aload X1006.here hx rfl (hb hby dj52_16_54) rfl rfl ?_
      exact retOut X1006 hx Bd.returns rfl (Or.inr (Or.inr (Or.inr (Or.inr ⟨rfl, rfl, rfl⟩)))) (hb hby dj52_16_56) hr1009
    · show Q_cmb1 Z p1 p2 h0 n0 _ T1006.heap _
      rw [e1006]
      exact ⟨t1000, _, rfl, N1007, K1004, A1000, sz_t1000⟩
theorem dj52_15_0 : decode j52_15 0 = .ok (.iload_n 1, 1) := by decide +kernel
theorem dj52_15_1 : decode j52_15 1 = .ok (.aload_n 0, 1) := by decide +kernel
theorem dj52_15_2 : decode j52_15 2 = .ok (.arraylength, 1) := by decide +kernel
theorem dj52_15_3 : decode j52_15 3 = .ok (.isub, 1) := by decide +kernel
theorem dj52_15_4 : decode j52_15 4 = .ok (.bipush 31, 2) := by decide +kernel
theorem dj52_15_6 : decode j52_15 6 = .ok (.iushr, 1) := by decide +kernel
theorem dj52_15_7 : decode j52_15 7 = .ok (.i2b, 1) := by decide +kernel
theorem dj52_15_8 : decode j52_15 8 = .ok (.ireturn, 1) := by decide +kernel
theorem ef_cfl0 (m : MethodId) (x0 : Addr) (x1 : Int32) : entryFrame m #[(.ref x0), (.int x1)] 2 = mkF m 0 #[sR x0, sI x1] [] := by (first | (simp [entryFrame, mkF, argsToLocals, Value.category]; done) | rfl)
def Q_cfl0  (h0 : Heap) (n0 : Nat) (v : Option Value) (h : Heap) (L : List Loc) : Prop := v = some (vI 0) ∧ Fr n0 L ∧ h = h0
theorem rm_cfl0 (l : Launch) (Z : State) (a0 : Array Value) (hw : Tb a0 Z) (ws : List Jvm.Cond) (v1 : Addr) (kv : ClassId) (vs : List Value) (h0 : Heap) (n0 : Nat) (Z0 : n0 ≤ h0.size) (A1 : Arv Z h0 v1 kv .byte (2 : Int32) vs (vI 0)) :
    MF l Z h0 y_43 j52_15 2 (some .byte) ws (rM 0 0 0 0) #[(.ref v1), (vI 2)] (Q_cfl0  h0 n0) := by
  refine MetFree.of_bodySF (plainFor_of_name pn_java_lang_StringUTF16) hisR ?_
  intro p e s m args below meth c s₁ Bd hml hP hK
  obtain ⟨rfl, hZ, hh⟩ := hP
  have hx := Bd.exec
  have hby := Bd.bytes
  have hown : s.vm.findClass "java/lang/StringUTF16" = some m.cls := findClass_of_methodNamed Bd.named
  have X0 : Stand p l e (rM 0 0 0 0) s m #[(.ref v1), (vI 2)] below meth c s₁ [] 0 0 := Stand.of_body Bd
  have e0 : s₁.heap = h0 := by rw [← hh, Bd.state]; rfl
  have N0 := Fr.nil n0
  obtain ⟨B0, pre0, P0⟩ : ∃ B, Rg p e below B (s₁.setTop (entryFrame m #[(.ref v1), (vI 2)] 2)) ∧ Rg p e below (s₁.setTop (mkF m 0 #[sR v1, sI 2] [])) B := ⟨_, fun t k => castTop (ef_cfl0 m v1 (2 : Int32)) k, fun t k => k⟩
  obtain ⟨cl1010, Ar1010, -, S1010, N1010, -, -⟩ := id A1
  obtain ⟨fs1011, hr1011, hrun1011, hended1011, hW1011, hsame1011⟩ := X0.leave (v := some (.int (nar .byte ((0 : Int32).toInt8.toInt32)))) (fun h => by rw [Bd.returns] at h; cases h)
  refine ⟨_, _, pre0 _ (P0 _ ?_), hrun1011, hended1011, _, _, rfl, ?_, ⟨⟨_, rfl⟩, hW1011, hsame1011.mono (oB rfl) (oB rfl)⟩⟩
  · refine XS.iloadN X0.here hx rfl (hb hby dj52_15_0) rfl ?_
    show Sq p e below (s₁.setTop (mkF m 1 #[sR v1, sI 2] [(vI 2)])) _
    refine XS.aloadN X0.here hx rfl (hb hby dj52_15_1) rfl rfl ?_
    show Sq p e below (s₁.setTop (mkF m 2 #[sR v1, sI 2] [(.ref v1), (vI 2)])) _
    refine X0.arraylength hx (by rw [e0]; exact Ar1010.1) (State.isArrayOf_alike hZ.alike Ar1010.2.1) (g := (mkF m 2 #[sR v1, sI 2] [(.ref v1), (vI 2)])) rfl rfl (hb hby dj52_15_2) _ ?_
    rw [len_of S1010 N1010]
    show Sq p e below (s₁.setTop (mkF m 3 #[sR v1, sI 2] [(vI 2), (vI 2)])) _
    refine XS.isub X0.here hx rfl (hb hby dj52_15_3) rfl ?_
    refine XS.bipush X0.here hx rfl (hb hby dj52_15_4) ?_
    refine XS.iushr X0.here hx rfl (hb hby dj52_15_6) rfl ?_
    refine XS.i2b X0.here hx rfl (hb hby dj52_15_7) rfl ?_
    exact retN X0 hx (t := .byte) Bd.returns (by simp) (hb hby dj52_15_8) hr1011
  · show Q_cfl0  h0 n0 _ s₁.heap _
    rw [e0]
    exact ⟨rfl, N0, rfl⟩
theorem ef_cfl1 (m : MethodId) (x0 : Addr) (x1 : Int32) : entryFrame m #[(.ref x0), (.int x1)] 2 = mkF m 0 #[sR x0, sI x1] [] := by (first | (simp [entryFrame, mkF, argsToLocals, Value.category]; done) | rfl)
def Q_cfl1  (h0 : Heap) (n0 : Nat) (v : Option Value) (h : Heap) (L : List Loc) : Prop := v = some (vI 1) ∧ Fr n0 L ∧ h = h0
theorem rm_cfl1 (l : Launch) (Z : State) (a0 : Array Value) (hw : Tb a0 Z) (ws : List Jvm.Cond) (v1 : Addr) (kv : ClassId) (vs : List Value) (h0 : Heap) (n0 : Nat) (Z0 : n0 ≤ h0.size) (A1 : Arv Z h0 v1 kv .byte (4 : Int32) vs (vI 0)) :
    MF l Z h0 y_43 j52_15 2 (some .byte) ws (rM 0 0 0 0) #[(.ref v1), (vI 2)] (Q_cfl1  h0 n0) := by
  refine MetFree.of_bodySF (plainFor_of_name pn_java_lang_StringUTF16) hisR ?_
  intro p e s m args below meth c s₁ Bd hml hP hK
  obtain ⟨rfl, hZ, hh⟩ := hP
  have hx := Bd.exec
  have hby := Bd.bytes
  have hown : s.vm.findClass "java/lang/StringUTF16" = some m.cls := findClass_of_methodNamed Bd.named
  have X0 : Stand p l e (rM 0 0 0 0) s m #[(.ref v1), (vI 2)] below meth c s₁ [] 0 0 := Stand.of_body Bd
  have e0 : s₁.heap = h0 := by rw [← hh, Bd.state]; rfl
  have N0 := Fr.nil n0
  obtain ⟨B0, pre0, P0⟩ : ∃ B, Rg p e below B (s₁.setTop (entryFrame m #[(.ref v1), (vI 2)] 2)) ∧ Rg p e below (s₁.setTop (mkF m 0 #[sR v1, sI 2] [])) B := ⟨_, fun t k => castTop (ef_cfl1 m v1 (2 : Int32)) k, fun t k => k⟩
  obtain ⟨cl1012, Ar1012, -, S1012, N1012, -, -⟩ := id A1
  obtain ⟨fs1013, hr1013, hrun1013, hended1013, hW1013, hsame1013⟩ := X0.leave (v := some (.int (nar .byte ((1 : Int32).toInt8.toInt32)))) (fun h => by rw [Bd.returns] at h; cases h)
  refine ⟨_, _, pre0 _ (P0 _ ?_), hrun1013, hended1013, _, _, rfl, ?_, ⟨⟨_, rfl⟩, hW1013, hsame1013.mono (oB rfl) (oB rfl)⟩⟩
  · refine XS.iloadN X0.here hx rfl (hb hby dj52_15_0) rfl ?_
    show Sq p e below (s₁.setTop (mkF m 1 #[sR v1, sI 2] [(vI 2)])) _
    refine XS.aloadN X0.here hx rfl (hb hby dj52_15_1) rfl rfl ?_
    show Sq p e below (s₁.setTop (mkF m 2 #[sR v1, sI 2] [(.ref v1), (vI 2)])) _
    refine X0.arraylength hx (by rw [e0]; exact Ar1012.1) (State.isArrayOf_alike hZ.alike Ar1012.2.1) (g := (mkF m 2 #[sR v1, sI 2] [(.ref v1), (vI 2)])) rfl rfl (hb hby dj52_15_2) _ ?_
    rw [len_of S1012 N1012]
    show Sq p e below (s₁.setTop (mkF m 3 #[sR v1, sI 2] [(vI 4), (vI 2)])) _
    refine XS.isub X0.here hx rfl (hb hby dj52_15_3) rfl ?_
    refine XS.bipush X0.here hx rfl (hb hby dj52_15_4) ?_
    refine XS.iushr X0.here hx rfl (hb hby dj52_15_6) rfl ?_
    refine XS.i2b X0.here hx rfl (hb hby dj52_15_7) rfl ?_
    exact retN X0 hx (t := .byte) Bd.returns (by simp) (hb hby dj52_15_8) hr1013
  · show Q_cfl1  h0 n0 _ s₁.heap _
    rw [e0]
    exact ⟨rfl, N0, rfl⟩
theorem dj42_149_0 : decode j42_149 0 = .ok (.aload_n 0, 1) := by decide +kernel
theorem dj42_149_1 : decode j42_149 1 = .ok (.invokespecial 1, 3) := by decide +kernel
theorem dj42_149_4 : decode j42_149 4 = .ok (.iload_n 3, 1) := by decide +kernel
theorem dj42_149_5 : decode j42_149 5 = .ok (.ifCond .ne 22, 3) := by decide +kernel
theorem dj42_149_27 : decode j42_149 27 = .ok (.getstatic 38, 3) := by decide +kernel
theorem dj42_149_30 : decode j42_149 30 = .ok (.ifCond .eq 28, 3) := by decide +kernel
theorem dj42_149_33 : decode j42_149 33 = .ok (.aload_n 1, 1) := by decide +kernel
theorem dj42_149_34 : decode j42_149 34 = .ok (.iload_n 2, 1) := by decide +kernel
theorem dj42_149_35 : decode j42_149 35 = .ok (.iload_n 3, 1) := by decide +kernel
theorem dj42_149_36 : decode j42_149 36 = .ok (.invokestatic 177, 3) := by decide +kernel
theorem dj42_149_39 : decode j42_149 39 = .ok (.astore 5, 2) := by decide +kernel
theorem dj42_149_41 : decode j42_149 41 = .ok (.aload_n 0, 1) := by decide +kernel
theorem dj42_149_42 : decode j42_149 42 = .ok (.aload 5, 2) := by decide +kernel
theorem dj42_149_44 : decode j42_149 44 = .ok (.iload_n 3, 1) := by decide +kernel
theorem dj42_149_45 : decode j42_149 45 = .ok (.invokestatic 47, 3) := by decide +kernel
theorem pd29 : parseMethodDescriptor "([BI)B" = some ⟨[(.array .byte), .int], some .byte⟩ := by decide +kernel
theorem dj42_149_48 : decode j42_149 48 = .ok (.putfield 15, 3) := by decide +kernel
theorem dj42_149_51 : decode j42_149 51 = .ok (.aload_n 0, 1) := by decide +kernel
theorem dj42_149_52 : decode j42_149 52 = .ok (.aload 5, 2) := by decide +kernel
theorem dj42_149_54 : decode j42_149 54 = .ok (.putfield 9, 3) := by decide +kernel
theorem dj42_149_57 : decode j42_149 57 = .ok (.return_, 1) := by decide +kernel
theorem ef_in40 (m : MethodId) (x0 : Addr) (x1 : Addr) (x2 : Int32) (x3 : Int32) : entryFrame m #[(.ref x0), (.ref x1), (.int x2), (.int x3), .null] 6 = mkF m 0 #[sR x0, sR x1, sI x2, sI x3, .val .null, sU] [] := by (first | (simp [entryFrame, mkF, argsToLocals, Value.category]; done) | rfl)
def Q_in40 (Z : State) (a1 : Addr) (p1 p2 : Int32) (h0 : Heap) (n0 : Nat) (v : Option Value) (h : Heap) (L : List Loc) : Prop := v = none ∧ Fr n0 L ∧ Keep h0 h [a1] ∧ Exa Z h a1 nS ∧ Fld Z h a1 nS "coder" "B" (vI 0) ∧ ∃ (t : Addr) (k : ClassId) (N : Int32), Fld Z h a1 nS "value" "[B" (.ref t) ∧ Arv Z h t k .byte N ((own_by false [p1, p2]).map Value.int) (vI 0) ∧ N = Int32.ofNat (own_by false [p1, p2]).length
theorem rm_in40 (l : Launch) (Z : State) (a0 : Array Value) (hw : Tb a0 Z) (ws : List Jvm.Cond) (a1 src : Addr) (ks : ClassId) (p1 p2 : Int32) (G1 : Int32) (G2 : Value) (h0 : Heap) (n0 : Nat) (Z0 : n0 ≤ h0.size) (g_a1 : n0 ≤ a1) (E_a1 : Exa Z h0 a1 nS) (Fv : Fld Z h0 a1 nS "value" "[B" .null) (Fk : Fld Z h0 a1 nS "coder" "B" (vI 0)) (AS : Arv Z h0 src ks .char (2 : Int32) [(.int p1), (.int p2)] (vI 0)) (o1 : ¬ (255 : Int32) < p1) (o2 : ¬ (255 : Int32) < p2) (hp1 : ¬ p1 < 0 ∧ ¬ (65535 : Int32) < p1) (hp2 : ¬ p2 < 0 ∧ ¬ (65535 : Int32) < p2) (Sg : oSg Z G1) (P5 : ¬ (G1 = (0 : Int32))) (Sf : oSf Z G2) (hG2 : G2.isRef = true) (Sa : oSa Z) (Sh : oSh Z) (Sl : oSl Z) (Ol : Old Z n0 h0) :
    MF l Z h0 y_44 j42_149 6 none ws (rM 2 1 2 35) #[(.ref a1), (.ref src), (vI 0), (vI 2), .null] (Q_in40 Z a1 p1 p2 h0 n0) := by
  refine MetFree.of_bodySF (plainFor_of_name pn_java_lang_String) hisR ?_
  intro p e s m args below meth c s₁ Bd hml hP hK
  obtain ⟨rfl, hZ, hh⟩ := hP
  have hx := Bd.exec
  have hby := Bd.bytes
  have hown : s.vm.findClass "java/lang/String" = some m.cls := findClass_of_methodNamed Bd.named
  have hnm := (name_of_methodNamed Bd.named Bd.method).1
  have X0 : Stand p l e (rM 2 1 2 35) s m #[(.ref a1), (.ref src), (vI 0), (vI 2), .null] below meth c s₁ [] 0 0 := Stand.of_body Bd
  have e0 : s₁.heap = h0 := by rw [← hh, Bd.state]; rfl
  have N0 := Fr.nil n0
  obtain ⟨B0, pre0, P0⟩ : ∃ B, Rg p e below B (s₁.setTop (entryFrame m #[(.ref a1), (.ref src), (vI 0), (vI 2), .null] 6)) ∧ Rg p e below (s₁.setTop (mkF m 0 #[sR a1, sR src, sI 0, sI 2, .val .null, sU] [])) B := ⟨_, fun t k => castTop (ef_in40 m a1 src (0 : Int32) (2 : Int32)) k, fun t k => k⟩
  obtain ⟨T1014, X1014, e1014, st1014⟩ := initO X0 hx hZ hown (oH hw 17 rfl) (oH hw 18 rfl) (oH hw 19 rfl) e0 (g := (mkF m 1 #[sR a1, sR src, sI 0, sI 2, .val .null, sU] [(.ref a1)])) rfl (by rw [hml]; rfl) rfl (hb hby dj42_149_1) (by decide) (W := 0) (oW rfl) (by decide)
  have P1015 : Rg p e below (T1014.setTop (mkF m 4 #[sR a1, sR src, sI 0, sI 2, .val .null, sU] [])) B0 := fun t k => P0 t (by
    refine XS.aloadN X0.here hx rfl (hb hby dj42_149_0) rfl rfl ?_
    exact st1014 _ k)
  obtain ⟨T1016, X1016, e1016, st1016⟩ := getS2 X1014 hx hZ hown (host := "") (Or.inl (oH hw 20 rfl)) Via.refl e1014 (Sg.ext Ol.2) (g := (mkF m 27 #[sR a1, sR src, sI 0, sI 2, .val .null, sU] [])) rfl (hb hby dj42_149_27)
  have P1017 : Rg p e below (T1016.setTop (mkF m 30 #[sR a1, sR src, sI 0, sI 2, .val .null, sU] [(.int G1)])) B0 := fun t k => P1015 t (by
    refine XS.iloadN X1014.here hx rfl (hb hby dj42_149_4) rfl ?_
    refine XS.ifYes X1014.here hx rfl (pc0 := 5) (pc' := 27) rfl (hb hby dj42_149_5) rfl ((if0 _ _).trans (feq (show ¬ ((2 : Int32) = (0 : Int32)) from (by decide))).2) (by decide) (by decide) ?_
    exact st1016 _ k)
  obtain ⟨_, _, ⟨T1018, L1018, k1018, n1018⟩, -, X1018, ⟨Lc1018, hQ1018, l1018, y1018, z1018⟩, st1018⟩ := Jvm.LawKit.callS X1016 hx (y := y_42) hown (mvT hZ (oH hw 21 rfl)) (mvT hZ (oH hw 22 rfl)) (mvT hZ (oH hw 23 rfl)) (mvT hZ (oH hw 24 rfl)) (by decide) (backOf (W := 0) (rm_cmb0 l Z a0 hw [] src ks p1 p2 G1 G2 h0 n0 Z0 AS o1 o2 hp1 hp2 Sg P5 Sf hG2 Sa Sh Sl Ol) hZ (oH hw 24 rfl) (oH hw 23 rfl) (by decide) (by decide)) (g := (mkF m 36 #[sR a1, sR src, sI 0, sI 2, .val .null, sU] [(vI 2), (vI 0), (.ref src)])) rfl (by rw [hml]; rfl) (argsL := [(.ref src), (vI 0), (vI 2)]) (rest := []) (lenOf pd28 rfl) rfl (oW rfl) (hb hby dj42_149_36) (fun _ _ => ⟨rfl, e1016, (oB rfl : 0 + 1 ≤ _), (oB rfl : 0 + 2 ≤ _)⟩)
  dsimp only [Pt.U, Pt.locs, Pt.cells, Pt.slots] at X1018 l1018 y1018 z1018 st1018 hQ1018
  subst l1018 y1018 z1018
  obtain ⟨t1018, k1018, rfl, Nq1018, K1018, A1018, s1018⟩ := hQ1018
  have N1019 := Fr.app N0 Nq1018
  have P1020 : Rg p e below (T1018.setTop (mkF m 39 #[sR a1, sR src, sI 0, sI 2, .val .null, sU] [(.ref t1018)])) B0 := fun t k => P1017 t (by
    refine XS.ifNo X1016.here hx rfl (hb hby dj42_149_30) rfl ((if0 _ _).trans (feq (show ¬ (G1 = (0 : Int32)) from P5)).1) ?_
    refine XS.aloadN X1016.here hx rfl (hb hby dj42_149_33) rfl rfl ?_
    refine XS.iloadN X1016.here hx rfl (hb hby dj42_149_34) rfl ?_
    refine XS.iloadN X1016.here hx rfl (hb hby dj42_149_35) rfl ?_
    exact st1018 _ k)
  have Z1021 : n0 ≤ T1018.heap.size := Nat.le_trans Z0 K1018.1
  have K1022 : Keep h0 T1018.heap [a1] := (Keep.refl h0 [a1]).trans K1018 (all0)
  have O1023 : Old Z n0 T1018.heap := Ol.keep K1018 all0
  have g_t1018 : n0 ≤ t1018 := Nat.le_trans Z0 s1018
  have sz_t1018 : h0.size ≤ t1018 := Nat.le_trans (Keep.refl h0 [a1]).1 s1018
  obtain ⟨_, _, ⟨T1024, L1024, k1024, n1024⟩, -, X1024, ⟨Lc1024, hQ1024, l1024, y1024, z1024⟩, st1024⟩ := Jvm.LawKit.callS X1018 hx (y := y_43) hown (mvT hZ (oH hw 29 rfl)) (mvT hZ (oH hw 30 rfl)) (mvT hZ (oH hw 23 rfl)) (mvT hZ (oH hw 31 rfl)) (by decide) (backOf (W := 1) (rm_cfl0 l Z a0 hw [] t1018 k1018 ((own_by false [p1, p2]).map Value.int) T1018.heap n0 Z1021 A1018) hZ (oH hw 31 rfl) (oH hw 23 rfl) (by decide) (by decide)) (g := (mkF m 45 #[sR a1, sR src, sI 0, sI 2, .val .null, sR t1018] [(vI 2), (.ref t1018), (.ref a1)])) rfl (by rw [hml]; rfl) (argsL := [(.ref t1018), (vI 2)]) (rest := [(.ref a1)]) (lenOf pd29 rfl) rfl (oW rfl) (hb hby dj42_149_45) (fun _ _ => ⟨rfl, rfl, (oB rfl : 1 + 0 ≤ _), (oB rfl : 2 + 0 ≤ _)⟩)
  dsimp only [Pt.U, Pt.locs, Pt.cells, Pt.slots] at X1024 l1024 y1024 z1024 st1024 hQ1024
  subst l1024 y1024 z1024
  obtain ⟨rfl, Nq1024, e1024⟩ := hQ1024
  have N1025 := Fr.app N1019 Nq1024
  have P1026 : Rg p e below (T1024.setTop (mkF m 48 #[sR a1, sR src, sI 0, sI 2, .val .null, sR t1018] [(vI 0), (.ref a1)])) B0 := fun t k => P1020 t (by
    refine XS.astore X1018.here hx rfl (hb hby dj42_149_39) rfl rfl (l' := #[sR a1, sR src, sI 0, sI 2, .val .null, sR t1018]) rfl ?_
    refine XS.aloadN X1018.here hx rfl (hb hby dj42_149_41) rfl rfl ?_
    refine XS.aload X1018.here hx rfl (hb hby dj42_149_42) rfl rfl ?_
    refine XS.iloadN X1018.here hx rfl (hb hby dj42_149_44) rfl ?_
    exact st1024 _ k)
  have f1027 := (Fk.keep K1018 nin0)
  have f1028 := (E_a1.keep K1018)
  obtain ⟨T1029, h1029, X1029, e1029, W1029, st1029⟩ := putFN X1024 hx hZ hown (oH hw 32 rfl) Via.refl e1024 f1027 f1028 (Or.inr ⟨(oH hw 33 rfl), rfl, hnm⟩) (oH hw 7 rfl) (ty := .byte) (v' := .int (0 : Int32)) (by decide) rfl rfl (g := (mkF m 48 #[sR a1, sR src, sI 0, sI 2, .val .null, sR t1018] [(vI 0), (.ref a1)])) rfl rfl (hb hby dj42_149_48)
  have P1030 : Rg p e below (T1029.setTop (mkF m 51 #[sR a1, sR src, sI 0, sI 2, .val .null, sR t1018] [])) B0 := fun t k => P1026 t (by
    exact st1029 _ k)
  have f1031 := f1027.same W1029
  have N1032 := Fr.snoc X1029 N1025 g_a1
  have Z1033 : n0 ≤ h1029.size := Nat.le_trans Z1021 (Keep.of_wr W1029).1
  have K1034 : Keep h0 h1029 [a1] := K1022.wr W1029 (Or.inl (List.mem_of_getElem? (i := 0) rfl))
  have O1035 : Old Z n0 h1029 := O1023.wr W1029 g_a1
  have f1036 := ((Fv.keep K1018 nin0).other W1029 (Or.inr (slot_ne (Or.inr (oH hw 35 rfl)) (Or.inr (oH hw 33 rfl)) (by decide) (t := (.array .byte)) (t' := .byte) (by decide) (by decide))))
  have f1037 := (f1028.wr W1029)
  obtain ⟨T1038, h1038, X1038, e1038, W1038, st1038⟩ := putF X1029 hx hZ hown (host := "") (Or.inl (oH hw 34 rfl)) Via.refl e1029 f1036 f1037 (Or.inr ⟨(oH hw 35 rfl), rfl, hnm⟩) (oH hw 7 rfl) (ty := (.array .byte)) (by decide) rfl rfl (g := (mkF m 54 #[sR a1, sR src, sI 0, sI 2, .val .null, sR t1018] [(.ref t1018), (.ref a1)])) rfl rfl (hb hby dj42_149_54)
  have P1039 : Rg p e below (T1038.setTop (mkF m 57 #[sR a1, sR src, sI 0, sI 2, .val .null, sR t1018] [])) B0 := fun t k => P1030 t (by
    refine XS.aloadN X1029.here hx rfl (hb hby dj42_149_51) rfl rfl ?_
    refine XS.aload X1029.here hx rfl (hb hby dj42_149_52) rfl rfl ?_
    exact st1038 _ k)
  have f1040 := f1036.same W1038
  have N1041 := Fr.snoc X1038 N1032 g_a1
  have Z1042 : n0 ≤ h1038.size := Nat.le_trans Z1033 (Keep.of_wr W1038).1
  have K1043 : Keep h0 h1038 [a1] := K1034.wr W1038 (Or.inl (List.mem_of_getElem? (i := 0) rfl))
  have O1044 : Old Z n0 h1038 := O1035.wr W1038 g_a1
  have f1045 := (f1037.wr W1038)
  have f1046 := (f1031.other W1038 (Or.inr (slot_ne (Or.inr (oH hw 33 rfl)) (Or.inr (oH hw 35 rfl)) (by decide) (t := .byte) (t' := (.array .byte)) (by decide) (by decide))))
  have f1047 := ((A1018.other W1029 (Ne.symm (Nat.ne_of_lt (Nat.lt_of_lt_of_le Fk.lt s1018)))).other W1038 (Ne.symm (Nat.ne_of_lt (Nat.lt_of_lt_of_le Fk.lt s1018))))
  obtain ⟨fs1048, hr1048, hrun1048, hended1048, hW1048, hsame1048⟩ := X1038.leave (v := none) (fun _ => rfl)
  refine ⟨_, _, pre0 _ (P1039 _ ?_), hrun1048, hended1048, _, _, rfl, ?_, ⟨⟨_, rfl⟩, hW1048, hsame1048.mono (oB rfl) (oB rfl)⟩⟩
  · exact X1038.returnOut hx Bd.returns (hb hby dj42_149_57) hr1048
  · show Q_in40 Z a1 p1 p2 h0 n0 _ T1038.heap _
    rw [e1038]
    exact ⟨rfl, N1041, K1043, f1045, f1046, t1018, _, _, f1040, f1047, rfl⟩
theorem dj42_3_0 : decode j42_3 0 = .ok (.aload_n 0, 1) := by decide +kernel
theorem dj42_3_1 : decode j42_3 1 = .ok (.aload_n 1, 1) := by decide +kernel
theorem dj42_3_2 : decode j42_3 2 = .ok (.iconst 0, 1) := by decide +kernel
theorem dj42_3_3 : decode j42_3 3 = .ok (.aload_n 1, 1) := by decide +kernel
theorem dj42_3_4 : decode j42_3 4 = .ok (.arraylength, 1) := by decide +kernel
theorem dj42_3_5 : decode j42_3 5 = .ok (.aconst_null, 1) := by decide +kernel
theorem dj42_3_6 : decode j42_3 6 = .ok (.invokespecial 27, 3) := by decide +kernel
theorem pd30 : parseMethodDescriptor "([CIILjava/lang/Void;)V" = some ⟨[(.array .char), .int, .int, (.object "java/lang/Void")], none⟩ := by decide +kernel
theorem dj42_3_9 : decode j42_3 9 = .ok (.return_, 1) := by decide +kernel
theorem ef_in10 (m : MethodId) (x0 : Addr) (x1 : Addr) : entryFrame m #[(.ref x0), (.ref x1)] 2 = mkF m 0 #[sR x0, sR x1] [] := by (first | (simp [entryFrame, mkF, argsToLocals, Value.category]; done) | rfl)
def Q_in10 (Z : State) (a1 : Addr) (p1 p2 : Int32) (h0 : Heap) (n0 : Nat) (v : Option Value) (h : Heap) (L : List Loc) : Prop := v = none ∧ Fr n0 L ∧ Keep h0 h [a1] ∧ Exa Z h a1 nS ∧ Fld Z h a1 nS "coder" "B" (vI 0) ∧ ∃ (t : Addr) (k : ClassId) (N : Int32), Fld Z h a1 nS "value" "[B" (.ref t) ∧ Arv Z h t k .byte N ((own_by false [p1, p2]).map Value.int) (vI 0) ∧ N = Int32.ofNat (own_by false [p1, p2]).length
theorem rm_in10 (l : Launch) (Z : State) (a0 : Array Value) (hw : Tb a0 Z) (ws : List Jvm.Cond) (a1 src : Addr) (ks : ClassId) (p1 p2 : Int32) (G1 : Int32) (G2 : Value) (h0 : Heap) (n0 : Nat) (Z0 : n0 ≤ h0.size) (g_a1 : n0 ≤ a1) (E_a1 : Exa Z h0 a1 nS) (Fv : Fld Z h0 a1 nS "value" "[B" .null) (Fk : Fld Z h0 a1 nS "coder" "B" (vI 0)) (AS : Arv Z h0 src ks .char (2 : Int32) [(.int p1), (.int p2)] (vI 0)) (o1 : ¬ (255 : Int32) < p1) (o2 : ¬ (255 : Int32) < p2) (hp1 : ¬ p1 < 0 ∧ ¬ (65535 : Int32) < p1) (hp2 : ¬ p2 < 0 ∧ ¬ (65535 : Int32) < p2) (Sg : oSg Z G1) (P5 : ¬ (G1 = (0 : Int32))) (Sf : oSf Z G2) (hG2 : G2.isRef = true) (Sa : oSa Z) (Sh : oSh Z) (Sl : oSl Z) (Ol : Old Z n0 h0) :
    MF l Z h0 y_45 j42_3 2 none ws (rM 3 1 2 52) #[(.ref a1), (.ref src)] (Q_in10 Z a1 p1 p2 h0 n0) := by
  refine MetFree.of_bodySF (plainFor_of_name pn_java_lang_String) hisR ?_
  intro p e s m args below meth c s₁ Bd hml hP hK
  obtain ⟨rfl, hZ, hh⟩ := hP
  have hx := Bd.exec
  have hby := Bd.bytes
  have hown : s.vm.findClass "java/lang/String" = some m.cls := findClass_of_methodNamed Bd.named
  have X0 : Stand p l e (rM 3 1 2 52) s m #[(.ref a1), (.ref src)] below meth c s₁ [] 0 0 := Stand.of_body Bd
  have e0 : s₁.heap = h0 := by rw [← hh, Bd.state]; rfl
  have N0 := Fr.nil n0
  obtain ⟨B0, pre0, P0⟩ : ∃ B, Rg p e below B (s₁.setTop (entryFrame m #[(.ref a1), (.ref src)] 2)) ∧ Rg p e below (s₁.setTop (mkF m 0 #[sR a1, sR src] [])) B := ⟨_, fun t k => castTop (ef_in10 m a1 src) k, fun t k => k⟩
  obtain ⟨cl1049, Ar1049, -, S1049, N1049, -, -⟩ := id AS
  obtain ⟨_, _, ⟨T1050, L1050, k1050, n1050⟩, -, X1050, ⟨Lc1050, hQ1050, l1050, y1050, z1050⟩, st1050⟩ := X0.specialBack hx (y := y_44) rfl hown (mvT hZ (oH hw 13 rfl)) (mvT hZ (oH hw 14 rfl)) (mvT hZ (oH hw 16 rfl)) (by decide) (backOf (W := 0) (rm_in40 l Z a0 hw [] a1 src ks p1 p2 G1 G2 h0 n0 Z0 g_a1 E_a1 Fv Fk AS o1 o2 hp1 hp2 Sg P5 Sf hG2 Sa Sh Sl Ol) hZ (oH hw 16 rfl) (oH hw 8 rfl) (by decide) (by decide)) (g := (mkF m 6 #[sR a1, sR src] [.null, (vI 2), (vI 0), (.ref src), (.ref a1)])) rfl (by rw [hml]; rfl) (Steps.refl _) (a := a1) (argsL := [(.ref src), (vI 0), (vI 2), .null]) (rest := []) (lenOf pd30 rfl) rfl (oW rfl) (hb hby dj42_3_6) (fun _ _ => ⟨rfl, e0, (oB rfl : 0 + 1 ≤ _), (oB rfl : 0 + 2 ≤ _)⟩)
  dsimp only [Pt.U, Pt.locs, Pt.cells, Pt.slots] at X1050 l1050 y1050 z1050 st1050 hQ1050
  subst l1050 y1050 z1050
  obtain ⟨rfl, Nq1050, K1050, Es1050, Fc1050, t1050, k1050, N1050_, Fv1050, A1050, hN1050⟩ := hQ1050
  have N1051 := Fr.app N0 Nq1050
  have P1052 : Rg p e below (T1050.setTop (mkF m 9 #[sR a1, sR src] [])) B0 := fun t k => P0 t (by
    refine XS.aloadN X0.here hx rfl (hb hby dj42_3_0) rfl rfl ?_
    refine XS.aloadN X0.here hx rfl (hb hby dj42_3_1) rfl rfl ?_
    refine XS.iconst X0.here hx rfl (hb hby dj42_3_2) ?_
    refine XS.aloadN X0.here hx rfl (hb hby dj42_3_3) rfl rfl ?_
    show Sq p e below (s₁.setTop (mkF m 4 #[sR a1, sR src] [(.ref src), (vI 0), (.ref src), (.ref a1)])) _
    refine X0.arraylength hx (by rw [e0]; exact Ar1049.1) (State.isArrayOf_alike hZ.alike Ar1049.2.1) (g := (mkF m 4 #[sR a1, sR src] [(.ref src), (vI 0), (.ref src), (.ref a1)])) rfl rfl (hb hby dj42_3_4) _ ?_
    rw [len_of S1049 N1049]
    show Sq p e below (s₁.setTop (mkF m 5 #[sR a1, sR src] [(vI 2), (vI 0), (.ref src), (.ref a1)])) _
    refine XS.aconstNull X0.here hx rfl (hb hby dj42_3_5) ?_
    exact st1050.trans k)
  have Z1053 : n0 ≤ T1050.heap.size := Nat.le_trans Z0 K1050.1
  have K1054 : Keep h0 T1050.heap [a1] := (Keep.refl h0 [a1]).trans K1050 ((allS (Or.inl (List.mem_of_getElem? (i := 0) rfl)) all0))
  have O1055 : Old Z n0 T1050.heap := Ol.keep K1050 (allS g_a1 all0)
  obtain ⟨fs1056, hr1056, hrun1056, hended1056, hW1056, hsame1056⟩ := X1050.leave (v := none) (fun _ => rfl)
  refine ⟨_, _, pre0 _ (P1052 _ ?_), hrun1056, hended1056, _, _, rfl, ?_, ⟨⟨_, rfl⟩, hW1056, hsame1056.mono (oB rfl) (oB rfl)⟩⟩
  · exact X1050.returnOut hx Bd.returns (hb hby dj42_3_9) hr1056
  · show Q_in10 Z a1 p1 p2 h0 n0 _ T1050.heap _
    exact ⟨rfl, N1051, K1054, Es1050, Fc1050, t1050, k1050, N1050_, Fv1050, A1050, hN1050⟩
theorem ef_in41 (m : MethodId) (x0 : Addr) (x1 : Addr) (x2 : Int32) (x3 : Int32) : entryFrame m #[(.ref x0), (.ref x1), (.int x2), (.int x3), .null] 6 = mkF m 0 #[sR x0, sR x1, sI x2, sI x3, .val .null, sU] [] := by (first | (simp [entryFrame, mkF, argsToLocals, Value.category]; done) | rfl)
def Q_in41 (Z : State) (a1 : Addr) (p1 p2 : Int32) (h0 : Heap) (n0 : Nat) (v : Option Value) (h : Heap) (L : List Loc) : Prop := v = none ∧ Fr n0 L ∧ Keep h0 h [a1] ∧ Exa Z h a1 nS ∧ Fld Z h a1 nS "coder" "B" (vI 1) ∧ ∃ (t : Addr) (k : ClassId) (N : Int32), Fld Z h a1 nS "value" "[B" (.ref t) ∧ Arv Z h t k .byte N ((own_by true [p1, p2]).map Value.int) (vI 0) ∧ N = Int32.ofNat (own_by true [p1, p2]).length
theorem rm_in41 (l : Launch) (Z : State) (a0 : Array Value) (hw : Tb a0 Z) (ws : List Jvm.Cond) (a1 src : Addr) (ks : ClassId) (p1 p2 : Int32) (G1 : Int32) (G2 : Value) (h0 : Heap) (n0 : Nat) (Z0 : n0 ≤ h0.size) (g_a1 : n0 ≤ a1) (E_a1 : Exa Z h0 a1 nS) (Fv : Fld Z h0 a1 nS "value" "[B" .null) (Fk : Fld Z h0 a1 nS "coder" "B" (vI 0)) (AS : Arv Z h0 src ks .char (2 : Int32) [(.int p1), (.int p2)] (vI 0)) (o3 : ¬ (255 : Int32) < p1 → (255 : Int32) < p2) (hp1 : ¬ p1 < 0 ∧ ¬ (65535 : Int32) < p1) (hp2 : ¬ p2 < 0 ∧ ¬ (65535 : Int32) < p2) (Sg : oSg Z G1) (P5 : ¬ (G1 = (0 : Int32))) (Sf : oSf Z G2) (hG2 : G2.isRef = true) (Sa : oSa Z) (Sh : oSh Z) (Sl : oSl Z) (Ol : Old Z n0 h0) :
    MF l Z h0 y_44 j42_149 6 none ws (rM 4 2 6 57) #[(.ref a1), (.ref src), (vI 0), (vI 2), .null] (Q_in41 Z a1 p1 p2 h0 n0) := by
  refine MetFree.of_bodySF (plainFor_of_name pn_java_lang_String) hisR ?_
  intro p e s m args below meth c s₁ Bd hml hP hK
  obtain ⟨rfl, hZ, hh⟩ := hP
  have hx := Bd.exec
  have hby := Bd.bytes
  have hown : s.vm.findClass "java/lang/String" = some m.cls := findClass_of_methodNamed Bd.named
  have hnm := (name_of_methodNamed Bd.named Bd.method).1
  have X0 : Stand p l e (rM 4 2 6 57) s m #[(.ref a1), (.ref src), (vI 0), (vI 2), .null] below meth c s₁ [] 0 0 := Stand.of_body Bd
  have e0 : s₁.heap = h0 := by rw [← hh, Bd.state]; rfl
  have N0 := Fr.nil n0
  obtain ⟨B0, pre0, P0⟩ : ∃ B, Rg p e below B (s₁.setTop (entryFrame m #[(.ref a1), (.ref src), (vI 0), (vI 2), .null] 6)) ∧ Rg p e below (s₁.setTop (mkF m 0 #[sR a1, sR src, sI 0, sI 2, .val .null, sU] [])) B := ⟨_, fun t k => castTop (ef_in41 m a1 src (0 : Int32) (2 : Int32)) k, fun t k => k⟩
  obtain ⟨T1057, X1057, e1057, st1057⟩ := initO X0 hx hZ hown (oH hw 17 rfl) (oH hw 18 rfl) (oH hw 19 rfl) e0 (g := (mkF m 1 #[sR a1, sR src, sI 0, sI 2, .val .null, sU] [(.ref a1)])) rfl (by rw [hml]; rfl) rfl (hb hby dj42_149_1) (by decide) (W := 0) (oW rfl) (by decide)
  have P1058 : Rg p e below (T1057.setTop (mkF m 4 #[sR a1, sR src, sI 0, sI 2, .val .null, sU] [])) B0 := fun t k => P0 t (by
    refine XS.aloadN X0.here hx rfl (hb hby dj42_149_0) rfl rfl ?_
    exact st1057 _ k)
  obtain ⟨T1059, X1059, e1059, st1059⟩ := getS2 X1057 hx hZ hown (host := "") (Or.inl (oH hw 20 rfl)) Via.refl e1057 (Sg.ext Ol.2) (g := (mkF m 27 #[sR a1, sR src, sI 0, sI 2, .val .null, sU] [])) rfl (hb hby dj42_149_27)
  have P1060 : Rg p e below (T1059.setTop (mkF m 30 #[sR a1, sR src, sI 0, sI 2, .val .null, sU] [(.int G1)])) B0 := fun t k => P1058 t (by
    refine XS.iloadN X1057.here hx rfl (hb hby dj42_149_4) rfl ?_
    refine XS.ifYes X1057.here hx rfl (pc0 := 5) (pc' := 27) rfl (hb hby dj42_149_5) rfl ((if0 _ _).trans (feq (show ¬ ((2 : Int32) = (0 : Int32)) from (by decide))).2) (by decide) (by decide) ?_
    exact st1059 _ k)
  obtain ⟨_, _, ⟨T1061, L1061, k1061, n1061⟩, -, X1061, ⟨Lc1061, hQ1061, l1061, y1061, z1061⟩, st1061⟩ := Jvm.LawKit.callS X1059 hx (y := y_42) hown (mvT hZ (oH hw 21 rfl)) (mvT hZ (oH hw 22 rfl)) (mvT hZ (oH hw 23 rfl)) (mvT hZ (oH hw 24 rfl)) (by decide) (backOf (W := 0) (rm_cmb1 l Z a0 hw [] src ks p1 p2 G1 G2 h0 n0 Z0 AS o3 hp1 hp2 Sg P5 Sf hG2 Sa Sh Sl Ol) hZ (oH hw 24 rfl) (oH hw 23 rfl) (by decide) (by decide)) (g := (mkF m 36 #[sR a1, sR src, sI 0, sI 2, .val .null, sU] [(vI 2), (vI 0), (.ref src)])) rfl (by rw [hml]; rfl) (argsL := [(.ref src), (vI 0), (vI 2)]) (rest := []) (lenOf pd28 rfl) rfl (oW rfl) (hb hby dj42_149_36) (fun _ _ => ⟨rfl, e1059, (oB rfl : 0 + 2 ≤ _), (oB rfl : 0 + 6 ≤ _)⟩)
  dsimp only [Pt.U, Pt.locs, Pt.cells, Pt.slots] at X1061 l1061 y1061 z1061 st1061 hQ1061
  subst l1061 y1061 z1061
  obtain ⟨t1061, k1061, rfl, Nq1061, K1061, A1061, s1061⟩ := hQ1061
  have N1062 := Fr.app N0 Nq1061
  have P1063 : Rg p e below (T1061.setTop (mkF m 39 #[sR a1, sR src, sI 0, sI 2, .val .null, sU] [(.ref t1061)])) B0 := fun t k => P1060 t (by
    refine XS.ifNo X1059.here hx rfl (hb hby dj42_149_30) rfl ((if0 _ _).trans (feq (show ¬ (G1 = (0 : Int32)) from P5)).1) ?_
    refine XS.aloadN X1059.here hx rfl (hb hby dj42_149_33) rfl rfl ?_
    refine XS.iloadN X1059.here hx rfl (hb hby dj42_149_34) rfl ?_
    refine XS.iloadN X1059.here hx rfl (hb hby dj42_149_35) rfl ?_
    exact st1061 _ k)
  have Z1064 : n0 ≤ T1061.heap.size := Nat.le_trans Z0 K1061.1
  have K1065 : Keep h0 T1061.heap [a1] := (Keep.refl h0 [a1]).trans K1061 (all0)
  have O1066 : Old Z n0 T1061.heap := Ol.keep K1061 all0
  have g_t1061 : n0 ≤ t1061 := Nat.le_trans Z0 s1061
  have sz_t1061 : h0.size ≤ t1061 := Nat.le_trans (Keep.refl h0 [a1]).1 s1061
  obtain ⟨_, _, ⟨T1067, L1067, k1067, n1067⟩, -, X1067, ⟨Lc1067, hQ1067, l1067, y1067, z1067⟩, st1067⟩ := Jvm.LawKit.callS X1061 hx (y := y_43) hown (mvT hZ (oH hw 29 rfl)) (mvT hZ (oH hw 30 rfl)) (mvT hZ (oH hw 23 rfl)) (mvT hZ (oH hw 31 rfl)) (by decide) (backOf (W := 1) (rm_cfl1 l Z a0 hw [] t1061 k1061 ((own_by true [p1, p2]).map Value.int) T1061.heap n0 Z1064 A1061) hZ (oH hw 31 rfl) (oH hw 23 rfl) (by decide) (by decide)) (g := (mkF m 45 #[sR a1, sR src, sI 0, sI 2, .val .null, sR t1061] [(vI 2), (.ref t1061), (.ref a1)])) rfl (by rw [hml]; rfl) (argsL := [(.ref t1061), (vI 2)]) (rest := [(.ref a1)]) (lenOf pd29 rfl) rfl (oW rfl) (hb hby dj42_149_45) (fun _ _ => ⟨rfl, rfl, (oB rfl : 2 + 0 ≤ _), (oB rfl : 6 + 0 ≤ _)⟩)
  dsimp only [Pt.U, Pt.locs, Pt.cells, Pt.slots] at X1067 l1067 y1067 z1067 st1067 hQ1067
  subst l1067 y1067 z1067
  obtain ⟨rfl, Nq1067, e1067⟩ := hQ1067
  have N1068 := Fr.app N1062 Nq1067
  have P1069 : Rg p e below (T1067.setTop (mkF m 48 #[sR a1, sR src, sI 0, sI 2, .val .null, sR t1061] [(vI 1), (.ref a1)])) B0 := fun t k => P1063 t (by
    refine XS.astore X1061.here hx rfl (hb hby dj42_149_39) rfl rfl (l' := #[sR a1, sR src, sI 0, sI 2, .val .null, sR t1061]) rfl ?_
    refine XS.aloadN X1061.here hx rfl (hb hby dj42_149_41) rfl rfl ?_
    refine XS.aload X1061.here hx rfl (hb hby dj42_149_42) rfl rfl ?_
    refine XS.iloadN X1061.here hx rfl (hb hby dj42_149_44) rfl ?_
    exact st1067 _ k)
  have f1070 := (Fk.keep K1061 nin0)
  have f1071 := (E_a1.keep K1061)
  obtain ⟨T1072, h1072, X1072, e1072, W1072, st1072⟩ := putFN X1067 hx hZ hown (oH hw 32 rfl) Via.refl e1067 f1070 f1071 (Or.inr ⟨(oH hw 33 rfl), rfl, hnm⟩) (oH hw 7 rfl) (ty := .byte) (v' := .int (1 : Int32)) (by decide) rfl rfl (g := (mkF m 48 #[sR a1, sR src, sI 0, sI 2, .val .null, sR t1061] [(vI 1), (.ref a1)])) rfl rfl (hb hby dj42_149_48)
  have P1073 : Rg p e below (T1072.setTop (mkF m 51 #[sR a1, sR src, sI 0, sI 2, .val .null, sR t1061] [])) B0 := fun t k => P1069 t (by
    exact st1072 _ k)
  have f1074 := f1070.same W1072
  have N1075 := Fr.snoc X1072 N1068 g_a1
  have Z1076 : n0 ≤ h1072.size := Nat.le_trans Z1064 (Keep.of_wr W1072).1
  have K1077 : Keep h0 h1072 [a1] := K1065.wr W1072 (Or.inl (List.mem_of_getElem? (i := 0) rfl))
  have O1078 : Old Z n0 h1072 := O1066.wr W1072 g_a1
  have f1079 := ((Fv.keep K1061 nin0).other W1072 (Or.inr (slot_ne (Or.inr (oH hw 35 rfl)) (Or.inr (oH hw 33 rfl)) (by decide) (t := (.array .byte)) (t' := .byte) (by decide) (by decide))))
  have f1080 := (f1071.wr W1072)
  obtain ⟨T1081, h1081, X1081, e1081, W1081, st1081⟩ := putF X1072 hx hZ hown (host := "") (Or.inl (oH hw 34 rfl)) Via.refl e1072 f1079 f1080 (Or.inr ⟨(oH hw 35 rfl), rfl, hnm⟩) (oH hw 7 rfl) (ty := (.array .byte)) (by decide) rfl rfl (g := (mkF m 54 #[sR a1, sR src, sI 0, sI 2, .val .null, sR t1061] [(.ref t1061), (.ref a1)])) rfl rfl (hb hby dj42_149_54)
  have P1082 : Rg p e below (T1081.setTop (mkF m 57 #[sR a1, sR src, sI 0, sI 2, .val .null, sR t1061] [])) B0 := fun t k => P1073 t (by
    refine XS.aloadN X1072.here hx rfl (hb hby dj42_149_51) rfl rfl ?_
    refine XS.aload X1072.here hx rfl (hb hby dj42_149_52) rfl rfl ?_
    exact st1081 _ k)
  have f1083 := f1079.same W1081
  have N1084 := Fr.snoc X1081 N1075 g_a1
  have Z1085 : n0 ≤ h1081.size := Nat.le_trans Z1076 (Keep.of_wr W1081).1
  have K1086 : Keep h0 h1081 [a1] := K1077.wr W1081 (Or.inl (List.mem_of_getElem? (i := 0) rfl))
  have O1087 : Old Z n0 h1081 := O1078.wr W1081 g_a1
  have f1088 := (f1080.wr W1081)
  have f1089 := (f1074.other W1081 (Or.inr (slot_ne (Or.inr (oH hw 33 rfl)) (Or.inr (oH hw 35 rfl)) (by decide) (t := .byte) (t' := (.array .byte)) (by decide) (by decide))))
  have f1090 := ((A1061.other W1072 (Ne.symm (Nat.ne_of_lt (Nat.lt_of_lt_of_le Fk.lt s1061)))).other W1081 (Ne.symm (Nat.ne_of_lt (Nat.lt_of_lt_of_le Fk.lt s1061))))
  obtain ⟨fs1091, hr1091, hrun1091, hended1091, hW1091, hsame1091⟩ := X1081.leave (v := none) (fun _ => rfl)
  refine ⟨_, _, pre0 _ (P1082 _ ?_), hrun1091, hended1091, _, _, rfl, ?_, ⟨⟨_, rfl⟩, hW1091, hsame1091.mono (oB rfl) (oB rfl)⟩⟩
  · exact X1081.returnOut hx Bd.returns (hb hby dj42_149_57) hr1091
  · show Q_in41 Z a1 p1 p2 h0 n0 _ T1081.heap _
    rw [e1081]
    exact ⟨rfl, N1084, K1086, f1088, f1089, t1061, _, _, f1083, f1090, rfl⟩
theorem ef_in11 (m : MethodId) (x0 : Addr) (x1 : Addr) : entryFrame m #[(.ref x0), (.ref x1)] 2 = mkF m 0 #[sR x0, sR x1] [] := by (first | (simp [entryFrame, mkF, argsToLocals, Value.category]; done) | rfl)
def Q_in11 (Z : State) (a1 : Addr) (p1 p2 : Int32) (h0 : Heap) (n0 : Nat) (v : Option Value) (h : Heap) (L : List Loc) : Prop := v = none ∧ Fr n0 L ∧ Keep h0 h [a1] ∧ Exa Z h a1 nS ∧ Fld Z h a1 nS "coder" "B" (vI 1) ∧ ∃ (t : Addr) (k : ClassId) (N : Int32), Fld Z h a1 nS "value" "[B" (.ref t) ∧ Arv Z h t k .byte N ((own_by true [p1, p2]).map Value.int) (vI 0) ∧ N = Int32.ofNat (own_by true [p1, p2]).length
theorem rm_in11 (l : Launch) (Z : State) (a0 : Array Value) (hw : Tb a0 Z) (ws : List Jvm.Cond) (a1 src : Addr) (ks : ClassId) (p1 p2 : Int32) (G1 : Int32) (G2 : Value) (h0 : Heap) (n0 : Nat) (Z0 : n0 ≤ h0.size) (g_a1 : n0 ≤ a1) (E_a1 : Exa Z h0 a1 nS) (Fv : Fld Z h0 a1 nS "value" "[B" .null) (Fk : Fld Z h0 a1 nS "coder" "B" (vI 0)) (AS : Arv Z h0 src ks .char (2 : Int32) [(.int p1), (.int p2)] (vI 0)) (o3 : ¬ (255 : Int32) < p1 → (255 : Int32) < p2) (hp1 : ¬ p1 < 0 ∧ ¬ (65535 : Int32) < p1) (hp2 : ¬ p2 < 0 ∧ ¬ (65535 : Int32) < p2) (Sg : oSg Z G1) (P5 : ¬ (G1 = (0 : Int32))) (Sf : oSf Z G2) (hG2 : G2.isRef = true) (Sa : oSa Z) (Sh : oSh Z) (Sl : oSl Z) (Ol : Old Z n0 h0) :
    MF l Z h0 y_45 j42_3 2 none ws (rM 5 2 6 74) #[(.ref a1), (.ref src)] (Q_in11 Z a1 p1 p2 h0 n0) := by
  refine MetFree.of_bodySF (plainFor_of_name pn_java_lang_String) hisR ?_
  intro p e s m args below meth c s₁ Bd hml hP hK
  obtain ⟨rfl, hZ, hh⟩ := hP
  have hx := Bd.exec
  have hby := Bd.bytes
  have hown : s.vm.findClass "java/lang/String" = some m.cls := findClass_of_methodNamed Bd.named
  have X0 : Stand p l e (rM 5 2 6 74) s m #[(.ref a1), (.ref src)] below meth c s₁ [] 0 0 := Stand.of_body Bd
  have e0 : s₁.heap = h0 := by rw [← hh, Bd.state]; rfl
  have N0 := Fr.nil n0
  obtain ⟨B0, pre0, P0⟩ : ∃ B, Rg p e below B (s₁.setTop (entryFrame m #[(.ref a1), (.ref src)] 2)) ∧ Rg p e below (s₁.setTop (mkF m 0 #[sR a1, sR src] [])) B := ⟨_, fun t k => castTop (ef_in11 m a1 src) k, fun t k => k⟩
  obtain ⟨cl1092, Ar1092, -, S1092, N1092, -, -⟩ := id AS
  obtain ⟨_, _, ⟨T1093, L1093, k1093, n1093⟩, -, X1093, ⟨Lc1093, hQ1093, l1093, y1093, z1093⟩, st1093⟩ := X0.specialBack hx (y := y_44) rfl hown (mvT hZ (oH hw 13 rfl)) (mvT hZ (oH hw 14 rfl)) (mvT hZ (oH hw 16 rfl)) (by decide) (backOf (W := 0) (rm_in41 l Z a0 hw [] a1 src ks p1 p2 G1 G2 h0 n0 Z0 g_a1 E_a1 Fv Fk AS o3 hp1 hp2 Sg P5 Sf hG2 Sa Sh Sl Ol) hZ (oH hw 16 rfl) (oH hw 8 rfl) (by decide) (by decide)) (g := (mkF m 6 #[sR a1, sR src] [.null, (vI 2), (vI 0), (.ref src), (.ref a1)])) rfl (by rw [hml]; rfl) (Steps.refl _) (a := a1) (argsL := [(.ref src), (vI 0), (vI 2), .null]) (rest := []) (lenOf pd30 rfl) rfl (oW rfl) (hb hby dj42_3_6) (fun _ _ => ⟨rfl, e0, (oB rfl : 0 + 2 ≤ _), (oB rfl : 0 + 6 ≤ _)⟩)
  dsimp only [Pt.U, Pt.locs, Pt.cells, Pt.slots] at X1093 l1093 y1093 z1093 st1093 hQ1093
  subst l1093 y1093 z1093
  obtain ⟨rfl, Nq1093, K1093, Es1093, Fc1093, t1093, k1093, N1093_, Fv1093, A1093, hN1093⟩ := hQ1093
  have N1094 := Fr.app N0 Nq1093
  have P1095 : Rg p e below (T1093.setTop (mkF m 9 #[sR a1, sR src] [])) B0 := fun t k => P0 t (by
    refine XS.aloadN X0.here hx rfl (hb hby dj42_3_0) rfl rfl ?_
    refine XS.aloadN X0.here hx rfl (hb hby dj42_3_1) rfl rfl ?_
    refine XS.iconst X0.here hx rfl (hb hby dj42_3_2) ?_
    refine XS.aloadN X0.here hx rfl (hb hby dj42_3_3) rfl rfl ?_
    show Sq p e below (s₁.setTop (mkF m 4 #[sR a1, sR src] [(.ref src), (vI 0), (.ref src), (.ref a1)])) _
    refine X0.arraylength hx (by rw [e0]; exact Ar1092.1) (State.isArrayOf_alike hZ.alike Ar1092.2.1) (g := (mkF m 4 #[sR a1, sR src] [(.ref src), (vI 0), (.ref src), (.ref a1)])) rfl rfl (hb hby dj42_3_4) _ ?_
    rw [len_of S1092 N1092]
    show Sq p e below (s₁.setTop (mkF m 5 #[sR a1, sR src] [(vI 2), (vI 0), (.ref src), (.ref a1)])) _
    refine XS.aconstNull X0.here hx rfl (hb hby dj42_3_5) ?_
    exact st1093.trans k)
  have Z1096 : n0 ≤ T1093.heap.size := Nat.le_trans Z0 K1093.1
  have K1097 : Keep h0 T1093.heap [a1] := (Keep.refl h0 [a1]).trans K1093 ((allS (Or.inl (List.mem_of_getElem? (i := 0) rfl)) all0))
  have O1098 : Old Z n0 T1093.heap := Ol.keep K1093 (allS g_a1 all0)
  obtain ⟨fs1099, hr1099, hrun1099, hended1099, hW1099, hsame1099⟩ := X1093.leave (v := none) (fun _ => rfl)
  refine ⟨_, _, pre0 _ (P1095 _ ?_), hrun1099, hended1099, _, _, rfl, ?_, ⟨⟨_, rfl⟩, hW1099, hsame1099.mono (oB rfl) (oB rfl)⟩⟩
  · exact X1093.returnOut hx Bd.returns (hb hby dj42_3_9) hr1099
  · show Q_in11 Z a1 p1 p2 h0 n0 _ T1093.heap _
    exact ⟨rfl, N1094, K1097, Es1093, Fc1093, t1093, k1093, N1093_, Fv1093, A1093, hN1093⟩
theorem dj43_3_0 : decode j43_3 0 = .ok (.iload_n 0, 1) := by decide +kernel
theorem dj43_3_1 : decode j43_3 1 = .ok (.sipush 255, 3) := by decide +kernel
theorem dj43_3_4 : decode j43_3 4 = .ok (.if_icmp .gt 7, 3) := by decide +kernel
theorem dj43_3_7 : decode j43_3 7 = .ok (.iconst 1, 1) := by decide +kernel
theorem dj43_3_8 : decode j43_3 8 = .ok (.goto 4, 3) := by decide +kernel
theorem dj43_3_12 : decode j43_3 12 = .ok (.ireturn, 1) := by decide +kernel
theorem ef_cen0 (m : MethodId) (x0 : Int32) : entryFrame m #[(.int x0)] 1 = mkF m 0 #[sI x0] [] := by (first | (simp [entryFrame, mkF, argsToLocals, Value.category]; done) | rfl)
def Q_cen0  (h0 : Heap) (n0 : Nat) (v : Option Value) (h : Heap) (L : List Loc) : Prop := v = some (vI 1) ∧ Fr n0 L ∧ h = h0
theorem rm_cen0 (l : Launch) (Z : State) (a0 : Array Value) (hw : Tb a0 Z) (ws : List Jvm.Cond) (p1 : Int32) (h0 : Heap) (n0 : Nat) (Z0 : n0 ≤ h0.size) (o1 : ¬ (255 : Int32) < p1) :
    MF l Z h0 y_46 j43_3 1 (some .boolean) ws (rM 0 0 0 0) #[(.int p1)] (Q_cen0  h0 n0) := by
  refine MetFree.of_bodySF (plainFor_of_name pn_java_lang_StringLatin1) hisR ?_
  intro p e s m args below meth c s₁ Bd hml hP hK
  obtain ⟨rfl, hZ, hh⟩ := hP
  have hx := Bd.exec
  have hby := Bd.bytes
  have hown : s.vm.findClass "java/lang/StringLatin1" = some m.cls := findClass_of_methodNamed Bd.named
  have X0 : Stand p l e (rM 0 0 0 0) s m #[(.int p1)] below meth c s₁ [] 0 0 := Stand.of_body Bd
  have e0 : s₁.heap = h0 := by rw [← hh, Bd.state]; rfl
  have N0 := Fr.nil n0
  obtain ⟨B0, pre0, P0⟩ : ∃ B, Rg p e below B (s₁.setTop (entryFrame m #[(.int p1)] 1)) ∧ Rg p e below (s₁.setTop (mkF m 0 #[sI p1] [])) B := ⟨_, fun t k => castTop (ef_cen0 m p1) k, fun t k => k⟩
  obtain ⟨fs1100, hr1100, hrun1100, hended1100, hW1100, hsame1100⟩ := X0.leave (v := some (vI 1)) (fun h => by rw [Bd.returns] at h; cases h)
  refine ⟨_, _, pre0 _ (P0 _ ?_), hrun1100, hended1100, _, _, rfl, ?_, ⟨⟨_, rfl⟩, hW1100, hsame1100.mono (oB rfl) (oB rfl)⟩⟩
  · refine XS.iloadN X0.here hx rfl (hb hby dj43_3_0) rfl ?_
    show Sq p e below (s₁.setTop (mkF m 1 #[sI p1] [(.int p1)])) _
    refine XS.sipush X0.here hx rfl (hb hby dj43_3_1) ?_
    refine XS.icmpNo X0.here hx rfl (hb hby dj43_3_4) rfl (flt (show ¬ ((255 : Int32) < p1) from o1)).2.2.1 ?_
    refine XS.iconst X0.here hx rfl (hb hby dj43_3_7) ?_
    refine XS.goto X0.here hx rfl (pc0 := 8) (pc' := 12) rfl (hb hby dj43_3_8) (by decide) (by decide) ?_
    exact retN X0 hx (t := .boolean) Bd.returns (by simp) (hb hby dj43_3_12) hr1100
  · show Q_cen0  h0 n0 _ s₁.heap _
    rw [e0]
    exact ⟨rfl, N0, rfl⟩
theorem dj43_46_0 : decode j43_46 0 = .ok (.iconst 1, 1) := by decide +kernel
theorem dj43_46_1 : decode j43_46 1 = .ok (.newarray .byte, 2) := by decide +kernel
theorem dj43_46_3 : decode j43_46 3 = .ok (.dup, 1) := by decide +kernel
theorem dj43_46_4 : decode j43_46 4 = .ok (.iconst 0, 1) := by decide +kernel
theorem dj43_46_5 : decode j43_46 5 = .ok (.iload_n 0, 1) := by decide +kernel
theorem dj43_46_6 : decode j43_46 6 = .ok (.i2b, 1) := by decide +kernel
theorem dj43_46_7 : decode j43_46 7 = .ok (.bastore, 1) := by decide +kernel
theorem dj43_46_8 : decode j43_46 8 = .ok (.areturn, 1) := by decide +kernel
theorem ef_tb10 (m : MethodId) (x0 : Int32) : entryFrame m #[(.int x0)] 1 = mkF m 0 #[sI x0] [] := by (first | (simp [entryFrame, mkF, argsToLocals, Value.category]; done) | rfl)
def Q_tb10 (Z : State) (p1 : Int32) (h0 : Heap) (n0 : Nat) (v : Option Value) (h : Heap) (L : List Loc) : Prop := ∃ (t : Addr) (k : ClassId), v = some (.ref t) ∧ Fr n0 L ∧ Keep h0 h [] ∧ Arv Z h t k .byte (1 : Int32) ((own_by false [p1]).map Value.int) (vI 0) ∧ h0.size ≤ t
theorem rm_tb10 (l : Launch) (Z : State) (a0 : Array Value) (hw : Tb a0 Z) (ws : List Jvm.Cond) (p1 : Int32) (G1 : Int32) (G2 : Value) (h0 : Heap) (n0 : Nat) (Z0 : n0 ≤ h0.size) (Sg : oSg Z G1) (P5 : ¬ (G1 = (0 : Int32))) (Sf : oSf Z G2) (hG2 : G2.isRef = true) (Sa : oSa Z) (Sh : oSh Z) (Sl : oSl Z) (Ol : Old Z n0 h0) :
    MF l Z h0 y_47 j43_46 1 (some (.array .byte)) ws (rM 0 1 1 0) #[(.int p1)] (Q_tb10 Z p1 h0 n0) := by
  refine MetFree.of_bodySF (plainFor_of_name pn_java_lang_StringLatin1) hisR ?_
  intro p e s m args below meth c s₁ Bd hml hP hK
  obtain ⟨rfl, hZ, hh⟩ := hP
  have hx := Bd.exec
  have hby := Bd.bytes
  have hown : s.vm.findClass "java/lang/StringLatin1" = some m.cls := findClass_of_methodNamed Bd.named
  have X0 : Stand p l e (rM 0 1 1 0) s m #[(.int p1)] below meth c s₁ [] 0 0 := Stand.of_body Bd
  have e0 : s₁.heap = h0 := by rw [← hh, Bd.state]; rfl
  have N0 := Fr.nil n0
  obtain ⟨B0, pre0, P0⟩ : ∃ B, Rg p e below B (s₁.setTop (entryFrame m #[(.int p1)] 1)) ∧ Rg p e below (s₁.setTop (mkF m 0 #[sI p1] [])) B := ⟨_, fun t k => castTop (ef_tb10 m p1) k, fun t k => k⟩
  obtain ⟨T1101, h1101, k1101, X1101, e1101, E1101, A1101, st1101⟩ := newP X0 hx hZ (oH hw 25 rfl) e0 (g := (mkF m 1 #[sI p1] [(vI 1)])) rfl (hb hby dj43_46_1) rfl (by decide) (cap := 1) (by decide) (by decide) (by decide) (by decide)
  obtain ⟨b1101, g1101⟩ : ∃ z, z = h0.size := ⟨_, rfl⟩
  rw [← g1101] at A1101 st1101
  have g_b1101 : n0 ≤ b1101 := Nat.le_trans Z0 (Nat.le_of_eq g1101.symm)
  have sz_b1101 : h0.size ≤ b1101 := Nat.le_trans (Keep.refl h0 []).1 (Nat.le_of_eq g1101.symm)
  have P1102 : Rg p e below (T1101.setTop (mkF m 3 #[sI p1] [(.ref b1101)])) B0 := fun t k => P0 t (by
    refine XS.iconst X0.here hx rfl (hb hby dj43_46_0) ?_
    exact st1101 _ k)
  have Z1103 : n0 ≤ h1101.size := Nat.le_trans Z0 E1101.1
  have K1104 : Keep h0 h1101 [] := (Keep.refl h0 []).ext E1101
  have O1105 : Old Z n0 h1101 := Ol.ext E1101
  have v1106 : Arv Z h1101 b1101 k1101 .byte (1 : Int32) [(vI 0)] (vI 0) := (Arv.new A1101 (by decide)).pad (pad_rep [] (vI 0) 1)
  obtain ⟨cl1107, Ar1107, q1107, S1107, N1107, H1107, G1107⟩ := id v1106
  obtain ⟨T1107, h1107, X1107, e1107, W1107, st1107⟩ := stB X1101 hx hZ e1101 Ar1107 (j := (0 : Int32)) (inb_of S1107 ⟨by decide, by decide⟩) (g := (mkF m 7 #[sI p1] [(.int (p1.toInt8.toInt32)), (vI 0), (.ref b1101), (.ref b1101)])) rfl rfl (hb hby dj43_46_7)
  have v1108 : Arv Z h1107 b1101 k1101 .byte (1 : Int32) [(.int (p1.toInt8.toInt32).toInt8.toInt32)] (vI 0) := Arv.set Ar1107 q1107 S1107 N1107 H1107 G1107 (fits_nar_byte _) W1107 0 rfl (oB rfl)
  have P1109 : Rg p e below (T1107.setTop (mkF m 8 #[sI p1] [(.ref b1101)])) B0 := fun t k => P1102 t (by
    refine XS.dup X1101.here hx rfl (hb hby dj43_46_3) rfl rfl ?_
    refine XS.iconst X1101.here hx rfl (hb hby dj43_46_4) ?_
    refine XS.iloadN X1101.here hx rfl (hb hby dj43_46_5) rfl ?_
    refine XS.i2b X1101.here hx rfl (hb hby dj43_46_6) rfl ?_
    exact st1107 _ k)
  have N1110 := Fr.snoc X1107 N0 g_b1101
  have Z1111 : n0 ≤ h1107.size := Nat.le_trans Z1103 (Keep.of_wr W1107).1
  have K1112 : Keep h0 h1107 [] := K1104.wr W1107 (Or.inr sz_b1101)
  have O1113 : Old Z n0 h1107 := O1105.wr W1107 g_b1101
  obtain ⟨fs1114, hr1114, hrun1114, hended1114, hW1114, hsame1114⟩ := X1107.leave (v := some (.ref b1101)) (fun h => by rw [Bd.returns] at h; cases h)
  refine ⟨_, _, pre0 _ (P1109 _ ?_), hrun1114, hended1114, _, _, rfl, ?_, ⟨⟨_, rfl⟩, hW1114, hsame1114.mono (oB rfl) (oB rfl)⟩⟩
  · exact retOut X1107 hx Bd.returns rfl (Or.inr (Or.inr (Or.inr (Or.inr ⟨rfl, rfl, rfl⟩)))) (hb hby dj43_46_8) hr1114
  · show Q_tb10 Z p1 h0 n0 _ T1107.heap _
    rw [e1107]
    exact ⟨b1101, _, rfl, N1110, K1112, by have q9 := v1108; rw [own_i8] at q9; exact q9, sz_b1101⟩
theorem dj42_151_0 : decode j42_151 0 = .ok (.aload_n 0, 1) := by decide +kernel
theorem dj42_151_1 : decode j42_151 1 = .ok (.invokespecial 1, 3) := by decide +kernel
theorem dj42_151_4 : decode j42_151 4 = .ok (.aload_n 0, 1) := by decide +kernel
theorem dj42_151_5 : decode j42_151 5 = .ok (.aload_n 1, 1) := by decide +kernel
theorem dj42_151_6 : decode j42_151 6 = .ok (.putfield 9, 3) := by decide +kernel
theorem dj42_151_9 : decode j42_151 9 = .ok (.aload_n 0, 1) := by decide +kernel
theorem dj42_151_10 : decode j42_151 10 = .ok (.iload_n 2, 1) := by decide +kernel
theorem dj42_151_11 : decode j42_151 11 = .ok (.putfield 15, 3) := by decide +kernel
theorem dj42_151_14 : decode j42_151 14 = .ok (.return_, 1) := by decide +kernel
theorem ef_sbb0 (m : MethodId) (x0 : Addr) (x1 : Addr) (x2 : Int32) : entryFrame m #[(.ref x0), (.ref x1), (.int x2)] 3 = mkF m 0 #[sR x0, sR x1, sI x2] [] := by (first | (simp [entryFrame, mkF, argsToLocals, Value.category]; done) | rfl)
def Q_sbb0 (Z : State) (a1 t1 : Addr) (h0 : Heap) (n0 : Nat) (v : Option Value) (h : Heap) (L : List Loc) : Prop := v = none ∧ Fr n0 L ∧ Keep h0 h [a1] ∧ Exa Z h a1 nS ∧ Fld Z h a1 nS "value" "[B" (.ref t1) ∧ Fld Z h a1 nS "coder" "B" (vI 0)
theorem rm_sbb0 (l : Launch) (Z : State) (a0 : Array Value) (hw : Tb a0 Z) (ws : List Jvm.Cond) (a1 t1 : Addr) (h0 : Heap) (n0 : Nat) (Z0 : n0 ≤ h0.size) (g_a1 : n0 ≤ a1) (E_a1 : Exa Z h0 a1 nS) (Fv : Fld Z h0 a1 nS "value" "[B" .null) (Fk : Fld Z h0 a1 nS "coder" "B" (vI 0))  :
    MF l Z h0 y_48 j42_151 3 none ws (rM 1 0 0 12) #[(.ref a1), (.ref t1), (vI 0)] (Q_sbb0 Z a1 t1 h0 n0) := by
  refine MetFree.of_bodySF (plainFor_of_name pn_java_lang_String) hisR ?_
  intro p e s m args below meth c s₁ Bd hml hP hK
  obtain ⟨rfl, hZ, hh⟩ := hP
  have hx := Bd.exec
  have hby := Bd.bytes
  have hown : s.vm.findClass "java/lang/String" = some m.cls := findClass_of_methodNamed Bd.named
  have hnm := (name_of_methodNamed Bd.named Bd.method).1
  have X0 : Stand p l e (rM 1 0 0 12) s m #[(.ref a1), (.ref t1), (vI 0)] below meth c s₁ [] 0 0 := Stand.of_body Bd
  have e0 : s₁.heap = h0 := by rw [← hh, Bd.state]; rfl
  have N0 := Fr.nil n0
  obtain ⟨B0, pre0, P0⟩ : ∃ B, Rg p e below B (s₁.setTop (entryFrame m #[(.ref a1), (.ref t1), (vI 0)] 3)) ∧ Rg p e below (s₁.setTop (mkF m 0 #[sR a1, sR t1, sI 0] [])) B := ⟨_, fun t k => castTop (ef_sbb0 m a1 t1 (0 : Int32)) k, fun t k => k⟩
  obtain ⟨T1115, X1115, e1115, st1115⟩ := initO X0 hx hZ hown (oH hw 17 rfl) (oH hw 18 rfl) (oH hw 19 rfl) e0 (g := (mkF m 1 #[sR a1, sR t1, sI 0] [(.ref a1)])) rfl (by rw [hml]; rfl) rfl (hb hby dj42_151_1) (by decide) (W := 0) (oW rfl) (by decide)
  have P1116 : Rg p e below (T1115.setTop (mkF m 4 #[sR a1, sR t1, sI 0] [])) B0 := fun t k => P0 t (by
    refine XS.aloadN X0.here hx rfl (hb hby dj42_151_0) rfl rfl ?_
    exact st1115 _ k)
  obtain ⟨T1117, h1117, X1117, e1117, W1117, st1117⟩ := putF X1115 hx hZ hown (host := "") (Or.inl (oH hw 34 rfl)) Via.refl e1115 Fv E_a1 (Or.inr ⟨(oH hw 35 rfl), rfl, hnm⟩) (oH hw 7 rfl) (ty := (.array .byte)) (by decide) rfl rfl (g := (mkF m 6 #[sR a1, sR t1, sI 0] [(.ref t1), (.ref a1)])) rfl rfl (hb hby dj42_151_6)
  have P1118 : Rg p e below (T1117.setTop (mkF m 9 #[sR a1, sR t1, sI 0] [])) B0 := fun t k => P1116 t (by
    refine XS.aloadN X1115.here hx rfl (hb hby dj42_151_4) rfl rfl ?_
    refine XS.aloadN X1115.here hx rfl (hb hby dj42_151_5) rfl rfl ?_
    exact st1117 _ k)
  have f1119 := Fv.same W1117
  have N1120 := Fr.snoc X1117 N0 g_a1
  have Z1121 : n0 ≤ h1117.size := Nat.le_trans Z0 (Keep.of_wr W1117).1
  have K1122 : Keep h0 h1117 [a1] := (Keep.refl h0 [a1]).wr W1117 (Or.inl (List.mem_of_getElem? (i := 0) rfl))
  have f1123 := (Fk.other W1117 (Or.inr (slot_ne (Or.inr (oH hw 33 rfl)) (Or.inr (oH hw 35 rfl)) (by decide) (t := .byte) (t' := (.array .byte)) (by decide) (by decide))))
  have f1124 := (E_a1.wr W1117)
  obtain ⟨T1125, h1125, X1125, e1125, W1125, st1125⟩ := putFN X1117 hx hZ hown (oH hw 32 rfl) Via.refl e1117 f1123 f1124 (Or.inr ⟨(oH hw 33 rfl), rfl, hnm⟩) (oH hw 7 rfl) (ty := .byte) (v' := .int (0 : Int32)) (by decide) rfl rfl (g := (mkF m 11 #[sR a1, sR t1, sI 0] [(vI 0), (.ref a1)])) rfl rfl (hb hby dj42_151_11)
  have P1126 : Rg p e below (T1125.setTop (mkF m 14 #[sR a1, sR t1, sI 0] [])) B0 := fun t k => P1118 t (by
    refine XS.aloadN X1117.here hx rfl (hb hby dj42_151_9) rfl rfl ?_
    refine XS.iloadN X1117.here hx rfl (hb hby dj42_151_10) rfl ?_
    exact st1125 _ k)
  have f1127 := f1123.same W1125
  have N1128 := Fr.snoc X1125 N1120 g_a1
  have Z1129 : n0 ≤ h1125.size := Nat.le_trans Z1121 (Keep.of_wr W1125).1
  have K1130 : Keep h0 h1125 [a1] := K1122.wr W1125 (Or.inl (List.mem_of_getElem? (i := 0) rfl))
  have f1131 := (f1124.wr W1125)
  have f1132 := (f1119.other W1125 (Or.inr (slot_ne (Or.inr (oH hw 35 rfl)) (Or.inr (oH hw 33 rfl)) (by decide) (t := (.array .byte)) (t' := .byte) (by decide) (by decide))))
  obtain ⟨fs1133, hr1133, hrun1133, hended1133, hW1133, hsame1133⟩ := X1125.leave (v := none) (fun _ => rfl)
  refine ⟨_, _, pre0 _ (P1126 _ ?_), hrun1133, hended1133, _, _, rfl, ?_, ⟨⟨_, rfl⟩, hW1133, hsame1133.mono (oB rfl) (oB rfl)⟩⟩
  · exact X1125.returnOut hx Bd.returns (hb hby dj42_151_14) hr1133
  · show Q_sbb0 Z a1 t1 h0 n0 _ T1125.heap _
    rw [e1125]
    exact ⟨rfl, N1128, K1130, f1131, f1132, f1127⟩
theorem dj42_139_0 : decode j42_139 0 = .ok (.getstatic 38, 3) := by decide +kernel
theorem dj42_139_3 : decode j42_139 3 = .ok (.ifCond .eq 23, 3) := by decide +kernel
theorem dj42_139_6 : decode j42_139 6 = .ok (.iload_n 0, 1) := by decide +kernel
theorem dj42_139_7 : decode j42_139 7 = .ok (.invokestatic 1015, 3) := by decide +kernel
theorem pd31 : parseMethodDescriptor "(C)Z" = some ⟨[.char], some .boolean⟩ := by decide +kernel
theorem dj42_139_10 : decode j42_139 10 = .ok (.ifCond .eq 16, 3) := by decide +kernel
theorem dj42_139_13 : decode j42_139 13 = .ok (.new 10, 3) := by decide +kernel
theorem dj42_139_16 : decode j42_139 16 = .ok (.dup, 1) := by decide +kernel
theorem dj42_139_17 : decode j42_139 17 = .ok (.iload_n 0, 1) := by decide +kernel
theorem dj42_139_18 : decode j42_139 18 = .ok (.invokestatic 1018, 3) := by decide +kernel
theorem pd32 : parseMethodDescriptor "(C)[B" = some ⟨[.char], some (.array .byte)⟩ := by decide +kernel
theorem dj42_139_21 : decode j42_139 21 = .ok (.iconst 0, 1) := by decide +kernel
theorem dj42_139_22 : decode j42_139 22 = .ok (.invokespecial 209, 3) := by decide +kernel
theorem pd33 : parseMethodDescriptor "([BB)V" = some ⟨[(.array .byte), .byte], none⟩ := by decide +kernel
theorem dj42_139_25 : decode j42_139 25 = .ok (.areturn, 1) := by decide +kernel
theorem ef_vof0 (m : MethodId) (x0 : Int32) : entryFrame m #[(.int x0)] 1 = mkF m 0 #[sI x0] [] := by (first | (simp [entryFrame, mkF, argsToLocals, Value.category]; done) | rfl)
def Q_vof0 (Z : State) (p1 : Int32) (h0 : Heap) (n0 : Nat) (v : Option Value) (h : Heap) (L : List Loc) : Prop := ∃ s : Addr, v = some (.ref s) ∧ Fr n0 L ∧ Keep h0 h [] ∧ Exa Z h s nS ∧ Fld Z h s nS "coder" "B" (vI 0) ∧ ∃ (t : Addr) (k : ClassId) (N : Int32), Fld Z h s nS "value" "[B" (.ref t) ∧ Arv Z h t k .byte N ((own_by false [p1]).map Value.int) (vI 0) ∧ N = Int32.ofNat (own_by false [p1]).length
theorem rm_vof0 (l : Launch) (Z : State) (a0 : Array Value) (hw : Tb a0 Z) (ws : List Jvm.Cond) (p1 : Int32) (G1 : Int32) (G2 : Value) (h0 : Heap) (n0 : Nat) (Z0 : n0 ≤ h0.size) (o1 : ¬ (255 : Int32) < p1) (Sg : oSg Z G1) (P5 : ¬ (G1 = (0 : Int32))) (Sf : oSf Z G2) (hG2 : G2.isRef = true) (Sa : oSa Z) (Sh : oSh Z) (Sl : oSl Z) (Ol : Old Z n0 h0) :
    MF l Z h0 y_49 j42_139 1 (some (.object "java/lang/String")) ws (rM 2 2 5 27) #[(.int p1)] (Q_vof0 Z p1 h0 n0) := by
  refine MetFree.of_bodySF (plainFor_of_name pn_java_lang_String) hisR ?_
  intro p e s m args below meth c s₁ Bd hml hP hK
  obtain ⟨rfl, hZ, hh⟩ := hP
  have hx := Bd.exec
  have hby := Bd.bytes
  have hown : s.vm.findClass "java/lang/String" = some m.cls := findClass_of_methodNamed Bd.named
  have X0 : Stand p l e (rM 2 2 5 27) s m #[(.int p1)] below meth c s₁ [] 0 0 := Stand.of_body Bd
  have e0 : s₁.heap = h0 := by rw [← hh, Bd.state]; rfl
  have N0 := Fr.nil n0
  obtain ⟨B0, pre0, P0⟩ : ∃ B, Rg p e below B (s₁.setTop (entryFrame m #[(.int p1)] 1)) ∧ Rg p e below (s₁.setTop (mkF m 0 #[sI p1] [])) B := ⟨_, fun t k => castTop (ef_vof0 m p1) k, fun t k => k⟩
  obtain ⟨T1134, X1134, e1134, st1134⟩ := getS2 X0 hx hZ hown (host := "") (Or.inl (oH hw 20 rfl)) Via.refl e0 (Sg.ext Ol.2) (g := (mkF m 0 #[sI p1] [])) rfl (hb hby dj42_139_0)
  have P1135 : Rg p e below (T1134.setTop (mkF m 3 #[sI p1] [(.int G1)])) B0 := fun t k => P0 t (by
    exact st1134 _ k)
  obtain ⟨_, _, ⟨T1136, L1136, k1136, n1136⟩, -, X1136, ⟨Lc1136, hQ1136, l1136, y1136, z1136⟩, st1136⟩ := Jvm.LawKit.callS X1134 hx (y := y_46) hown (mvT hZ (oH hw 203 rfl)) (mvT hZ (oH hw 204 rfl)) (mvT hZ (oH hw 187 rfl)) (mvT hZ (oH hw 205 rfl)) (by decide) (backOf (W := 0) (rm_cen0 l Z a0 hw [] p1 h0 n0 Z0 o1) hZ (oH hw 205 rfl) (oH hw 187 rfl) (by decide) (by decide)) (g := (mkF m 7 #[sI p1] [(.int p1)])) rfl (by rw [hml]; rfl) (argsL := [(.int p1)]) (rest := []) (lenOf pd31 rfl) rfl (oW rfl) (hb hby dj42_139_7) (fun _ _ => ⟨rfl, e1134, (oB rfl : 0 + 0 ≤ _), (oB rfl : 0 + 0 ≤ _)⟩)
  dsimp only [Pt.U, Pt.locs, Pt.cells, Pt.slots] at X1136 l1136 y1136 z1136 st1136 hQ1136
  subst l1136 y1136 z1136
  obtain ⟨rfl, Nq1136, e1136⟩ := hQ1136
  have N1137 := Fr.app N0 Nq1136
  have P1138 : Rg p e below (T1136.setTop (mkF m 10 #[sI p1] [(vI 1)])) B0 := fun t k => P1135 t (by
    refine XS.ifNo X1134.here hx rfl (hb hby dj42_139_3) rfl ((if0 _ _).trans (feq (show ¬ (G1 = (0 : Int32)) from P5)).1) ?_
    refine XS.iloadN X1134.here hx rfl (hb hby dj42_139_6) rfl ?_
    exact st1136 _ k)
  obtain ⟨T1139, h1139, X1139, e1139, E1139, A1139, D1139, -, st1139⟩ := newO X1136 hx hZ hown (oH hw 206 rfl) (oH hw 7 rfl) (oH hw 8 rfl) e1136 (g := (mkF m 13 #[sI p1] [])) rfl (hb hby dj42_139_13) (by decide) (by decide)
  obtain ⟨b1139, g1139⟩ : ∃ z, z = h0.size := ⟨_, rfl⟩
  rw [← g1139] at A1139 D1139 st1139
  have g_b1139 : n0 ≤ b1139 := Nat.le_trans Z0 (Nat.le_of_eq g1139.symm)
  have sz_b1139 : h0.size ≤ b1139 := Nat.le_trans (Keep.refl h0 []).1 (Nat.le_of_eq g1139.symm)
  have P1140 : Rg p e below (T1139.setTop (mkF m 16 #[sI p1] [(.ref b1139)])) B0 := fun t k => P1138 t (by
    refine XS.ifNo X1136.here hx rfl (hb hby dj42_139_10) rfl ((if0 _ _).trans (feq (show ¬ ((1 : Int32) = (0 : Int32)) from (by decide))).1) ?_
    exact st1139 _ k)
  have Z1141 : n0 ≤ h1139.size := Nat.le_trans Z0 E1139.1
  have K1142 : Keep h0 h1139 [] := (Keep.refl h0 []).ext E1139
  have O1143 : Old Z n0 h1139 := Ol.ext E1139
  have f1144 : Fld Z h1139 b1139 nS "coder" "B" (vI 0) := D1139 (Or.inr (oH hw 33 rfl)) (ty := .byte) (by decide)
  have f1145 : Fld Z h1139 b1139 nS "value" "[B" .null := D1139 (Or.inr (oH hw 35 rfl)) (ty := (.array .byte)) (by decide)
  obtain ⟨_, _, ⟨T1146, L1146, k1146, n1146⟩, -, X1146, ⟨Lc1146, hQ1146, l1146, y1146, z1146⟩, st1146⟩ := Jvm.LawKit.callS X1139 hx (y := y_47) hown (mvT hZ (oH hw 207 rfl)) (mvT hZ (oH hw 208 rfl)) (mvT hZ (oH hw 187 rfl)) (mvT hZ (oH hw 209 rfl)) (by decide) (backOf (W := 2) (rm_tb10 l Z a0 hw [] p1 G1 G2 h1139 n0 Z1141 Sg P5 Sf hG2 Sa Sh Sl O1143) hZ (oH hw 209 rfl) (oH hw 187 rfl) (by decide) (by decide)) (g := (mkF m 18 #[sI p1] [(.int p1), (.ref b1139), (.ref b1139)])) rfl (by rw [hml]; rfl) (argsL := [(.int p1)]) (rest := [(.ref b1139), (.ref b1139)]) (lenOf pd32 rfl) rfl (oW rfl) (hb hby dj42_139_18) (fun _ _ => ⟨rfl, e1139, (oB rfl : 1 + 1 ≤ _), (oB rfl : 4 + 1 ≤ _)⟩)
  dsimp only [Pt.U, Pt.locs, Pt.cells, Pt.slots] at X1146 l1146 y1146 z1146 st1146 hQ1146
  subst l1146 y1146 z1146
  obtain ⟨t1146, k1146, rfl, Nq1146, K1146, A1146, s1146⟩ := hQ1146
  have N1147 := Fr.app N1137 Nq1146
  have P1148 : Rg p e below (T1146.setTop (mkF m 21 #[sI p1] [(.ref t1146), (.ref b1139), (.ref b1139)])) B0 := fun t k => P1140 t (by
    refine XS.dup X1139.here hx rfl (hb hby dj42_139_16) rfl rfl ?_
    refine XS.iloadN X1139.here hx rfl (hb hby dj42_139_17) rfl ?_
    exact st1146 _ k)
  have Z1149 : n0 ≤ T1146.heap.size := Nat.le_trans Z1141 K1146.1
  have K1150 : Keep h0 T1146.heap [] := K1142.trans K1146 (all0)
  have O1151 : Old Z n0 T1146.heap := O1143.keep K1146 all0
  have g_t1146 : n0 ≤ t1146 := Nat.le_trans Z1141 s1146
  have sz_t1146 : h0.size ≤ t1146 := Nat.le_trans K1142.1 s1146
  have f1152 := (A1139.keep K1146)
  have f1153 := (f1145.keep K1146 nin0)
  have f1154 := (f1144.keep K1146 nin0)
  obtain ⟨_, _, ⟨T1155, L1155, k1155, n1155⟩, -, X1155, ⟨Lc1155, hQ1155, l1155, y1155, z1155⟩, st1155⟩ := X1146.specialBack hx (y := y_48) rfl hown (mvT hZ (oH hw 210 rfl)) (mvT hZ (oH hw 211 rfl)) (mvT hZ (oH hw 212 rfl)) (by decide) (backOf (W := 1) (rm_sbb0 l Z a0 hw [] b1139 t1146 T1146.heap n0 Z1149 g_b1139 f1152 f1153 f1154) hZ (oH hw 212 rfl) (oH hw 8 rfl) (by decide) (by decide)) (g := (mkF m 22 #[sI p1] [(vI 0), (.ref t1146), (.ref b1139), (.ref b1139)])) rfl (by rw [hml]; rfl) (Steps.refl _) (a := b1139) (argsL := [(.ref t1146), (vI 0)]) (rest := [(.ref b1139)]) (lenOf pd33 rfl) rfl (oW rfl) (hb hby dj42_139_22) (fun _ _ => ⟨rfl, rfl, (oB rfl : 2 + 0 ≤ _), (oB rfl : 5 + 0 ≤ _)⟩)
  dsimp only [Pt.U, Pt.locs, Pt.cells, Pt.slots] at X1155 l1155 y1155 z1155 st1155 hQ1155
  subst l1155 y1155 z1155
  obtain ⟨rfl, Nq1155, K1155, E1155, Fv1155, Fc1155⟩ := hQ1155
  have N1156 := Fr.app N1147 Nq1155
  have P1157 : Rg p e below (T1155.setTop (mkF m 25 #[sI p1] [(.ref b1139)])) B0 := fun t k => P1148 t (by
    refine XS.iconst X1146.here hx rfl (hb hby dj42_139_21) ?_
    exact st1155.trans k)
  have Z1158 : n0 ≤ T1155.heap.size := Nat.le_trans Z1149 K1155.1
  have K1159 : Keep h0 T1155.heap [] := K1150.trans K1155 ((allS (Or.inr sz_b1139) all0))
  have O1160 : Old Z n0 T1155.heap := O1151.keep K1155 (allS g_b1139 all0)
  have f1161 := (A1146.keep K1155 (ninS (Ne.symm (Nat.ne_of_lt (Nat.lt_of_lt_of_le f1145.lt s1146))) nin0))
  obtain ⟨fs1162, hr1162, hrun1162, hended1162, hW1162, hsame1162⟩ := X1155.leave (v := some (.ref b1139)) (fun h => by rw [Bd.returns] at h; cases h)
  refine ⟨_, _, pre0 _ (P1157 _ ?_), hrun1162, hended1162, _, _, rfl, ?_, ⟨⟨_, rfl⟩, hW1162, hsame1162.mono (oB rfl) (oB rfl)⟩⟩
  · exact retOut X1155 hx Bd.returns rfl (Or.inr (Or.inr (Or.inr (Or.inr ⟨rfl, rfl, rfl⟩)))) (hb hby dj42_139_25) hr1162
  · show Q_vof0 Z p1 h0 n0 _ T1155.heap _
    exact ⟨b1139, rfl, N1156, K1159, E1155, Fc1155, t1146, _, _, Fv1155, f1161, rfl⟩
theorem dj43_3_11 : decode j43_3 11 = .ok (.iconst 0, 1) := by decide +kernel
theorem ef_cen1 (m : MethodId) (x0 : Int32) : entryFrame m #[(.int x0)] 1 = mkF m 0 #[sI x0] [] := by (first | (simp [entryFrame, mkF, argsToLocals, Value.category]; done) | rfl)
def Q_cen1  (h0 : Heap) (n0 : Nat) (v : Option Value) (h : Heap) (L : List Loc) : Prop := v = some (vI 0) ∧ Fr n0 L ∧ h = h0
theorem rm_cen1 (l : Launch) (Z : State) (a0 : Array Value) (hw : Tb a0 Z) (ws : List Jvm.Cond) (p1 : Int32) (h0 : Heap) (n0 : Nat) (Z0 : n0 ≤ h0.size) (o1 : (255 : Int32) < p1) :
    MF l Z h0 y_46 j43_3 1 (some .boolean) ws (rM 0 0 0 0) #[(.int p1)] (Q_cen1  h0 n0) := by
  refine MetFree.of_bodySF (plainFor_of_name pn_java_lang_StringLatin1) hisR ?_
  intro p e s m args below meth c s₁ Bd hml hP hK
  obtain ⟨rfl, hZ, hh⟩ := hP
  have hx := Bd.exec
  have hby := Bd.bytes
  have hown : s.vm.findClass "java/lang/StringLatin1" = some m.cls := findClass_of_methodNamed Bd.named
  have X0 : Stand p l e (rM 0 0 0 0) s m #[(.int p1)] below meth c s₁ [] 0 0 := Stand.of_body Bd
  have e0 : s₁.heap = h0 := by rw [← hh, Bd.state]; rfl
  have N0 := Fr.nil n0
  obtain ⟨B0, pre0, P0⟩ : ∃ B, Rg p e below B (s₁.setTop (entryFrame m #[(.int p1)] 1)) ∧ Rg p e below (s₁.setTop (mkF m 0 #[sI p1] [])) B := ⟨_, fun t k => castTop (ef_cen1 m p1) k, fun t k => k⟩
  obtain ⟨fs1163, hr1163, hrun1163, hended1163, hW1163, hsame1163⟩ := X0.leave (v := some (vI 0)) (fun h => by rw [Bd.returns] at h; cases h)
  refine ⟨_, _, pre0 _ (P0 _ ?_), hrun1163, hended1163, _, _, rfl, ?_, ⟨⟨_, rfl⟩, hW1163, hsame1163.mono (oB rfl) (oB rfl)⟩⟩
  · refine XS.iloadN X0.here hx rfl (hb hby dj43_3_0) rfl ?_
    show Sq p e below (s₁.setTop (mkF m 1 #[sI p1] [(.int p1)])) _
    refine XS.sipush X0.here hx rfl (hb hby dj43_3_1) ?_
    refine XS.icmpYes X0.here hx rfl (pc0 := 4) (pc' := 11) rfl (hb hby dj43_3_4) rfl (tlt (show (255 : Int32) < p1 from o1)).2.2.1 (by decide) (by decide) ?_
    refine XS.iconst X0.here hx rfl (hb hby dj43_3_11) ?_
    exact retN X0 hx (t := .boolean) Bd.returns (by simp) (hb hby dj43_3_12) hr1163
  · show Q_cen1  h0 n0 _ s₁.heap _
    rw [e0]
    exact ⟨rfl, N0, rfl⟩
theorem dj52_24_0 : decode j52_24 0 = .ok (.iconst 2, 1) := by decide +kernel
theorem dj52_24_1 : decode j52_24 1 = .ok (.newarray .byte, 2) := by decide +kernel
theorem dj52_24_3 : decode j52_24 3 = .ok (.astore_n 1, 1) := by decide +kernel
theorem dj52_24_4 : decode j52_24 4 = .ok (.aload_n 1, 1) := by decide +kernel
theorem dj52_24_5 : decode j52_24 5 = .ok (.iconst 0, 1) := by decide +kernel
theorem dj52_24_6 : decode j52_24 6 = .ok (.iload_n 0, 1) := by decide +kernel
theorem dj52_24_7 : decode j52_24 7 = .ok (.invokestatic 111, 3) := by decide +kernel
theorem dj52_24_10 : decode j52_24 10 = .ok (.aload_n 1, 1) := by decide +kernel
theorem dj52_24_11 : decode j52_24 11 = .ok (.areturn, 1) := by decide +kernel
theorem ef_tb11 (m : MethodId) (x0 : Int32) : entryFrame m #[(.int x0)] 2 = mkF m 0 #[sI x0, sU] [] := by (first | (simp [entryFrame, mkF, argsToLocals, Value.category]; done) | rfl)
def Q_tb11 (Z : State) (p1 : Int32) (h0 : Heap) (n0 : Nat) (v : Option Value) (h : Heap) (L : List Loc) : Prop := ∃ (t : Addr) (k : ClassId), v = some (.ref t) ∧ Fr n0 L ∧ Keep h0 h [] ∧ Arv Z h t k .byte (2 : Int32) ((own_by true [p1]).map Value.int) (vI 0) ∧ h0.size ≤ t
theorem rm_tb11 (l : Launch) (Z : State) (a0 : Array Value) (hw : Tb a0 Z) (ws : List Jvm.Cond) (p1 : Int32) (G1 : Int32) (G2 : Value) (h0 : Heap) (n0 : Nat) (Z0 : n0 ≤ h0.size) (Sg : oSg Z G1) (P5 : ¬ (G1 = (0 : Int32))) (Sf : oSf Z G2) (hG2 : G2.isRef = true) (Sa : oSa Z) (Sh : oSh Z) (Sl : oSl Z) (Ol : Old Z n0 h0) :
    MF l Z h0 y_50 j52_24 2 (some (.array .byte)) ws (rM 1 1 2 14) #[(.int p1)] (Q_tb11 Z p1 h0 n0) := by
  refine MetFree.of_bodySF (plainFor_of_name pn_java_lang_StringUTF16) hisR ?_
  intro p e s m args below meth c s₁ Bd hml hP hK
  obtain ⟨rfl, hZ, hh⟩ := hP
  have hx := Bd.exec
  have hby := Bd.bytes
  have hown : s.vm.findClass "java/lang/StringUTF16" = some m.cls := findClass_of_methodNamed Bd.named
  have X0 : Stand p l e (rM 1 1 2 14) s m #[(.int p1)] below meth c s₁ [] 0 0 := Stand.of_body Bd
  have e0 : s₁.heap = h0 := by rw [← hh, Bd.state]; rfl
  have N0 := Fr.nil n0
  obtain ⟨B0, pre0, P0⟩ : ∃ B, Rg p e below B (s₁.setTop (entryFrame m #[(.int p1)] 2)) ∧ Rg p e below (s₁.setTop (mkF m 0 #[sI p1, sU] [])) B := ⟨_, fun t k => castTop (ef_tb11 m p1) k, fun t k => k⟩
  obtain ⟨T1164, h1164, k1164, X1164, e1164, E1164, A1164, st1164⟩ := newP X0 hx hZ (oH hw 25 rfl) e0 (g := (mkF m 1 #[sI p1, sU] [(vI 2)])) rfl (hb hby dj52_24_1) rfl (by decide) (cap := 2) (by decide) (by decide) (by decide) (by decide)
  obtain ⟨b1164, g1164⟩ : ∃ z, z = h0.size := ⟨_, rfl⟩
  rw [← g1164] at A1164 st1164
  have g_b1164 : n0 ≤ b1164 := Nat.le_trans Z0 (Nat.le_of_eq g1164.symm)
  have sz_b1164 : h0.size ≤ b1164 := Nat.le_trans (Keep.refl h0 []).1 (Nat.le_of_eq g1164.symm)
  have P1165 : Rg p e below (T1164.setTop (mkF m 3 #[sI p1, sU] [(.ref b1164)])) B0 := fun t k => P0 t (by
    refine XS.iconst X0.here hx rfl (hb hby dj52_24_0) ?_
    exact st1164 _ k)
  have Z1166 : n0 ≤ h1164.size := Nat.le_trans Z0 E1164.1
  have K1167 : Keep h0 h1164 [] := (Keep.refl h0 []).ext E1164
  have O1168 : Old Z n0 h1164 := Ol.ext E1164
  have v1169 : Arv Z h1164 b1164 k1164 .byte (2 : Int32) [(vI 0), (vI 0)] (vI 0) := (Arv.new A1164 (by decide)).pad (pad_rep [] (vI 0) 2)
  have A8 : Arv Z h1164 b1164 k1164 .byte (2 : Int32) (([] : List Int32).map Value.int) (vI 0) := v1169.pad (fun i => (pad_rep [] (vI 0) 2 i).symm)
  obtain ⟨_, _, ⟨T1170, L1170, k1170, n1170⟩, -, X1170, ⟨Lc1170, hQ1170, l1170, y1170, z1170⟩, st1170⟩ := Jvm.LawKit.callS X1164 hx (y := y_1) hown (mvT hZ (oH hw 216 rfl)) (mvT hZ (oH hw 217 rfl)) (mvT hZ (oH hw 23 rfl)) (mvT hZ (oH hw 218 rfl)) (by decide) (backOf (W := 0) (rm_ptc l Z a0 hw [] b1164 k1164 (2 : Int32) (0 : Int32) p1 ([] : List Int32) G1 G2 h1164 n0 Z1166 g_b1164 A8 ⟨by decide, by decide⟩ rfl ⟨by decide, by decide⟩ rfl Sg P5 Sf hG2 Sa Sh Sl O1168) hZ (oH hw 218 rfl) (oH hw 23 rfl) (by decide) (by decide)) (g := (mkF m 7 #[sI p1, sR b1164] [(.int p1), (vI 0), (.ref b1164)])) rfl (by rw [hml]; rfl) (argsL := [(.ref b1164), (vI 0), (.int p1)]) (rest := []) (lenOf pd7 rfl) rfl (oW rfl) (hb hby dj52_24_7) (fun _ _ => ⟨rfl, e1164, (oB rfl : 1 + 0 ≤ _), (oB rfl : 2 + 0 ≤ _)⟩)
  dsimp only [Pt.U, Pt.locs, Pt.cells, Pt.slots] at X1170 l1170 y1170 z1170 st1170 hQ1170
  subst l1170 y1170 z1170
  obtain ⟨rfl, Nq1170, K1170, A1170⟩ := hQ1170
  have N1171 := Fr.app N0 Nq1170
  have P1172 : Rg p e below (T1170.setTop (mkF m 10 #[sI p1, sR b1164] [])) B0 := fun t k => P1165 t (by
    refine XS.astoreN X1164.here hx rfl (hb hby dj52_24_3) rfl rfl (l' := #[sI p1, sR b1164]) rfl ?_
    refine XS.aloadN X1164.here hx rfl (hb hby dj52_24_4) rfl rfl ?_
    refine XS.iconst X1164.here hx rfl (hb hby dj52_24_5) ?_
    refine XS.iloadN X1164.here hx rfl (hb hby dj52_24_6) rfl ?_
    exact st1170 _ k)
  have Z1173 : n0 ≤ T1170.heap.size := Nat.le_trans Z1166 K1170.1
  have K1174 : Keep h0 T1170.heap [] := K1167.trans K1170 ((allS (Or.inr sz_b1164) all0))
  have O1175 : Old Z n0 T1170.heap := O1168.keep K1170 (allS g_b1164 all0)
  obtain ⟨fs1176, hr1176, hrun1176, hended1176, hW1176, hsame1176⟩ := X1170.leave (v := some (.ref b1164)) (fun h => by rw [Bd.returns] at h; cases h)
  refine ⟨_, _, pre0 _ (P1172 _ ?_), hrun1176, hended1176, _, _, rfl, ?_, ⟨⟨_, rfl⟩, hW1176, hsame1176.mono (oB rfl) (oB rfl)⟩⟩
  · show Sq p e below (T1170.setTop (mkF m 10 #[sI p1, sR b1164] [])) _
    refine XS.aloadN X1170.here hx rfl (hb hby dj52_24_10) rfl rfl ?_
    exact retOut X1170 hx Bd.returns rfl (Or.inr (Or.inr (Or.inr (Or.inr ⟨rfl, rfl, rfl⟩)))) (hb hby dj52_24_11) hr1176
  · show Q_tb11 Z p1 h0 n0 _ T1170.heap _
    exact ⟨b1164, _, rfl, N1171, K1174, A1170, sz_b1164⟩
theorem ef_sbb1 (m : MethodId) (x0 : Addr) (x1 : Addr) (x2 : Int32) : entryFrame m #[(.ref x0), (.ref x1), (.int x2)] 3 = mkF m 0 #[sR x0, sR x1, sI x2] [] := by (first | (simp [entryFrame, mkF, argsToLocals, Value.category]; done) | rfl)
def Q_sbb1 (Z : State) (a1 t1 : Addr) (h0 : Heap) (n0 : Nat) (v : Option Value) (h : Heap) (L : List Loc) : Prop := v = none ∧ Fr n0 L ∧ Keep h0 h [a1] ∧ Exa Z h a1 nS ∧ Fld Z h a1 nS "value" "[B" (.ref t1) ∧ Fld Z h a1 nS "coder" "B" (vI 1)
theorem rm_sbb1 (l : Launch) (Z : State) (a0 : Array Value) (hw : Tb a0 Z) (ws : List Jvm.Cond) (a1 t1 : Addr) (h0 : Heap) (n0 : Nat) (Z0 : n0 ≤ h0.size) (g_a1 : n0 ≤ a1) (E_a1 : Exa Z h0 a1 nS) (Fv : Fld Z h0 a1 nS "value" "[B" .null) (Fk : Fld Z h0 a1 nS "coder" "B" (vI 0))  :
    MF l Z h0 y_48 j42_151 3 none ws (rM 1 0 0 12) #[(.ref a1), (.ref t1), (vI 1)] (Q_sbb1 Z a1 t1 h0 n0) := by
  refine MetFree.of_bodySF (plainFor_of_name pn_java_lang_String) hisR ?_
  intro p e s m args below meth c s₁ Bd hml hP hK
  obtain ⟨rfl, hZ, hh⟩ := hP
  have hx := Bd.exec
  have hby := Bd.bytes
  have hown : s.vm.findClass "java/lang/String" = some m.cls := findClass_of_methodNamed Bd.named
  have hnm := (name_of_methodNamed Bd.named Bd.method).1
  have X0 : Stand p l e (rM 1 0 0 12) s m #[(.ref a1), (.ref t1), (vI 1)] below meth c s₁ [] 0 0 := Stand.of_body Bd
  have e0 : s₁.heap = h0 := by rw [← hh, Bd.state]; rfl
  have N0 := Fr.nil n0
  obtain ⟨B0, pre0, P0⟩ : ∃ B, Rg p e below B (s₁.setTop (entryFrame m #[(.ref a1), (.ref t1), (vI 1)] 3)) ∧ Rg p e below (s₁.setTop (mkF m 0 #[sR a1, sR t1, sI 1] [])) B := ⟨_, fun t k => castTop (ef_sbb1 m a1 t1 (1 : Int32)) k, fun t k => k⟩
  obtain ⟨T1177, X1177, e1177, st1177⟩ := initO X0 hx hZ hown (oH hw 17 rfl) (oH hw 18 rfl) (oH hw 19 rfl) e0 (g := (mkF m 1 #[sR a1, sR t1, sI 1] [(.ref a1)])) rfl (by rw [hml]; rfl) rfl (hb hby dj42_151_1) (by decide) (W := 0) (oW rfl) (by decide)
  have P1178 : Rg p e below (T1177.setTop (mkF m 4 #[sR a1, sR t1, sI 1] [])) B0 := fun t k => P0 t (by
    refine XS.aloadN X0.here hx rfl (hb hby dj42_151_0) rfl rfl ?_
    exact st1177 _ k)
  obtain ⟨T1179, h1179, X1179, e1179, W1179, st1179⟩ := putF X1177 hx hZ hown (host := "") (Or.inl (oH hw 34 rfl)) Via.refl e1177 Fv E_a1 (Or.inr ⟨(oH hw 35 rfl), rfl, hnm⟩) (oH hw 7 rfl) (ty := (.array .byte)) (by decide) rfl rfl (g := (mkF m 6 #[sR a1, sR t1, sI 1] [(.ref t1), (.ref a1)])) rfl rfl (hb hby dj42_151_6)
  have P1180 : Rg p e below (T1179.setTop (mkF m 9 #[sR a1, sR t1, sI 1] [])) B0 := fun t k => P1178 t (by
    refine XS.aloadN X1177.here hx rfl (hb hby dj42_151_4) rfl rfl ?_
    refine XS.aloadN X1177.here hx rfl (hb hby dj42_151_5) rfl rfl ?_
    exact st1179 _ k)
  have f1181 := Fv.same W1179
  have N1182 := Fr.snoc X1179 N0 g_a1
  have Z1183 : n0 ≤ h1179.size := Nat.le_trans Z0 (Keep.of_wr W1179).1
  have K1184 : Keep h0 h1179 [a1] := (Keep.refl h0 [a1]).wr W1179 (Or.inl (List.mem_of_getElem? (i := 0) rfl))
  have f1185 := (Fk.other W1179 (Or.inr (slot_ne (Or.inr (oH hw 33 rfl)) (Or.inr (oH hw 35 rfl)) (by decide) (t := .byte) (t' := (.array .byte)) (by decide) (by decide))))
  have f1186 := (E_a1.wr W1179)
  obtain ⟨T1187, h1187, X1187, e1187, W1187, st1187⟩ := putFN X1179 hx hZ hown (oH hw 32 rfl) Via.refl e1179 f1185 f1186 (Or.inr ⟨(oH hw 33 rfl), rfl, hnm⟩) (oH hw 7 rfl) (ty := .byte) (v' := .int (1 : Int32)) (by decide) rfl rfl (g := (mkF m 11 #[sR a1, sR t1, sI 1] [(vI 1), (.ref a1)])) rfl rfl (hb hby dj42_151_11)
  have P1188 : Rg p e below (T1187.setTop (mkF m 14 #[sR a1, sR t1, sI 1] [])) B0 := fun t k => P1180 t (by
    refine XS.aloadN X1179.here hx rfl (hb hby dj42_151_9) rfl rfl ?_
    refine XS.iloadN X1179.here hx rfl (hb hby dj42_151_10) rfl ?_
    exact st1187 _ k)
  have f1189 := f1185.same W1187
  have N1190 := Fr.snoc X1187 N1182 g_a1
  have Z1191 : n0 ≤ h1187.size := Nat.le_trans Z1183 (Keep.of_wr W1187).1
  have K1192 : Keep h0 h1187 [a1] := K1184.wr W1187 (Or.inl (List.mem_of_getElem? (i := 0) rfl))
  have f1193 := (f1186.wr W1187)
  have f1194 := (f1181.other W1187 (Or.inr (slot_ne (Or.inr (oH hw 35 rfl)) (Or.inr (oH hw 33 rfl)) (by decide) (t := (.array .byte)) (t' := .byte) (by decide) (by decide))))
  obtain ⟨fs1195, hr1195, hrun1195, hended1195, hW1195, hsame1195⟩ := X1187.leave (v := none) (fun _ => rfl)
  refine ⟨_, _, pre0 _ (P1188 _ ?_), hrun1195, hended1195, _, _, rfl, ?_, ⟨⟨_, rfl⟩, hW1195, hsame1195.mono (oB rfl) (oB rfl)⟩⟩
  · exact X1187.returnOut hx Bd.returns (hb hby dj42_151_14) hr1195
  · show Q_sbb1 Z a1 t1 h0 n0 _ T1187.heap _
    rw [e1187]
    exact ⟨rfl, N1190, K1192, f1193, f1194, f1189⟩
theorem dj42_139_26 : decode j42_139 26 = .ok (.new 10, 3) := by decide +kernel
theorem dj42_139_29 : decode j42_139 29 = .ok (.dup, 1) := by decide +kernel
theorem dj42_139_30 : decode j42_139 30 = .ok (.iload_n 0, 1) := by decide +kernel
theorem dj42_139_31 : decode j42_139 31 = .ok (.invokestatic 1021, 3) := by decide +kernel
theorem dj42_139_34 : decode j42_139 34 = .ok (.iconst 1, 1) := by decide +kernel
theorem dj42_139_35 : decode j42_139 35 = .ok (.invokespecial 209, 3) := by decide +kernel
theorem dj42_139_38 : decode j42_139 38 = .ok (.areturn, 1) := by decide +kernel
theorem ef_vof1 (m : MethodId) (x0 : Int32) : entryFrame m #[(.int x0)] 1 = mkF m 0 #[sI x0] [] := by (first | (simp [entryFrame, mkF, argsToLocals, Value.category]; done) | rfl)
def Q_vof1 (Z : State) (p1 : Int32) (h0 : Heap) (n0 : Nat) (v : Option Value) (h : Heap) (L : List Loc) : Prop := ∃ s : Addr, v = some (.ref s) ∧ Fr n0 L ∧ Keep h0 h [] ∧ Exa Z h s nS ∧ Fld Z h s nS "coder" "B" (vI 1) ∧ ∃ (t : Addr) (k : ClassId) (N : Int32), Fld Z h s nS "value" "[B" (.ref t) ∧ Arv Z h t k .byte N ((own_by true [p1]).map Value.int) (vI 0) ∧ N = Int32.ofNat (own_by true [p1]).length
theorem rm_vof1 (l : Launch) (Z : State) (a0 : Array Value) (hw : Tb a0 Z) (ws : List Jvm.Cond) (p1 : Int32) (G1 : Int32) (G2 : Value) (h0 : Heap) (n0 : Nat) (Z0 : n0 ≤ h0.size) (o1 : (255 : Int32) < p1) (Sg : oSg Z G1) (P5 : ¬ (G1 = (0 : Int32))) (Sf : oSf Z G2) (hG2 : G2.isRef = true) (Sa : oSa Z) (Sh : oSh Z) (Sl : oSl Z) (Ol : Old Z n0 h0) :
    MF l Z h0 y_49 j42_139 1 (some (.object "java/lang/String")) ws (rM 2 2 6 29) #[(.int p1)] (Q_vof1 Z p1 h0 n0) := by
  refine MetFree.of_bodySF (plainFor_of_name pn_java_lang_String) hisR ?_
  intro p e s m args below meth c s₁ Bd hml hP hK
  obtain ⟨rfl, hZ, hh⟩ := hP
  have hx := Bd.exec
  have hby := Bd.bytes
  have hown : s.vm.findClass "java/lang/String" = some m.cls := findClass_of_methodNamed Bd.named
  have X0 : Stand p l e (rM 2 2 6 29) s m #[(.int p1)] below meth c s₁ [] 0 0 := Stand.of_body Bd
  have e0 : s₁.heap = h0 := by rw [← hh, Bd.state]; rfl
  have N0 := Fr.nil n0
  obtain ⟨B0, pre0, P0⟩ : ∃ B, Rg p e below B (s₁.setTop (entryFrame m #[(.int p1)] 1)) ∧ Rg p e below (s₁.setTop (mkF m 0 #[sI p1] [])) B := ⟨_, fun t k => castTop (ef_vof1 m p1) k, fun t k => k⟩
  obtain ⟨T1196, X1196, e1196, st1196⟩ := getS2 X0 hx hZ hown (host := "") (Or.inl (oH hw 20 rfl)) Via.refl e0 (Sg.ext Ol.2) (g := (mkF m 0 #[sI p1] [])) rfl (hb hby dj42_139_0)
  have P1197 : Rg p e below (T1196.setTop (mkF m 3 #[sI p1] [(.int G1)])) B0 := fun t k => P0 t (by
    exact st1196 _ k)
  obtain ⟨_, _, ⟨T1198, L1198, k1198, n1198⟩, -, X1198, ⟨Lc1198, hQ1198, l1198, y1198, z1198⟩, st1198⟩ := Jvm.LawKit.callS X1196 hx (y := y_46) hown (mvT hZ (oH hw 203 rfl)) (mvT hZ (oH hw 204 rfl)) (mvT hZ (oH hw 187 rfl)) (mvT hZ (oH hw 205 rfl)) (by decide) (backOf (W := 0) (rm_cen1 l Z a0 hw [] p1 h0 n0 Z0 o1) hZ (oH hw 205 rfl) (oH hw 187 rfl) (by decide) (by decide)) (g := (mkF m 7 #[sI p1] [(.int p1)])) rfl (by rw [hml]; rfl) (argsL := [(.int p1)]) (rest := []) (lenOf pd31 rfl) rfl (oW rfl) (hb hby dj42_139_7) (fun _ _ => ⟨rfl, e1196, (oB rfl : 0 + 0 ≤ _), (oB rfl : 0 + 0 ≤ _)⟩)
  dsimp only [Pt.U, Pt.locs, Pt.cells, Pt.slots] at X1198 l1198 y1198 z1198 st1198 hQ1198
  subst l1198 y1198 z1198
  obtain ⟨rfl, Nq1198, e1198⟩ := hQ1198
  have N1199 := Fr.app N0 Nq1198
  have P1200 : Rg p e below (T1198.setTop (mkF m 10 #[sI p1] [(vI 0)])) B0 := fun t k => P1197 t (by
    refine XS.ifNo X1196.here hx rfl (hb hby dj42_139_3) rfl ((if0 _ _).trans (feq (show ¬ (G1 = (0 : Int32)) from P5)).1) ?_
    refine XS.iloadN X1196.here hx rfl (hb hby dj42_139_6) rfl ?_
    exact st1198 _ k)
  obtain ⟨T1201, h1201, X1201, e1201, E1201, A1201, D1201, -, st1201⟩ := newO X1198 hx hZ hown (oH hw 206 rfl) (oH hw 7 rfl) (oH hw 8 rfl) e1198 (g := (mkF m 26 #[sI p1] [])) rfl (hb hby dj42_139_26) (by decide) (by decide)
  obtain ⟨b1201, g1201⟩ : ∃ z, z = h0.size := ⟨_, rfl⟩
  rw [← g1201] at A1201 D1201 st1201
  have g_b1201 : n0 ≤ b1201 := Nat.le_trans Z0 (Nat.le_of_eq g1201.symm)
  have sz_b1201 : h0.size ≤ b1201 := Nat.le_trans (Keep.refl h0 []).1 (Nat.le_of_eq g1201.symm)
  have P1202 : Rg p e below (T1201.setTop (mkF m 29 #[sI p1] [(.ref b1201)])) B0 := fun t k => P1200 t (by
    refine XS.ifYes X1198.here hx rfl (pc0 := 10) (pc' := 26) rfl (hb hby dj42_139_10) rfl ((if0 _ _).trans (teq (show (0 : Int32) = (0 : Int32) from (by decide))).1) (by decide) (by decide) ?_
    exact st1201 _ k)
  have Z1203 : n0 ≤ h1201.size := Nat.le_trans Z0 E1201.1
  have K1204 : Keep h0 h1201 [] := (Keep.refl h0 []).ext E1201
  have O1205 : Old Z n0 h1201 := Ol.ext E1201
  have f1206 : Fld Z h1201 b1201 nS "coder" "B" (vI 0) := D1201 (Or.inr (oH hw 33 rfl)) (ty := .byte) (by decide)
  have f1207 : Fld Z h1201 b1201 nS "value" "[B" .null := D1201 (Or.inr (oH hw 35 rfl)) (ty := (.array .byte)) (by decide)
  obtain ⟨_, _, ⟨T1208, L1208, k1208, n1208⟩, -, X1208, ⟨Lc1208, hQ1208, l1208, y1208, z1208⟩, st1208⟩ := Jvm.LawKit.callS X1201 hx (y := y_50) hown (mvT hZ (oH hw 213 rfl)) (mvT hZ (oH hw 214 rfl)) (mvT hZ (oH hw 23 rfl)) (mvT hZ (oH hw 215 rfl)) (by decide) (backOf (W := 2) (rm_tb11 l Z a0 hw [] p1 G1 G2 h1201 n0 Z1203 Sg P5 Sf hG2 Sa Sh Sl O1205) hZ (oH hw 215 rfl) (oH hw 23 rfl) (by decide) (by decide)) (g := (mkF m 31 #[sI p1] [(.int p1), (.ref b1201), (.ref b1201)])) rfl (by rw [hml]; rfl) (argsL := [(.int p1)]) (rest := [(.ref b1201), (.ref b1201)]) (lenOf pd32 rfl) rfl (oW rfl) (hb hby dj42_139_31) (fun _ _ => ⟨rfl, e1201, (oB rfl : 1 + 1 ≤ _), (oB rfl : 4 + 2 ≤ _)⟩)
  dsimp only [Pt.U, Pt.locs, Pt.cells, Pt.slots] at X1208 l1208 y1208 z1208 st1208 hQ1208
  subst l1208 y1208 z1208
  obtain ⟨t1208, k1208, rfl, Nq1208, K1208, A1208, s1208⟩ := hQ1208
  have N1209 := Fr.app N1199 Nq1208
  have P1210 : Rg p e below (T1208.setTop (mkF m 34 #[sI p1] [(.ref t1208), (.ref b1201), (.ref b1201)])) B0 := fun t k => P1202 t (by
    refine XS.dup X1201.here hx rfl (hb hby dj42_139_29) rfl rfl ?_
    refine XS.iloadN X1201.here hx rfl (hb hby dj42_139_30) rfl ?_
    exact st1208 _ k)
  have Z1211 : n0 ≤ T1208.heap.size := Nat.le_trans Z1203 K1208.1
  have K1212 : Keep h0 T1208.heap [] := K1204.trans K1208 (all0)
  have O1213 : Old Z n0 T1208.heap := O1205.keep K1208 all0
  have g_t1208 : n0 ≤ t1208 := Nat.le_trans Z1203 s1208
  have sz_t1208 : h0.size ≤ t1208 := Nat.le_trans K1204.1 s1208
  have f1214 := (A1201.keep K1208)
  have f1215 := (f1207.keep K1208 nin0)
  have f1216 := (f1206.keep K1208 nin0)
  obtain ⟨_, _, ⟨T1217, L1217, k1217, n1217⟩, -, X1217, ⟨Lc1217, hQ1217, l1217, y1217, z1217⟩, st1217⟩ := X1208.specialBack hx (y := y_48) rfl hown (mvT hZ (oH hw 210 rfl)) (mvT hZ (oH hw 211 rfl)) (mvT hZ (oH hw 212 rfl)) (by decide) (backOf (W := 1) (rm_sbb1 l Z a0 hw [] b1201 t1208 T1208.heap n0 Z1211 g_b1201 f1214 f1215 f1216) hZ (oH hw 212 rfl) (oH hw 8 rfl) (by decide) (by decide)) (g := (mkF m 35 #[sI p1] [(vI 1), (.ref t1208), (.ref b1201), (.ref b1201)])) rfl (by rw [hml]; rfl) (Steps.refl _) (a := b1201) (argsL := [(.ref t1208), (vI 1)]) (rest := [(.ref b1201)]) (lenOf pd33 rfl) rfl (oW rfl) (hb hby dj42_139_35) (fun _ _ => ⟨rfl, rfl, (oB rfl : 2 + 0 ≤ _), (oB rfl : 6 + 0 ≤ _)⟩)
  dsimp only [Pt.U, Pt.locs, Pt.cells, Pt.slots] at X1217 l1217 y1217 z1217 st1217 hQ1217
  subst l1217 y1217 z1217
  obtain ⟨rfl, Nq1217, K1217, E1217, Fv1217, Fc1217⟩ := hQ1217
  have N1218 := Fr.app N1209 Nq1217
  have P1219 : Rg p e below (T1217.setTop (mkF m 38 #[sI p1] [(.ref b1201)])) B0 := fun t k => P1210 t (by
    refine XS.iconst X1208.here hx rfl (hb hby dj42_139_34) ?_
    exact st1217.trans k)
  have Z1220 : n0 ≤ T1217.heap.size := Nat.le_trans Z1211 K1217.1
  have K1221 : Keep h0 T1217.heap [] := K1212.trans K1217 ((allS (Or.inr sz_b1201) all0))
  have O1222 : Old Z n0 T1217.heap := O1213.keep K1217 (allS g_b1201 all0)
  have f1223 := (A1208.keep K1217 (ninS (Ne.symm (Nat.ne_of_lt (Nat.lt_of_lt_of_le f1207.lt s1208))) nin0))
  obtain ⟨fs1224, hr1224, hrun1224, hended1224, hW1224, hsame1224⟩ := X1217.leave (v := some (.ref b1201)) (fun h => by rw [Bd.returns] at h; cases h)
  refine ⟨_, _, pre0 _ (P1219 _ ?_), hrun1224, hended1224, _, _, rfl, ?_, ⟨⟨_, rfl⟩, hW1224, hsame1224.mono (oB rfl) (oB rfl)⟩⟩
  · exact retOut X1217 hx Bd.returns rfl (Or.inr (Or.inr (Or.inr (Or.inr ⟨rfl, rfl, rfl⟩)))) (hb hby dj42_139_38) hr1224
  · show Q_vof1 Z p1 h0 n0 _ T1217.heap _
    exact ⟨b1201, rfl, N1218, K1221, E1217, Fc1217, t1208, _, _, Fv1217, f1223, rfl⟩
theorem dj42_149_8 : decode j42_149 8 = .ok (.aload_n 0, 1) := by decide +kernel
theorem dj42_149_9 : decode j42_149 9 = .ok (.ldc 7, 2) := by decide +kernel
theorem dj42_149_11 : decode j42_149 11 = .ok (.getfield 9, 3) := by decide +kernel
theorem dj42_149_14 : decode j42_149 14 = .ok (.putfield 9, 3) := by decide +kernel
theorem dj42_149_17 : decode j42_149 17 = .ok (.aload_n 0, 1) := by decide +kernel
theorem dj42_149_18 : decode j42_149 18 = .ok (.ldc 7, 2) := by decide +kernel
theorem dj42_149_20 : decode j42_149 20 = .ok (.getfield 15, 3) := by decide +kernel
theorem dj42_149_23 : decode j42_149 23 = .ok (.putfield 15, 3) := by decide +kernel
theorem dj42_149_26 : decode j42_149 26 = .ok (.return_, 1) := by decide +kernel
theorem ef_init4e (m : MethodId) (x0 : Addr) (x1 : Addr) (x2 : Int32) (x3 : Int32) : entryFrame m #[(.ref x0), (.ref x1), (.int x2), (.int x3), .null] 6 = mkF m 0 #[sR x0, sR x1, sI x2, sI x3, .val .null, sU] [] := by (first | (simp [entryFrame, mkF, argsToLocals, Value.category]; done) | rfl)
def Q_init4e (Z : State) (a1 : Addr) (h0 : Heap) (n0 : Nat) (v : Option Value) (h : Heap) (L : List Loc) : Prop := v = none ∧ Fr n0 L ∧ Keep h0 h [a1] ∧ Exa Z h a1 nS ∧ Fld Z h a1 nS "coder" "B" (.int 0) ∧ ∃ (t : Addr) (k : ClassId), Fld Z h a1 nS "value" "[B" (.ref t) ∧ Arv Z h t k .byte (0 : Int32) ([] : List Value) (.int 0)
theorem rm_init4e (l : Launch) (Z : State) (a0 : Array Value) (hw : Tb a0 Z) (ws : List Jvm.Cond) (a1 b1 : Addr) (h0 : Heap) (n0 : Nat) (Z0 : n0 ≤ h0.size) (g_a1 : n0 ≤ a1) (E1 : Exa Z h0 a1 nS) (Fv : Fld Z h0 a1 nS "value" "[B" .null) (Fc : Fld Z h0 a1 nS "coder" "B" (vI 0)) :
    MH l Z h0 y_44 j42_149 6 none ws (rM 1 4 8 12) #[(.ref a1), (.ref b1), (vI 0), (vI 0), .null] (Q_init4e Z a1 h0 n0) := by
  refine MetFree.of_bodySF (plainFor_of_name pn_java_lang_String) hisR ?_
  intro p e s m args below meth c s₁ Bd hml hP hK
  obtain ⟨rfl, hZ, hh, hCH0⟩ := hP
  have hx := Bd.exec
  have hby := Bd.bytes
  have hown : s.vm.findClass "java/lang/String" = some m.cls := findClass_of_methodNamed Bd.named
  have hnm := (name_of_methodNamed Bd.named Bd.method).1
  have X0 : Stand p l e (rM 1 4 8 12) (s.setVm s.vm) m #[(.ref a1), (.ref b1), (vI 0), (vI 0), .null] below meth c s₁ [] 0 0 := Stand.of_body Bd
  have e0 : s₁.heap = h0 := by rw [← hh, Bd.state]; rfl
  have N0 := Fr.nil n0
  obtain ⟨B0, pre0, P0⟩ : ∃ B, Rg p e below B (s₁.setTop (entryFrame m #[(.ref a1), (.ref b1), (vI 0), (vI 0), .null] 6)) ∧ Rg p e below (s₁.setTop (mkF m 0 #[sR a1, sR b1, sI 0, sI 0, .val .null, sU] [])) B := ⟨_, fun t k => castTop (ef_init4e m a1 b1 (0 : Int32) (0 : Int32)) k, fun t k => k⟩
  have hS0 : s.Since s.vm h0.size := (State.WarmedH.refl s).since _
  have hCR0 : CHr Z own_EL s.vm h0 s.vm h0 := CHr.refl hCH0
  have sf_a1 : Safe Z own_EL s.vm h0 a1 := own_safeNull hZ.alike E1 Fv (oH hw 7 rfl)
  obtain ⟨T1225, X1225, e1225, st1225⟩ := initO X0 hx hZ hown (oH hw 17 rfl) (oH hw 18 rfl) (oH hw 19 rfl) e0 (g := (mkF m 1 #[sR a1, sR b1, sI 0, sI 0, .val .null, sU] [(.ref a1)])) rfl (by rw [hml]; rfl) rfl (hb hby dj42_149_1) (by decide) (W := 0) (oW rfl) (by decide)
  have P1226 : Rg p e below (T1225.setTop (mkF m 4 #[sR a1, sR b1, sI 0, sI 0, .val .null, sU] [])) B0 := fun t k => P0 t (by
    refine XS.aloadN X0.here hx rfl (hb hby dj42_149_0) rfl rfl ?_
    exact st1225 _ k)
  obtain ⟨y1227, T1227, h1227, k1227, t1227, kb1227, X1227, e1227, E1227, hS1227, hk1227, hZ1227, ho1227, Ea1227, Fc1227, Fv1227, Av1227, la1227, lb1227, cr1227, Li1227, ne1227, st1227⟩ := ldcCH X1225 hx hZ hown (oH hw 36 rfl) (own_wS hw) e1225 hS0 (Nat.le_refl _) (own_EW hw) (by decide) hCH0 (vs := ([] : List Value)) (z := (0 : Int32)) ⟨by decide, by decide⟩ (by decide) (by decide) (g := (mkF m 9 #[sR a1, sR b1, sI 0, sI 0, .val .null, sU] [(.ref a1)])) rfl (hb hby dj42_149_9) (n := 0) (by decide) (by decide) (oB rfl) (oB rfl)
  have P1228 : Rg p e below (T1227.setTop (mkF m 11 #[sR a1, sR b1, sI 0, sI 0, .val .null, sU] [(.ref y1227), (.ref a1)])) B0 := fun t k => P1226 t (by
    refine XS.iloadN X1225.here hx rfl (hb hby dj42_149_4) rfl ?_
    refine XS.ifNo X1225.here hx rfl (hb hby dj42_149_5) rfl ((if0 _ _).trans (teq (show (0 : Int32) = (0 : Int32) from (by decide))).2) ?_
    refine XS.aloadN X1225.here hx rfl (hb hby dj42_149_8) rfl rfl ?_
    exact st1227 _ k)
  have Z1229 : n0 ≤ h1227.size := Nat.le_trans Z0 E1227.1
  have K1230 : Keep h0 h1227 [a1] := (Keep.refl h0 [a1]).ext E1227
  have R1231 : CHr Z own_EL s.vm h0 T1227.vm h1227 := hCR0.trans cr1227
  obtain ⟨T1232, X1232, e1232, st1232⟩ := getF X1227 hx hZ1227 ho1227 (host := "") (Or.inl (oH hw 34 rfl)) Via.refl e1227 Fv1227 (g := (mkF m 11 #[sR a1, sR b1, sI 0, sI 0, .val .null, sU] [(.ref y1227), (.ref a1)])) rfl rfl (hb hby dj42_149_11)
  have P1233 : Rg p e below (T1232.setTop (mkF m 14 #[sR a1, sR b1, sI 0, sI 0, .val .null, sU] [(.ref t1227), (.ref a1)])) B0 := fun t k => P1228 t (by
    exact st1232 _ k)
  have f1234 := (Fv.ext E1227)
  have f1235 := (E1.ext E1227)
  obtain ⟨T1236, h1236, X1236, e1236, W1236, st1236⟩ := putF X1232 hx hZ1227 ho1227 (host := "") (Or.inl (oH hw 34 rfl)) Via.refl e1232 f1234 f1235 (Or.inr ⟨(oH hw 35 rfl), rfl, hnm⟩) (oH hw 7 rfl) (ty := (.array .byte)) (by decide) rfl rfl (g := (mkF m 14 #[sR a1, sR b1, sI 0, sI 0, .val .null, sU] [(.ref t1227), (.ref a1)])) rfl rfl (hb hby dj42_149_14)
  have P1237 : Rg p e below (T1236.setTop (mkF m 17 #[sR a1, sR b1, sI 0, sI 0, .val .null, sU] [])) B0 := fun t k => P1233 t (by
    exact st1236 _ k)
  have f1238 := f1234.same W1236
  have N1239 := Fr.snoc X1236 N0 g_a1
  have Z1240 : n0 ≤ h1236.size := Nat.le_trans Z1229 (Keep.of_wr W1236).1
  have K1241 : Keep h0 h1236 [a1] := K1230.wr W1236 (Or.inl (List.mem_of_getElem? (i := 0) rfl))
  have hk1242 : k1227 ≤ h1236.size := Nat.le_trans hk1227 (Keep.of_wr W1236).1
  have C1243 : CHr Z own_EL T1227.vm h1227 T1227.vm h1236 := CHr.wr W1236 (CHr.safe cr1227 E1.lt sf_a1) cr1227.1
  have R1244 : CHr Z own_EL s.vm h0 T1227.vm h1236 := R1231.trans C1243
  obtain ⟨y1245, T1245, h1245, k1245, t1245, kb1245, X1245, e1245, E1245, hS1245, hk1245, hZ1245, ho1245, Ea1245, Fc1245, Fv1245, Av1245, la1245, lb1245, cr1245, Li1245, ne1245, st1245⟩ := ldcCH X1236 hx hZ1227 ho1227 (oH hw 36 rfl) (own_wS hw) e1236 hS1227 hk1242 (own_EW hw) (by decide) C1243.1 (vs := ([] : List Value)) (z := (0 : Int32)) ⟨by decide, by decide⟩ (by decide) (by decide) (g := (mkF m 18 #[sR a1, sR b1, sI 0, sI 0, .val .null, sU] [(.ref a1)])) rfl (hb hby dj42_149_18) (n := 0) (by decide) (by decide) (oB rfl) (oB rfl)
  have P1246 : Rg p e below (T1245.setTop (mkF m 20 #[sR a1, sR b1, sI 0, sI 0, .val .null, sU] [(.ref y1245), (.ref a1)])) B0 := fun t k => P1237 t (by
    refine XS.aloadN X1236.here hx rfl (hb hby dj42_149_17) rfl rfl ?_
    exact st1245 _ k)
  have Z1247 : n0 ≤ h1245.size := Nat.le_trans Z1240 E1245.1
  have K1248 : Keep h0 h1245 [a1] := K1241.ext E1245
  have R1249 : CHr Z own_EL s.vm h0 T1245.vm h1245 := R1244.trans cr1245
  obtain ⟨T1250, X1250, e1250, st1250⟩ := getF X1245 hx hZ1245 ho1245 (host := "") (Or.inl (oH hw 32 rfl)) Via.refl e1245 Fc1245 (g := (mkF m 20 #[sR a1, sR b1, sI 0, sI 0, .val .null, sU] [(.ref y1245), (.ref a1)])) rfl rfl (hb hby dj42_149_20)
  have P1251 : Rg p e below (T1250.setTop (mkF m 23 #[sR a1, sR b1, sI 0, sI 0, .val .null, sU] [(vI 0), (.ref a1)])) B0 := fun t k => P1246 t (by
    exact st1250 _ k)
  have f1252 := (((Fc.ext E1227).other W1236 (Or.inr (slot_ne (Or.inr (oH hw 33 rfl)) (Or.inr (oH hw 35 rfl)) (by decide) (t := .byte) (t' := (.array .byte)) (by decide) (by decide)))).ext E1245)
  have f1253 := ((f1235.wr W1236).ext E1245)
  obtain ⟨T1254, h1254, X1254, e1254, W1254, st1254⟩ := putFN X1250 hx hZ1245 ho1245 (oH hw 32 rfl) Via.refl e1250 f1252 f1253 (Or.inr ⟨(oH hw 33 rfl), rfl, hnm⟩) (oH hw 7 rfl) (ty := .byte) (v' := .int (0 : Int32)) (by decide) rfl rfl (g := (mkF m 23 #[sR a1, sR b1, sI 0, sI 0, .val .null, sU] [(vI 0), (.ref a1)])) rfl rfl (hb hby dj42_149_23)
  have P1255 : Rg p e below (T1254.setTop (mkF m 26 #[sR a1, sR b1, sI 0, sI 0, .val .null, sU] [])) B0 := fun t k => P1251 t (by
    exact st1254 _ k)
  have f1256 := f1252.same W1254
  have N1257 := Fr.snoc X1254 N1239 g_a1
  have Z1258 : n0 ≤ h1254.size := Nat.le_trans Z1247 (Keep.of_wr W1254).1
  have K1259 : Keep h0 h1254 [a1] := K1248.wr W1254 (Or.inl (List.mem_of_getElem? (i := 0) rfl))
  have hk1260 : k1245 ≤ h1254.size := Nat.le_trans hk1245 (Keep.of_wr W1254).1
  have C1261 : CHr Z own_EL T1245.vm h1245 T1245.vm h1254 := CHr.wr W1254 (CHr.safe ((cr1227.trans C1243).trans cr1245) E1.lt sf_a1) cr1245.1
  have R1262 : CHr Z own_EL s.vm h0 T1245.vm h1254 := R1249.trans C1261
  have f1263 := (f1253.wr W1254)
  have f1264 := ((f1238.ext E1245).other W1254 (Or.inr (slot_ne (Or.inr (oH hw 35 rfl)) (Or.inr (oH hw 33 rfl)) (by decide) (t := (.array .byte)) (t' := .byte) (by decide) (by decide))))
  have f1265 := (((Av1227.other W1236 (Ne.symm (Exa.neArv (E1.ext E1227) Av1227 (oH hw 7 rfl)))).ext E1245).other W1254 (Ne.symm (Exa.neArv (E1.ext E1227) Av1227 (oH hw 7 rfl))))
  obtain ⟨fs1266, hr1266, hrun1266, hended1266, hRW1266⟩ := X1254.leaveW (v := none) hS1245 (by rw [e1254]; exact hk1260) (fun _ => rfl)
  have hce1266 : CHr Z own_EL s.vm s.heap T1254.vm T1254.heap := by
    rw [hh, e1254]
    exact R1262.trans (CHv.at X1254 hZ1245 (own_EW hw) C1261.1)
  refine ⟨_, _, pre0 _ (P1255 _ ?_), hrun1266, hended1266, _, _, rfl, ?_, hce1266, ⟨hRW1266.1, hRW1266.2.1, hRW1266.2.2.1, hRW1266.2.2.2.mono (oB rfl) (oB rfl)⟩⟩
  · exact X1254.returnOut hx Bd.returns (hb hby dj42_149_26) hr1266
  · show Q_init4e Z a1 h0 n0 _ T1254.heap _
    rw [e1254]
    exact ⟨rfl, N1257, K1259, f1263, f1256, t1227, _, f1264, f1265⟩
theorem ef_init1e (m : MethodId) (x0 : Addr) (x1 : Addr) : entryFrame m #[(.ref x0), (.ref x1)] 2 = mkF m 0 #[sR x0, sR x1] [] := by (first | (simp [entryFrame, mkF, argsToLocals, Value.category]; done) | rfl)
def Q_init1e (Z : State) (a1 : Addr) (h0 : Heap) (n0 : Nat) (v : Option Value) (h : Heap) (L : List Loc) : Prop := v = none ∧ Fr n0 L ∧ Keep h0 h [a1] ∧ Exa Z h a1 nS ∧ Fld Z h a1 nS "coder" "B" (.int 0) ∧ ∃ (t : Addr) (k : ClassId), Fld Z h a1 nS "value" "[B" (.ref t) ∧ Arv Z h t k .byte (0 : Int32) ([] : List Value) (.int 0)
theorem rm_init1e (l : Launch) (Z : State) (a0 : Array Value) (hw : Tb a0 Z) (ws : List Jvm.Cond) (a1 b1 : Addr) (kb : ClassId) (h0 : Heap) (n0 : Nat) (Z0 : n0 ≤ h0.size) (g_a1 : n0 ≤ a1) (E1 : Exa Z h0 a1 nS) (Fv : Fld Z h0 a1 nS "value" "[B" .null) (Fc : Fld Z h0 a1 nS "coder" "B" (vI 0)) (Ab : Arv Z h0 b1 kb .char (0 : Int32) ([] : List Value) (vI 0)) :
    MH l Z h0 y_45 j42_3 2 none ws (rM 2 4 8 29) #[(.ref a1), (.ref b1)] (Q_init1e Z a1 h0 n0) := by
  refine MetFree.of_bodySF (plainFor_of_name pn_java_lang_String) hisR ?_
  intro p e s m args below meth c s₁ Bd hml hP hK
  obtain ⟨rfl, hZ, hh, hCH0⟩ := hP
  have hx := Bd.exec
  have hby := Bd.bytes
  have hown : s.vm.findClass "java/lang/String" = some m.cls := findClass_of_methodNamed Bd.named
  have X0 : Stand p l e (rM 2 4 8 29) (s.setVm s.vm) m #[(.ref a1), (.ref b1)] below meth c s₁ [] 0 0 := Stand.of_body Bd
  have e0 : s₁.heap = h0 := by rw [← hh, Bd.state]; rfl
  have N0 := Fr.nil n0
  obtain ⟨B0, pre0, P0⟩ : ∃ B, Rg p e below B (s₁.setTop (entryFrame m #[(.ref a1), (.ref b1)] 2)) ∧ Rg p e below (s₁.setTop (mkF m 0 #[sR a1, sR b1] [])) B := ⟨_, fun t k => castTop (ef_init1e m a1 b1) k, fun t k => k⟩
  have hS0 : s.Since s.vm h0.size := (State.WarmedH.refl s).since _
  have hCR0 : CHr Z own_EL s.vm h0 s.vm h0 := CHr.refl hCH0
  have sf_a1 : Safe Z own_EL s.vm h0 a1 := own_safeNull hZ.alike E1 Fv (oH hw 7 rfl)
  obtain ⟨cl1267, Ar1267, -, S1267, N1267, -, -⟩ := id Ab
  obtain ⟨_, _, ⟨T1268, L1268, k1268, n1268⟩, -, X1268, hs1268, hg1268, ⟨Lc1268, hQ1268, l1268, y1268, z1268, cr1268⟩, st1268⟩ := X0.specialBackS hx (y := y_44) rfl hown (mvT hZ (oH hw 13 rfl)) (mvT hZ (oH hw 14 rfl)) (mvT hZ (oH hw 16 rfl)) (by decide) (backOfSH (W := 0) (rm_init4e l Z a0 hw [] a1 b1 h0 n0 Z0 g_a1 E1 Fv Fc) hZ (oH hw 16 rfl) (oH hw 8 rfl) (by decide) (by decide) (own_EW hw) hCH0) (g := (mkF m 6 #[sR a1, sR b1] [.null, (vI 0), (vI 0), (.ref b1), (.ref a1)])) rfl (by rw [hml]; rfl) (Steps.refl _) (a := a1) (argsL := [(.ref b1), (vI 0), (vI 0), .null]) (rest := []) (lenOf pd30 rfl) rfl (oW rfl) (hb hby dj42_3_6) (fun _ _ => ⟨rfl, e0, (oB rfl : 0 + 4 ≤ _), (oB rfl : 0 + 8 ≤ _)⟩)
  dsimp only [Pt.U, Pt.locs, Pt.cells, Pt.slots] at X1268 l1268 y1268 z1268 st1268 hQ1268 hs1268 hg1268 cr1268
  subst l1268 y1268 z1268
  obtain ⟨rfl, Nq1268, Kk1268, Ek1268, Fc1268, t1268, k1268, Fv1268, Av1268⟩ := hQ1268
  obtain ⟨Xr1268, hSr1268, hZr1268, ho1268⟩ := rebS hS0 (by rw [e0]; exact (Nat.le_refl _)) X1268 hs1268 hg1268 hZ hown
  have N1269 := Fr.app N0 Nq1268
  have P1270 : Rg p e below (T1268.setTop (mkF m 9 #[sR a1, sR b1] [])) B0 := fun t k => P0 t (by
    refine XS.aloadN X0.here hx rfl (hb hby dj42_3_0) rfl rfl ?_
    refine XS.aloadN X0.here hx rfl (hb hby dj42_3_1) rfl rfl ?_
    refine XS.iconst X0.here hx rfl (hb hby dj42_3_2) ?_
    refine XS.aloadN X0.here hx rfl (hb hby dj42_3_3) rfl rfl ?_
    show Sq p e below (s₁.setTop (mkF m 4 #[sR a1, sR b1] [(.ref b1), (vI 0), (.ref b1), (.ref a1)])) _
    refine X0.arraylength hx (by rw [e0]; exact Ar1267.1) (State.isArrayOf_alike hZ.alike Ar1267.2.1) (g := (mkF m 4 #[sR a1, sR b1] [(.ref b1), (vI 0), (.ref b1), (.ref a1)])) rfl rfl (hb hby dj42_3_4) _ ?_
    rw [len_of S1267 N1267]
    show Sq p e below (s₁.setTop (mkF m 5 #[sR a1, sR b1] [(vI 0), (vI 0), (.ref b1), (.ref a1)])) _
    refine XS.aconstNull X0.here hx rfl (hb hby dj42_3_5) ?_
    exact st1268.trans k)
  have Z1271 : n0 ≤ T1268.heap.size := Nat.le_trans Z0 Kk1268.1
  have K1272 : Keep h0 T1268.heap [a1] := (Keep.refl h0 [a1]).trans Kk1268 ((allS (Or.inl (List.mem_of_getElem? (i := 0) rfl)) all0))
  have R1273 : CHr Z own_EL s.vm h0 T1268.vm T1268.heap := hCR0.trans cr1268
  obtain ⟨fs1274, hr1274, hrun1274, hended1274, hRW1274⟩ := Xr1268.leaveW (v := none) hSr1268 (Nat.le_refl _) (fun _ => rfl)
  have hce1274 : CHr Z own_EL s.vm s.heap T1268.vm T1268.heap := by
    rw [hh]
    exact R1273.trans (CHv.at Xr1268 hZr1268 (own_EW hw) cr1268.1)
  refine ⟨_, _, pre0 _ (P1270 _ ?_), hrun1274, hended1274, _, _, rfl, ?_, hce1274, ⟨hRW1274.1, hRW1274.2.1, hRW1274.2.2.1, hRW1274.2.2.2.mono (oB rfl) (oB rfl)⟩⟩
  · exact Xr1268.returnOut hx Bd.returns (hb hby dj42_3_9) hr1274
  · show Q_init1e Z a1 h0 n0 _ T1268.heap _
    exact ⟨rfl, N1269, K1272, Ek1268, Fc1268, t1268, _, Fv1268, Av1268⟩
theorem d_method_3_code_0 : decode method_3_code 0 = .ok (.iload_n 0, 1) := by decide +kernel
theorem d_method_3_code_1 : decode method_3_code 1 = .ok (.ifCond .ne 14, 3) := by decide +kernel
theorem d_method_3_code_4 : decode method_3_code 4 = .ok (.new 25, 3) := by decide +kernel
theorem d_method_3_code_7 : decode method_3_code 7 = .ok (.dup, 1) := by decide +kernel
theorem d_method_3_code_8 : decode method_3_code 8 = .ok (.iconst 0, 1) := by decide +kernel
theorem d_method_3_code_9 : decode method_3_code 9 = .ok (.newarray .char, 2) := by decide +kernel
theorem d_method_3_code_11 : decode method_3_code 11 = .ok (.invokespecial 34, 3) := by decide +kernel
theorem pd34 : parseMethodDescriptor "([C)V" = some ⟨[(.array .char)], none⟩ := by decide +kernel
theorem d_method_3_code_14 : decode method_3_code 14 = .ok (.areturn, 1) := by decide +kernel
theorem d_method_3_code_15 : decode method_3_code 15 = .ok (.iload_n 0, 1) := by decide +kernel
theorem d_method_3_code_16 : decode method_3_code 16 = .ok (.iconst 1, 1) := by decide +kernel
theorem d_method_3_code_17 : decode method_3_code 17 = .ok (.if_icmp .ne 8, 3) := by decide +kernel
theorem d_method_3_code_20 : decode method_3_code 20 = .ok (.iload_n 1, 1) := by decide +kernel
theorem d_method_3_code_21 : decode method_3_code 21 = .ok (.invokestatic 37, 3) := by decide +kernel
theorem pd35 : parseMethodDescriptor "(C)Ljava/lang/String;" = some ⟨[.char], some (.object nS)⟩ := by decide +kernel
theorem d_method_3_code_24 : decode method_3_code 24 = .ok (.areturn, 1) := by decide +kernel
theorem d_method_3_code_25 : decode method_3_code 25 = .ok (.new 25, 3) := by decide +kernel
theorem d_method_3_code_28 : decode method_3_code 28 = .ok (.dup, 1) := by decide +kernel
theorem d_method_3_code_29 : decode method_3_code 29 = .ok (.iconst 2, 1) := by decide +kernel
theorem d_method_3_code_30 : decode method_3_code 30 = .ok (.newarray .char, 2) := by decide +kernel
theorem d_method_3_code_32 : decode method_3_code 32 = .ok (.dup, 1) := by decide +kernel
theorem d_method_3_code_33 : decode method_3_code 33 = .ok (.iconst 0, 1) := by decide +kernel
theorem d_method_3_code_34 : decode method_3_code 34 = .ok (.iload_n 1, 1) := by decide +kernel
theorem d_method_3_code_35 : decode method_3_code 35 = .ok (.castore, 1) := by decide +kernel
theorem d_method_3_code_36 : decode method_3_code 36 = .ok (.dup, 1) := by decide +kernel
theorem d_method_3_code_37 : decode method_3_code 37 = .ok (.iconst 1, 1) := by decide +kernel
theorem d_method_3_code_38 : decode method_3_code 38 = .ok (.iload_n 2, 1) := by decide +kernel
theorem d_method_3_code_39 : decode method_3_code 39 = .ok (.castore, 1) := by decide +kernel
theorem d_method_3_code_40 : decode method_3_code 40 = .ok (.invokespecial 34, 3) := by decide +kernel
theorem d_method_3_code_43 : decode method_3_code 43 = .ok (.areturn, 1) := by decide +kernel
theorem pn_com_example_tallyline_tallyline_core_FieldErrorToStringPinLaw : plainName "com/example/tallyline/tallyline/core/FieldErrorToStringPinLaw" = true := by first | (simp [plainName, overriddenIn]; done) | decide +kernel
theorem ef_mak (m : MethodId) (x0 : Int32) (x1 : Int32) (x2 : Int32) : entryFrame m #[(.int x0), (.int x1), (.int x2)] 3 = mkF m 0 #[sI x0, sI x1, sI x2] [] := by (first | (simp [entryFrame, mkF, argsToLocals, Value.category]; done) | rfl)
def Q_mak (Z : State) (na : Nat) (p1 p2 : Int32) (h0 : Heap) (n0 : Nat) (v : Option Value) (h : Heap) (L : List Loc) : Prop := ∃ (u : Bool) (s t : Addr) (k : ClassId) (N : Int32) (cs : List Int32), v = some (.ref s) ∧ Fr n0 L ∧ Keep h0 h [] ∧ Exa Z h s nS ∧ Fld Z h s nS "coder" "B" (.int (own_co u)) ∧ Fld Z h s nS "value" "[B" (.ref t) ∧ Arv Z h t k .byte N ((own_by u cs).map Value.int) (vI 0) ∧ N = Int32.ofNat (own_by u cs).length ∧ cs = own_mk na p1 p2 ∧ (u = false → ∀ c ∈ cs, ¬ c < 0 ∧ ¬ (255 : Int32) < c)
theorem rm_mak (l : Launch) (Z : State) (a0 : Array Value) (hw : Tb a0 Z) (ws : List Jvm.Cond) (na : Nat) (p1 p2 : Int32) (G1 : Int32) (G2 : Value) (h0 : Heap) (n0 : Nat) (Z0 : n0 ≤ h0.size) (ha : na ≤ 2) (hp1 : ¬ p1 < 0 ∧ ¬ (65535 : Int32) < p1) (hp2 : ¬ p2 < 0 ∧ ¬ (65535 : Int32) < p2) (Sg : oSg Z G1) (P5 : ¬ (G1 = (0 : Int32))) (Sf : oSf Z G2) (hG2 : G2.isRef = true) (Sa : oSa Z) (Sh : oSh Z) (Sl : oSl Z) (Ol : Old Z n0 h0) :
    MH l Z h0 y_51 method_3_code 3 (some (.object "java/lang/String")) ws (rM 6 6 12 88) #[(.int (Int32.ofNat na)), (.int p1), (.int p2)] (Q_mak Z na p1 p2 h0 n0) := by
  refine MetFree.of_bodySF (plainFor_of_name pn_com_example_tallyline_tallyline_core_FieldErrorToStringPinLaw) hisR ?_
  intro p e s m args below meth c s₁ Bd hml hP hK
  obtain ⟨rfl, hZ, hh, hCH0⟩ := hP
  have hx := Bd.exec
  have hby := Bd.bytes
  have hown : s.vm.findClass "com/example/tallyline/tallyline/core/FieldErrorToStringPinLaw" = some m.cls := findClass_of_methodNamed Bd.named
  have X0 : Stand p l e (rM 6 6 12 88) (s.setVm s.vm) m #[(.int (Int32.ofNat na)), (.int p1), (.int p2)] below meth c s₁ [] 0 0 := Stand.of_body Bd
  have e0 : s₁.heap = h0 := by rw [← hh, Bd.state]; rfl
  have N0 := Fr.nil n0
  obtain ⟨B0, pre0, P0⟩ : ∃ B, Rg p e below B (s₁.setTop (entryFrame m #[(.int (Int32.ofNat na)), (.int p1), (.int p2)] 3)) ∧ Rg p e below (s₁.setTop (mkF m 0 #[.val (.int (Int32.ofNat na)), sI p1, sI p2] [])) B := ⟨_, fun t k => castTop (ef_mak m (Int32.ofNat na) p1 p2) k, fun t k => k⟩
  have hS0 : s.Since s.vm h0.size := (State.WarmedH.refl s).since _
  have hCR0 : CHr Z own_EL s.vm h0 s.vm h0 := CHr.refl hCH0
  have M9 := own_mkE ha p1 p2
  by_cases q1275 : (Int32.ofNat na) = (0 : Int32)
  · skip
    obtain ⟨T1276, h1276, X1276, e1276, E1276, A1276, D1276, -, st1276⟩ := newO X0 hx hZ hown (oH hw 6 rfl) (oH hw 7 rfl) (oH hw 8 rfl) e0 (g := (mkF m 4 #[.val (.int (Int32.ofNat na)), sI p1, sI p2] [])) rfl (hb hby d_method_3_code_4) (by decide) (by decide)
    obtain ⟨b1276, g1276⟩ : ∃ z, z = h0.size := ⟨_, rfl⟩
    rw [← g1276] at A1276 D1276 st1276
    have g_b1276 : n0 ≤ b1276 := Nat.le_trans Z0 (Nat.le_of_eq g1276.symm)
    have sz_b1276 : h0.size ≤ b1276 := Nat.le_trans (Keep.refl h0 []).1 (Nat.le_of_eq g1276.symm)
    have P1277 : Rg p e below (T1276.setTop (mkF m 7 #[.val (.int (Int32.ofNat na)), sI p1, sI p2] [(.ref b1276)])) B0 := fun t k => P0 t (by
      refine XS.iloadN X0.here hx rfl (hb hby d_method_3_code_0) rfl ?_
      refine XS.ifNo X0.here hx rfl (hb hby d_method_3_code_1) rfl ((if0 _ _).trans (teq (show (Int32.ofNat na) = (0 : Int32) from q1275)).2) ?_
      exact st1276 _ k)
    have Z1278 : n0 ≤ h1276.size := Nat.le_trans Z0 E1276.1
    have K1279 : Keep h0 h1276 [] := (Keep.refl h0 []).ext E1276
    have O1280 : Old Z n0 h1276 := Ol.ext E1276
    have hk1281 : h0.size ≤ h1276.size := Nat.le_trans (Nat.le_refl _) E1276.1
    have C1282 : CHr Z own_EL s.vm h0 s.vm h1276 := CHr.ext E1276 hCH0
    have R1283 : CHr Z own_EL s.vm h0 s.vm h1276 := hCR0.trans C1282
    have sf_b1276 : Safe Z own_EL s.vm h1276 b1276 := Safe.ext E1276 hCH0 (Safe.new (Nat.le_of_eq g1276.symm))
    have f1284 : Fld Z h1276 b1276 nS "coder" "B" (vI 0) := D1276 (Or.inr (oH hw 33 rfl)) (ty := .byte) (by decide)
    have f1285 : Fld Z h1276 b1276 nS "value" "[B" .null := D1276 (Or.inr (oH hw 35 rfl)) (ty := (.array .byte)) (by decide)
    obtain ⟨T1286, h1286, k1286, X1286, e1286, E1286, A1286, st1286⟩ := newP X1276 hx hZ (oH hw 9 rfl) e1276 (g := (mkF m 9 #[.val (.int (Int32.ofNat na)), sI p1, sI p2] [(vI 0), (.ref b1276), (.ref b1276)])) rfl (hb hby d_method_3_code_9) rfl (by decide) (cap := 0) (by decide) (by decide) (by decide) (by decide)
    obtain ⟨b1286, g1286⟩ : ∃ z, z = h1276.size := ⟨_, rfl⟩
    rw [← g1286] at A1286 st1286
    have g_b1286 : n0 ≤ b1286 := Nat.le_trans Z1278 (Nat.le_of_eq g1286.symm)
    have sz_b1286 : h0.size ≤ b1286 := Nat.le_trans K1279.1 (Nat.le_of_eq g1286.symm)
    have P1287 : Rg p e below (T1286.setTop (mkF m 11 #[.val (.int (Int32.ofNat na)), sI p1, sI p2] [(.ref b1286), (.ref b1276), (.ref b1276)])) B0 := fun t k => P1277 t (by
      refine XS.dup X1276.here hx rfl (hb hby d_method_3_code_7) rfl rfl ?_
      refine XS.iconst X1276.here hx rfl (hb hby d_method_3_code_8) ?_
      exact st1286 _ k)
    have Z1288 : n0 ≤ h1286.size := Nat.le_trans Z1278 E1286.1
    have K1289 : Keep h0 h1286 [] := K1279.ext E1286
    have O1290 : Old Z n0 h1286 := O1280.ext E1286
    have hk1291 : h0.size ≤ h1286.size := Nat.le_trans hk1281 E1286.1
    have C1292 : CHr Z own_EL s.vm h1276 s.vm h1286 := CHr.ext E1286 C1282.1
    have R1293 : CHr Z own_EL s.vm h0 s.vm h1286 := R1283.trans C1292
    have v1294 : Arv Z h1286 b1286 k1286 .char (0 : Int32) ([] : List Value) (vI 0) := Arv.new A1286 (by decide)
    have f1295 := (A1276.ext E1286)
    have f1296 := (f1285.ext E1286)
    have f1297 := (f1284.ext E1286)
    obtain ⟨_, _, ⟨T1298, L1298, k1298, n1298⟩, -, X1298, hs1298, hg1298, ⟨Lc1298, hQ1298, l1298, y1298, z1298, cr1298⟩, st1298⟩ := X1286.specialBackS hx (y := y_45) rfl hown (mvT hZ (oH hw 10 rfl)) (mvT hZ (oH hw 11 rfl)) (mvT hZ (oH hw 12 rfl)) (by decide) (backOfSH (W := 1) (rm_init1e l Z a0 hw [] b1276 b1286 k1286 h1286 n0 Z1288 g_b1276 f1295 f1296 f1297 v1294) hZ (oH hw 12 rfl) (oH hw 8 rfl) (by decide) (by decide) (own_EW hw) C1292.1) (g := (mkF m 11 #[.val (.int (Int32.ofNat na)), sI p1, sI p2] [(.ref b1286), (.ref b1276), (.ref b1276)])) rfl (by rw [hml]; rfl) (Steps.refl _) (a := b1276) (argsL := [(.ref b1286)]) (rest := [(.ref b1276)]) (lenOf pd34 rfl) rfl (oW rfl) (hb hby d_method_3_code_11) (fun _ _ => ⟨rfl, e1286, (oB rfl : 2 + 4 ≤ _), (oB rfl : 4 + 8 ≤ _)⟩)
    dsimp only [Pt.U, Pt.locs, Pt.cells, Pt.slots] at X1298 l1298 y1298 z1298 st1298 hQ1298 hs1298 hg1298 cr1298
    subst l1298 y1298 z1298
    obtain ⟨rfl, Nq1298, Kk1298, Ek1298, Fc1298, t1298, kb1298, Fv1298, Av1298⟩ := hQ1298
    obtain ⟨Xr1298, hSr1298, hZr1298, ho1298⟩ := rebS hS0 (by rw [e1286]; exact hk1291) X1298 hs1298 hg1298 hZ hown
    have N1299 := Fr.app N0 Nq1298
    have P1300 : Rg p e below (T1298.setTop (mkF m 14 #[.val (.int (Int32.ofNat na)), sI p1, sI p2] [(.ref b1276)])) B0 := fun t k => P1287 t (by
      exact st1298.trans k)
    have Z1301 : n0 ≤ T1298.heap.size := Nat.le_trans Z1288 Kk1298.1
    have K1302 : Keep h0 T1298.heap [] := K1289.trans Kk1298 ((allS (Or.inr sz_b1276) all0))
    have O1303 : Old Z n0 T1298.heap := O1290.keep Kk1298 (allS g_b1276 all0)
    have R1304 : CHr Z own_EL s.vm h0 T1298.vm T1298.heap := R1293.trans cr1298
    obtain ⟨fs1305, hr1305, hrun1305, hended1305, hRW1305⟩ := Xr1298.leaveW (v := some (.ref b1276)) hSr1298 (Nat.le_refl _) (fun h => by rw [Bd.returns] at h; cases h)
    have hce1305 : CHr Z own_EL s.vm s.heap T1298.vm T1298.heap := by
      rw [hh]
      exact R1304.trans (CHv.at Xr1298 hZr1298 (own_EW hw) cr1298.1)
    refine ⟨_, _, pre0 _ (P1300 _ ?_), hrun1305, hended1305, _, _, rfl, ?_, hce1305, ⟨hRW1305.1, hRW1305.2.1, hRW1305.2.2.1, hRW1305.2.2.2.mono (oB rfl) (oB rfl)⟩⟩
    · exact retOut Xr1298 hx Bd.returns rfl (Or.inr (Or.inr (Or.inr (Or.inr ⟨rfl, rfl, rfl⟩)))) (hb hby d_method_3_code_14) hr1305
    · show Q_mak Z na p1 p2 h0 n0 _ T1298.heap _
      exact ⟨false, b1276, t1298, _, _, [], rfl, N1299, K1302, Ek1298, Fc1298, Fv1298, Av1298, rfl, M9.1 q1275, fun _ c hc => nomatch hc⟩
  · skip
    by_cases q1306 : (Int32.ofNat na) = (1 : Int32)
    · skip
      by_cases q1307 : (255 : Int32) < p1
      · skip
        obtain ⟨_, _, ⟨T1308, L1308, k1308, n1308⟩, -, X1308, ⟨Lc1308, hQ1308, l1308, y1308, z1308⟩, st1308⟩ := Jvm.LawKit.callS X0 hx (y := y_49) hown (mvT hZ (oH hw 200 rfl)) (mvT hZ (oH hw 201 rfl)) (mvT hZ (oH hw 8 rfl)) (mvT hZ (oH hw 202 rfl)) (by decide) (backOf (W := 0) (rm_vof1 l Z a0 hw [] p1 G1 G2 h0 n0 Z0 q1307 Sg P5 Sf hG2 Sa Sh Sl Ol) hZ (oH hw 202 rfl) (oH hw 8 rfl) (by decide) (by decide)) (g := (mkF m 21 #[.val (.int (Int32.ofNat na)), sI p1, sI p2] [(.int p1)])) rfl (by rw [hml]; rfl) (argsL := [(.int p1)]) (rest := []) (lenOf pd35 rfl) rfl (oW rfl) (hb hby d_method_3_code_21) (fun _ _ => ⟨rfl, e0, (oB rfl : 0 + 2 ≤ _), (oB rfl : 0 + 6 ≤ _)⟩)
        dsimp only [Pt.U, Pt.locs, Pt.cells, Pt.slots] at X1308 l1308 y1308 z1308 st1308 hQ1308
        subst l1308 y1308 z1308
        obtain ⟨x1308, rfl, Nq1308, K1308, Es1308, Fc1308, t1308, k1308, N1308_, Fv1308, A1308, hN1308⟩ := hQ1308
        have N1309 := Fr.app N0 Nq1308
        have P1310 : Rg p e below (T1308.setTop (mkF m 24 #[.val (.int (Int32.ofNat na)), sI p1, sI p2] [(.ref x1308)])) B0 := fun t k => P0 t (by
          refine XS.iloadN X0.here hx rfl (hb hby d_method_3_code_0) rfl ?_
          refine XS.ifYes X0.here hx rfl (pc0 := 1) (pc' := 15) rfl (hb hby d_method_3_code_1) rfl ((if0 _ _).trans (feq (show ¬ ((Int32.ofNat na) = (0 : Int32)) from q1275)).2) (by decide) (by decide) ?_
          refine XS.iloadN X0.here hx rfl (hb hby d_method_3_code_15) rfl ?_
          refine XS.iconst X0.here hx rfl (hb hby d_method_3_code_16) ?_
          refine XS.icmpNo X0.here hx rfl (hb hby d_method_3_code_17) rfl (teq (show (Int32.ofNat na) = (1 : Int32) from q1306)).2 ?_
          refine XS.iloadN X0.here hx rfl (hb hby d_method_3_code_20) rfl ?_
          exact st1308 _ k)
        have Z1311 : n0 ≤ T1308.heap.size := Nat.le_trans Z0 K1308.1
        have K1312 : Keep h0 T1308.heap [] := (Keep.refl h0 []).trans K1308 (all0)
        have O1313 : Old Z n0 T1308.heap := Ol.keep K1308 all0
        have hk1314 : h0.size ≤ T1308.heap.size := Nat.le_trans (Nat.le_refl _) K1308.1
        have C1315 : CHr Z own_EL s.vm h0 s.vm T1308.heap := CHr.keep K1308 sf0 hCH0
        have R1316 : CHr Z own_EL s.vm h0 s.vm T1308.heap := hCR0.trans C1315
        obtain ⟨fs1317, hr1317, hrun1317, hended1317, hRW1317⟩ := X1308.leaveW (v := some (.ref x1308)) hS0 hk1314 (fun h => by rw [Bd.returns] at h; cases h)
        have hce1317 : CHr Z own_EL s.vm s.heap T1308.vm T1308.heap := by
          rw [hh]
          exact R1316.trans (CHv.at X1308 hZ (own_EW hw) C1315.1)
        refine ⟨_, _, pre0 _ (P1310 _ ?_), hrun1317, hended1317, _, _, rfl, ?_, hce1317, ⟨hRW1317.1, hRW1317.2.1, hRW1317.2.2.1, hRW1317.2.2.2.mono (oB rfl) (oB rfl)⟩⟩
        · exact retOut X1308 hx Bd.returns rfl (Or.inr (Or.inr (Or.inr (Or.inr ⟨rfl, rfl, rfl⟩)))) (hb hby d_method_3_code_24) hr1317
        · show Q_mak Z na p1 p2 h0 n0 _ T1308.heap _
          exact ⟨true, x1308, t1308, k1308, N1308_, [p1], rfl, N1309, K1312, Es1308, Fc1308, Fv1308, A1308, hN1308, M9.2.1 q1306, fun z => nomatch z⟩
      · skip
        obtain ⟨_, _, ⟨T1318, L1318, k1318, n1318⟩, -, X1318, ⟨Lc1318, hQ1318, l1318, y1318, z1318⟩, st1318⟩ := Jvm.LawKit.callS X0 hx (y := y_49) hown (mvT hZ (oH hw 200 rfl)) (mvT hZ (oH hw 201 rfl)) (mvT hZ (oH hw 8 rfl)) (mvT hZ (oH hw 202 rfl)) (by decide) (backOf (W := 0) (rm_vof0 l Z a0 hw [] p1 G1 G2 h0 n0 Z0 q1307 Sg P5 Sf hG2 Sa Sh Sl Ol) hZ (oH hw 202 rfl) (oH hw 8 rfl) (by decide) (by decide)) (g := (mkF m 21 #[.val (.int (Int32.ofNat na)), sI p1, sI p2] [(.int p1)])) rfl (by rw [hml]; rfl) (argsL := [(.int p1)]) (rest := []) (lenOf pd35 rfl) rfl (oW rfl) (hb hby d_method_3_code_21) (fun _ _ => ⟨rfl, e0, (oB rfl : 0 + 2 ≤ _), (oB rfl : 0 + 5 ≤ _)⟩)
        dsimp only [Pt.U, Pt.locs, Pt.cells, Pt.slots] at X1318 l1318 y1318 z1318 st1318 hQ1318
        subst l1318 y1318 z1318
        obtain ⟨x1318, rfl, Nq1318, K1318, Es1318, Fc1318, t1318, k1318, N1318_, Fv1318, A1318, hN1318⟩ := hQ1318
        have N1319 := Fr.app N0 Nq1318
        have P1320 : Rg p e below (T1318.setTop (mkF m 24 #[.val (.int (Int32.ofNat na)), sI p1, sI p2] [(.ref x1318)])) B0 := fun t k => P0 t (by
          refine XS.iloadN X0.here hx rfl (hb hby d_method_3_code_0) rfl ?_
          refine XS.ifYes X0.here hx rfl (pc0 := 1) (pc' := 15) rfl (hb hby d_method_3_code_1) rfl ((if0 _ _).trans (feq (show ¬ ((Int32.ofNat na) = (0 : Int32)) from q1275)).2) (by decide) (by decide) ?_
          refine XS.iloadN X0.here hx rfl (hb hby d_method_3_code_15) rfl ?_
          refine XS.iconst X0.here hx rfl (hb hby d_method_3_code_16) ?_
          refine XS.icmpNo X0.here hx rfl (hb hby d_method_3_code_17) rfl (teq (show (Int32.ofNat na) = (1 : Int32) from q1306)).2 ?_
          refine XS.iloadN X0.here hx rfl (hb hby d_method_3_code_20) rfl ?_
          exact st1318 _ k)
        have Z1321 : n0 ≤ T1318.heap.size := Nat.le_trans Z0 K1318.1
        have K1322 : Keep h0 T1318.heap [] := (Keep.refl h0 []).trans K1318 (all0)
        have O1323 : Old Z n0 T1318.heap := Ol.keep K1318 all0
        have hk1324 : h0.size ≤ T1318.heap.size := Nat.le_trans (Nat.le_refl _) K1318.1
        have C1325 : CHr Z own_EL s.vm h0 s.vm T1318.heap := CHr.keep K1318 sf0 hCH0
        have R1326 : CHr Z own_EL s.vm h0 s.vm T1318.heap := hCR0.trans C1325
        obtain ⟨fs1327, hr1327, hrun1327, hended1327, hRW1327⟩ := X1318.leaveW (v := some (.ref x1318)) hS0 hk1324 (fun h => by rw [Bd.returns] at h; cases h)
        have hce1327 : CHr Z own_EL s.vm s.heap T1318.vm T1318.heap := by
          rw [hh]
          exact R1326.trans (CHv.at X1318 hZ (own_EW hw) C1325.1)
        refine ⟨_, _, pre0 _ (P1320 _ ?_), hrun1327, hended1327, _, _, rfl, ?_, hce1327, ⟨hRW1327.1, hRW1327.2.1, hRW1327.2.2.1, hRW1327.2.2.2.mono (oB rfl) (oB rfl)⟩⟩
        · exact retOut X1318 hx Bd.returns rfl (Or.inr (Or.inr (Or.inr (Or.inr ⟨rfl, rfl, rfl⟩)))) (hb hby d_method_3_code_24) hr1327
        · show Q_mak Z na p1 p2 h0 n0 _ T1318.heap _
          exact ⟨false, x1318, t1318, k1318, N1318_, [p1], rfl, N1319, K1322, Es1318, Fc1318, Fv1318, A1318, hN1318, M9.2.1 q1306, fun _ c hc => by rw [List.mem_singleton] at hc; subst hc; exact ⟨hp1.1, q1307⟩⟩
    · skip
      obtain ⟨T1328, h1328, X1328, e1328, E1328, A1328, D1328, -, st1328⟩ := newO X0 hx hZ hown (oH hw 6 rfl) (oH hw 7 rfl) (oH hw 8 rfl) e0 (g := (mkF m 25 #[.val (.int (Int32.ofNat na)), sI p1, sI p2] [])) rfl (hb hby d_method_3_code_25) (by decide) (by decide)
      obtain ⟨b1328, g1328⟩ : ∃ z, z = h0.size := ⟨_, rfl⟩
      rw [← g1328] at A1328 D1328 st1328
      have g_b1328 : n0 ≤ b1328 := Nat.le_trans Z0 (Nat.le_of_eq g1328.symm)
      have sz_b1328 : h0.size ≤ b1328 := Nat.le_trans (Keep.refl h0 []).1 (Nat.le_of_eq g1328.symm)
      have P1329 : Rg p e below (T1328.setTop (mkF m 28 #[.val (.int (Int32.ofNat na)), sI p1, sI p2] [(.ref b1328)])) B0 := fun t k => P0 t (by
        refine XS.iloadN X0.here hx rfl (hb hby d_method_3_code_0) rfl ?_
        refine XS.ifYes X0.here hx rfl (pc0 := 1) (pc' := 15) rfl (hb hby d_method_3_code_1) rfl ((if0 _ _).trans (feq (show ¬ ((Int32.ofNat na) = (0 : Int32)) from q1275)).2) (by decide) (by decide) ?_
        refine XS.iloadN X0.here hx rfl (hb hby d_method_3_code_15) rfl ?_
        refine XS.iconst X0.here hx rfl (hb hby d_method_3_code_16) ?_
        refine XS.icmpYes X0.here hx rfl (pc0 := 17) (pc' := 25) rfl (hb hby d_method_3_code_17) rfl (feq (show ¬ ((Int32.ofNat na) = (1 : Int32)) from q1306)).2 (by decide) (by decide) ?_
        exact st1328 _ k)
      have Z1330 : n0 ≤ h1328.size := Nat.le_trans Z0 E1328.1
      have K1331 : Keep h0 h1328 [] := (Keep.refl h0 []).ext E1328
      have O1332 : Old Z n0 h1328 := Ol.ext E1328
      have hk1333 : h0.size ≤ h1328.size := Nat.le_trans (Nat.le_refl _) E1328.1
      have C1334 : CHr Z own_EL s.vm h0 s.vm h1328 := CHr.ext E1328 hCH0
      have R1335 : CHr Z own_EL s.vm h0 s.vm h1328 := hCR0.trans C1334
      have sf_b1328 : Safe Z own_EL s.vm h1328 b1328 := Safe.ext E1328 hCH0 (Safe.new (Nat.le_of_eq g1328.symm))
      have f1336 : Fld Z h1328 b1328 nS "coder" "B" (vI 0) := D1328 (Or.inr (oH hw 33 rfl)) (ty := .byte) (by decide)
      have f1337 : Fld Z h1328 b1328 nS "value" "[B" .null := D1328 (Or.inr (oH hw 35 rfl)) (ty := (.array .byte)) (by decide)
      obtain ⟨T1338, h1338, k1338, X1338, e1338, E1338, A1338, st1338⟩ := newP X1328 hx hZ (oH hw 9 rfl) e1328 (g := (mkF m 30 #[.val (.int (Int32.ofNat na)), sI p1, sI p2] [(vI 2), (.ref b1328), (.ref b1328)])) rfl (hb hby d_method_3_code_30) rfl (by decide) (cap := 2) (by decide) (by decide) (by decide) (by decide)
      obtain ⟨b1338, g1338⟩ : ∃ z, z = h1328.size := ⟨_, rfl⟩
      rw [← g1338] at A1338 st1338
      have g_b1338 : n0 ≤ b1338 := Nat.le_trans Z1330 (Nat.le_of_eq g1338.symm)
      have sz_b1338 : h0.size ≤ b1338 := Nat.le_trans K1331.1 (Nat.le_of_eq g1338.symm)
      have P1339 : Rg p e below (T1338.setTop (mkF m 32 #[.val (.int (Int32.ofNat na)), sI p1, sI p2] [(.ref b1338), (.ref b1328), (.ref b1328)])) B0 := fun t k => P1329 t (by
        refine XS.dup X1328.here hx rfl (hb hby d_method_3_code_28) rfl rfl ?_
        refine XS.iconst X1328.here hx rfl (hb hby d_method_3_code_29) ?_
        exact st1338 _ k)
      have Z1340 : n0 ≤ h1338.size := Nat.le_trans Z1330 E1338.1
      have K1341 : Keep h0 h1338 [] := K1331.ext E1338
      have O1342 : Old Z n0 h1338 := O1332.ext E1338
      have hk1343 : h0.size ≤ h1338.size := Nat.le_trans hk1333 E1338.1
      have C1344 : CHr Z own_EL s.vm h1328 s.vm h1338 := CHr.ext E1338 C1334.1
      have R1345 : CHr Z own_EL s.vm h0 s.vm h1338 := R1335.trans C1344
      have v1346 : Arv Z h1338 b1338 k1338 .char (2 : Int32) [(vI 0), (vI 0)] (vI 0) := (Arv.new A1338 (by decide)).pad (pad_rep [] (vI 0) 2)
      obtain ⟨cl1347, Ar1347, q1347, S1347, N1347, H1347, G1347⟩ := id v1346
      obtain ⟨T1347, h1347, X1347, e1347, W1347, st1347⟩ := stC X1338 hx hZ e1338 Ar1347 (j := (0 : Int32)) (inb_of S1347 ⟨by decide, by decide⟩) (g := (mkF m 35 #[.val (.int (Int32.ofNat na)), sI p1, sI p2] [(.int p1), (vI 0), (.ref b1338), (.ref b1338), (.ref b1328), (.ref b1328)])) rfl rfl (hb hby d_method_3_code_35)
      have v1348 : Arv Z h1347 b1338 k1338 .char (2 : Int32) [(.int (nar .char p1)), (vI 0)] (vI 0) := Arv.set Ar1347 q1347 S1347 N1347 H1347 G1347 (fits_nar_char _) W1347 0 rfl (oB rfl)
      have P1349 : Rg p e below (T1347.setTop (mkF m 36 #[.val (.int (Int32.ofNat na)), sI p1, sI p2] [(.ref b1338), (.ref b1328), (.ref b1328)])) B0 := fun t k => P1339 t (by
        refine XS.dup X1338.here hx rfl (hb hby d_method_3_code_32) rfl rfl ?_
        refine XS.iconst X1338.here hx rfl (hb hby d_method_3_code_33) ?_
        refine XS.iloadN X1338.here hx rfl (hb hby d_method_3_code_34) rfl ?_
        exact st1347 _ k)
      have N1350 := Fr.snoc X1347 N0 g_b1338
      have Z1351 : n0 ≤ h1347.size := Nat.le_trans Z1340 (Keep.of_wr W1347).1
      have K1352 : Keep h0 h1347 [] := K1341.wr W1347 (Or.inr sz_b1338)
      have O1353 : Old Z n0 h1347 := O1342.wr W1347 g_b1338
      have hk1354 : h0.size ≤ h1347.size := Nat.le_trans hk1343 (Keep.of_wr W1347).1
      have C1355 : CHr Z own_EL s.vm h1338 s.vm h1347 := CHr.wr W1347 (Safe.arv hZ.alike v1346 (by decide)) C1344.1
      have R1356 : CHr Z own_EL s.vm h0 s.vm h1347 := R1345.trans C1355
      obtain ⟨cl1357, Ar1357, q1357, S1357, N1357, H1357, G1357⟩ := id v1348
      obtain ⟨T1357, h1357, X1357, e1357, W1357, st1357⟩ := stC X1347 hx hZ e1347 Ar1357 (j := (1 : Int32)) (inb_of S1357 ⟨by decide, by decide⟩) (g := (mkF m 39 #[.val (.int (Int32.ofNat na)), sI p1, sI p2] [(.int p2), (vI 1), (.ref b1338), (.ref b1338), (.ref b1328), (.ref b1328)])) rfl rfl (hb hby d_method_3_code_39)
      have v1358 : Arv Z h1357 b1338 k1338 .char (2 : Int32) [(.int (nar .char p1)), (.int (nar .char p2))] (vI 0) := Arv.set Ar1357 q1357 S1357 N1357 H1357 G1357 (fits_nar_char _) W1357 1 rfl (oB rfl)
      have P1359 : Rg p e below (T1357.setTop (mkF m 40 #[.val (.int (Int32.ofNat na)), sI p1, sI p2] [(.ref b1338), (.ref b1328), (.ref b1328)])) B0 := fun t k => P1349 t (by
        refine XS.dup X1347.here hx rfl (hb hby d_method_3_code_36) rfl rfl ?_
        refine XS.iconst X1347.here hx rfl (hb hby d_method_3_code_37) ?_
        refine XS.iloadN X1347.here hx rfl (hb hby d_method_3_code_38) rfl ?_
        exact st1357 _ k)
      have N1360 := Fr.snoc X1357 N1350 g_b1338
      have Z1361 : n0 ≤ h1357.size := Nat.le_trans Z1351 (Keep.of_wr W1357).1
      have K1362 : Keep h0 h1357 [] := K1352.wr W1357 (Or.inr sz_b1338)
      have O1363 : Old Z n0 h1357 := O1353.wr W1357 g_b1338
      have hk1364 : h0.size ≤ h1357.size := Nat.le_trans hk1354 (Keep.of_wr W1357).1
      have C1365 : CHr Z own_EL s.vm h1347 s.vm h1357 := CHr.wr W1357 (Safe.arv hZ.alike v1348 (by decide)) C1355.1
      have R1366 : CHr Z own_EL s.vm h0 s.vm h1357 := R1356.trans C1365
      have A9 : Arv Z h1357 b1338 k1338 .char (2 : Int32) [(.int p1), (.int p2)] (vI 0) := by
        have q9 := v1358
        rw [own_nar hp1, own_nar hp2] at q9
        exact q9
      by_cases q1367 : (255 : Int32) < p1
      · skip
        have f1368 := (((A1328.ext E1338).wr W1347).wr W1357)
        have f1369 := (((f1337.ext E1338).other W1347 (Or.inl (Nat.ne_of_lt (Nat.lt_of_lt_of_le f1337.lt (Nat.le_of_eq g1338.symm))))).other W1357 (Or.inl (Nat.ne_of_lt (Nat.lt_of_lt_of_le f1337.lt (Nat.le_of_eq g1338.symm)))))
        have f1370 := (((f1336.ext E1338).other W1347 (Or.inl (Nat.ne_of_lt (Nat.lt_of_lt_of_le f1337.lt (Nat.le_of_eq g1338.symm))))).other W1357 (Or.inl (Nat.ne_of_lt (Nat.lt_of_lt_of_le f1337.lt (Nat.le_of_eq g1338.symm)))))
        obtain ⟨_, _, ⟨T1371, L1371, k1371, n1371⟩, -, X1371, ⟨Lc1371, hQ1371, l1371, y1371, z1371⟩, st1371⟩ := X1357.specialBack hx (y := y_45) rfl hown (mvT hZ (oH hw 10 rfl)) (mvT hZ (oH hw 11 rfl)) (mvT hZ (oH hw 12 rfl)) (by decide) (backOf (W := 1) (rm_in11 l Z a0 hw [] b1328 b1338 k1338 p1 p2 G1 G2 h1357 n0 Z1361 g_b1328 f1368 f1369 f1370 A9 (fun z => absurd q1367 z) hp1 hp2 Sg P5 Sf hG2 Sa Sh Sl O1363) hZ (oH hw 12 rfl) (oH hw 8 rfl) (by decide) (by decide)) (g := (mkF m 40 #[.val (.int (Int32.ofNat na)), sI p1, sI p2] [(.ref b1338), (.ref b1328), (.ref b1328)])) rfl (by rw [hml]; rfl) (Steps.refl _) (a := b1328) (argsL := [(.ref b1338)]) (rest := [(.ref b1328)]) (lenOf pd34 rfl) rfl (oW rfl) (hb hby d_method_3_code_40) (fun _ _ => ⟨rfl, e1357, (oB rfl : 2 + 2 ≤ _), (oB rfl : 6 + 6 ≤ _)⟩)
        dsimp only [Pt.U, Pt.locs, Pt.cells, Pt.slots] at X1371 l1371 y1371 z1371 st1371 hQ1371
        subst l1371 y1371 z1371
        obtain ⟨rfl, Nq1371, K1371, Es1371, Fc1371, t1371, k1371, N1371_, Fv1371, A1371, hN1371⟩ := hQ1371
        have N1372 := Fr.app N1360 Nq1371
        have P1373 : Rg p e below (T1371.setTop (mkF m 43 #[.val (.int (Int32.ofNat na)), sI p1, sI p2] [(.ref b1328)])) B0 := fun t k => P1359 t (by
          exact st1371.trans k)
        have Z1374 : n0 ≤ T1371.heap.size := Nat.le_trans Z1361 K1371.1
        have K1375 : Keep h0 T1371.heap [] := K1362.trans K1371 ((allS (Or.inr sz_b1328) all0))
        have O1376 : Old Z n0 T1371.heap := O1363.keep K1371 (allS g_b1328 all0)
        have hk1377 : h0.size ≤ T1371.heap.size := Nat.le_trans hk1364 K1371.1
        have C1378 : CHr Z own_EL s.vm h1357 s.vm T1371.heap := CHr.keep K1371 (sfS (CHr.safe ((C1344.trans C1355).trans C1365) A1328.lt sf_b1328) sf0) C1365.1
        have R1379 : CHr Z own_EL s.vm h0 s.vm T1371.heap := R1366.trans C1378
        obtain ⟨fs1380, hr1380, hrun1380, hended1380, hRW1380⟩ := X1371.leaveW (v := some (.ref b1328)) hS0 hk1377 (fun h => by rw [Bd.returns] at h; cases h)
        have hce1380 : CHr Z own_EL s.vm s.heap T1371.vm T1371.heap := by
          rw [hh]
          exact R1379.trans (CHv.at X1371 hZ (own_EW hw) C1378.1)
        refine ⟨_, _, pre0 _ (P1373 _ ?_), hrun1380, hended1380, _, _, rfl, ?_, hce1380, ⟨hRW1380.1, hRW1380.2.1, hRW1380.2.2.1, hRW1380.2.2.2.mono (oB rfl) (oB rfl)⟩⟩
        · exact retOut X1371 hx Bd.returns rfl (Or.inr (Or.inr (Or.inr (Or.inr ⟨rfl, rfl, rfl⟩)))) (hb hby d_method_3_code_43) hr1380
        · show Q_mak Z na p1 p2 h0 n0 _ T1371.heap _
          exact ⟨true, b1328, t1371, k1371, N1371_, [p1, p2], rfl, N1372, K1375, Es1371, Fc1371, Fv1371, A1371, hN1371, M9.2.2 q1275 q1306, fun z => nomatch z⟩
      · skip
        by_cases q1381 : (255 : Int32) < p2
        · skip
          have f1382 := (((A1328.ext E1338).wr W1347).wr W1357)
          have f1383 := (((f1337.ext E1338).other W1347 (Or.inl (Nat.ne_of_lt (Nat.lt_of_lt_of_le f1337.lt (Nat.le_of_eq g1338.symm))))).other W1357 (Or.inl (Nat.ne_of_lt (Nat.lt_of_lt_of_le f1337.lt (Nat.le_of_eq g1338.symm)))))
          have f1384 := (((f1336.ext E1338).other W1347 (Or.inl (Nat.ne_of_lt (Nat.lt_of_lt_of_le f1337.lt (Nat.le_of_eq g1338.symm))))).other W1357 (Or.inl (Nat.ne_of_lt (Nat.lt_of_lt_of_le f1337.lt (Nat.le_of_eq g1338.symm)))))
          obtain ⟨_, _, ⟨T1385, L1385, k1385, n1385⟩, -, X1385, ⟨Lc1385, hQ1385, l1385, y1385, z1385⟩, st1385⟩ := X1357.specialBack hx (y := y_45) rfl hown (mvT hZ (oH hw 10 rfl)) (mvT hZ (oH hw 11 rfl)) (mvT hZ (oH hw 12 rfl)) (by decide) (backOf (W := 1) (rm_in11 l Z a0 hw [] b1328 b1338 k1338 p1 p2 G1 G2 h1357 n0 Z1361 g_b1328 f1382 f1383 f1384 A9 (fun _ => q1381) hp1 hp2 Sg P5 Sf hG2 Sa Sh Sl O1363) hZ (oH hw 12 rfl) (oH hw 8 rfl) (by decide) (by decide)) (g := (mkF m 40 #[.val (.int (Int32.ofNat na)), sI p1, sI p2] [(.ref b1338), (.ref b1328), (.ref b1328)])) rfl (by rw [hml]; rfl) (Steps.refl _) (a := b1328) (argsL := [(.ref b1338)]) (rest := [(.ref b1328)]) (lenOf pd34 rfl) rfl (oW rfl) (hb hby d_method_3_code_40) (fun _ _ => ⟨rfl, e1357, (oB rfl : 2 + 2 ≤ _), (oB rfl : 6 + 6 ≤ _)⟩)
          dsimp only [Pt.U, Pt.locs, Pt.cells, Pt.slots] at X1385 l1385 y1385 z1385 st1385 hQ1385
          subst l1385 y1385 z1385
          obtain ⟨rfl, Nq1385, K1385, Es1385, Fc1385, t1385, k1385, N1385_, Fv1385, A1385, hN1385⟩ := hQ1385
          have N1386 := Fr.app N1360 Nq1385
          have P1387 : Rg p e below (T1385.setTop (mkF m 43 #[.val (.int (Int32.ofNat na)), sI p1, sI p2] [(.ref b1328)])) B0 := fun t k => P1359 t (by
            exact st1385.trans k)
          have Z1388 : n0 ≤ T1385.heap.size := Nat.le_trans Z1361 K1385.1
          have K1389 : Keep h0 T1385.heap [] := K1362.trans K1385 ((allS (Or.inr sz_b1328) all0))
          have O1390 : Old Z n0 T1385.heap := O1363.keep K1385 (allS g_b1328 all0)
          have hk1391 : h0.size ≤ T1385.heap.size := Nat.le_trans hk1364 K1385.1
          have C1392 : CHr Z own_EL s.vm h1357 s.vm T1385.heap := CHr.keep K1385 (sfS (CHr.safe ((C1344.trans C1355).trans C1365) A1328.lt sf_b1328) sf0) C1365.1
          have R1393 : CHr Z own_EL s.vm h0 s.vm T1385.heap := R1366.trans C1392
          obtain ⟨fs1394, hr1394, hrun1394, hended1394, hRW1394⟩ := X1385.leaveW (v := some (.ref b1328)) hS0 hk1391 (fun h => by rw [Bd.returns] at h; cases h)
          have hce1394 : CHr Z own_EL s.vm s.heap T1385.vm T1385.heap := by
            rw [hh]
            exact R1393.trans (CHv.at X1385 hZ (own_EW hw) C1392.1)
          refine ⟨_, _, pre0 _ (P1387 _ ?_), hrun1394, hended1394, _, _, rfl, ?_, hce1394, ⟨hRW1394.1, hRW1394.2.1, hRW1394.2.2.1, hRW1394.2.2.2.mono (oB rfl) (oB rfl)⟩⟩
          · exact retOut X1385 hx Bd.returns rfl (Or.inr (Or.inr (Or.inr (Or.inr ⟨rfl, rfl, rfl⟩)))) (hb hby d_method_3_code_43) hr1394
          · show Q_mak Z na p1 p2 h0 n0 _ T1385.heap _
            exact ⟨true, b1328, t1385, k1385, N1385_, [p1, p2], rfl, N1386, K1389, Es1385, Fc1385, Fv1385, A1385, hN1385, M9.2.2 q1275 q1306, fun z => nomatch z⟩
        · skip
          have f1395 := (((A1328.ext E1338).wr W1347).wr W1357)
          have f1396 := (((f1337.ext E1338).other W1347 (Or.inl (Nat.ne_of_lt (Nat.lt_of_lt_of_le f1337.lt (Nat.le_of_eq g1338.symm))))).other W1357 (Or.inl (Nat.ne_of_lt (Nat.lt_of_lt_of_le f1337.lt (Nat.le_of_eq g1338.symm)))))
          have f1397 := (((f1336.ext E1338).other W1347 (Or.inl (Nat.ne_of_lt (Nat.lt_of_lt_of_le f1337.lt (Nat.le_of_eq g1338.symm))))).other W1357 (Or.inl (Nat.ne_of_lt (Nat.lt_of_lt_of_le f1337.lt (Nat.le_of_eq g1338.symm)))))
          obtain ⟨_, _, ⟨T1398, L1398, k1398, n1398⟩, -, X1398, ⟨Lc1398, hQ1398, l1398, y1398, z1398⟩, st1398⟩ := X1357.specialBack hx (y := y_45) rfl hown (mvT hZ (oH hw 10 rfl)) (mvT hZ (oH hw 11 rfl)) (mvT hZ (oH hw 12 rfl)) (by decide) (backOf (W := 1) (rm_in10 l Z a0 hw [] b1328 b1338 k1338 p1 p2 G1 G2 h1357 n0 Z1361 g_b1328 f1395 f1396 f1397 A9 q1367 q1381 hp1 hp2 Sg P5 Sf hG2 Sa Sh Sl O1363) hZ (oH hw 12 rfl) (oH hw 8 rfl) (by decide) (by decide)) (g := (mkF m 40 #[.val (.int (Int32.ofNat na)), sI p1, sI p2] [(.ref b1338), (.ref b1328), (.ref b1328)])) rfl (by rw [hml]; rfl) (Steps.refl _) (a := b1328) (argsL := [(.ref b1338)]) (rest := [(.ref b1328)]) (lenOf pd34 rfl) rfl (oW rfl) (hb hby d_method_3_code_40) (fun _ _ => ⟨rfl, e1357, (oB rfl : 2 + 1 ≤ _), (oB rfl : 6 + 2 ≤ _)⟩)
          dsimp only [Pt.U, Pt.locs, Pt.cells, Pt.slots] at X1398 l1398 y1398 z1398 st1398 hQ1398
          subst l1398 y1398 z1398
          obtain ⟨rfl, Nq1398, K1398, Es1398, Fc1398, t1398, k1398, N1398_, Fv1398, A1398, hN1398⟩ := hQ1398
          have N1399 := Fr.app N1360 Nq1398
          have P1400 : Rg p e below (T1398.setTop (mkF m 43 #[.val (.int (Int32.ofNat na)), sI p1, sI p2] [(.ref b1328)])) B0 := fun t k => P1359 t (by
            exact st1398.trans k)
          have Z1401 : n0 ≤ T1398.heap.size := Nat.le_trans Z1361 K1398.1
          have K1402 : Keep h0 T1398.heap [] := K1362.trans K1398 ((allS (Or.inr sz_b1328) all0))
          have O1403 : Old Z n0 T1398.heap := O1363.keep K1398 (allS g_b1328 all0)
          have hk1404 : h0.size ≤ T1398.heap.size := Nat.le_trans hk1364 K1398.1
          have C1405 : CHr Z own_EL s.vm h1357 s.vm T1398.heap := CHr.keep K1398 (sfS (CHr.safe ((C1344.trans C1355).trans C1365) A1328.lt sf_b1328) sf0) C1365.1
          have R1406 : CHr Z own_EL s.vm h0 s.vm T1398.heap := R1366.trans C1405
          obtain ⟨fs1407, hr1407, hrun1407, hended1407, hRW1407⟩ := X1398.leaveW (v := some (.ref b1328)) hS0 hk1404 (fun h => by rw [Bd.returns] at h; cases h)
          have hce1407 : CHr Z own_EL s.vm s.heap T1398.vm T1398.heap := by
            rw [hh]
            exact R1406.trans (CHv.at X1398 hZ (own_EW hw) C1405.1)
          refine ⟨_, _, pre0 _ (P1400 _ ?_), hrun1407, hended1407, _, _, rfl, ?_, hce1407, ⟨hRW1407.1, hRW1407.2.1, hRW1407.2.2.1, hRW1407.2.2.2.mono (oB rfl) (oB rfl)⟩⟩
          · exact retOut X1398 hx Bd.returns rfl (Or.inr (Or.inr (Or.inr (Or.inr ⟨rfl, rfl, rfl⟩)))) (hb hby d_method_3_code_43) hr1407
          · show Q_mak Z na p1 p2 h0 n0 _ T1398.heap _
            exact ⟨false, b1328, t1398, k1398, N1398_, [p1, p2], rfl, N1399, K1402, Es1398, Fc1398, Fv1398, A1398, hN1398, M9.2.2 q1275 q1306, fun _ c hc => by simp only [List.mem_cons, List.not_mem_nil, or_false] at hc; rcases hc with rfl | rfl; exact ⟨hp1.1, q1367⟩; exact ⟨hp2.1, q1381⟩⟩
theorem dj31_10_0 : decode j31_10 0 = .ok (.aload_n 0, 1) := by decide +kernel
theorem dj31_10_1 : decode j31_10 1 = .ok (.ifnonnull 11, 3) := by decide +kernel
theorem dj31_10_12 : decode j31_10 12 = .ok (.aload_n 0, 1) := by decide +kernel
theorem dj31_10_13 : decode j31_10 13 = .ok (.areturn, 1) := by decide +kernel
theorem pn_java_util_Objects : plainName "java/util/Objects" = true := by first | (simp [plainName, overriddenIn]; done) | decide +kernel
theorem ef_rnn (m : MethodId) (x0 : Addr) : entryFrame m #[(.ref x0)] 1 = mkF m 0 #[sR x0] [] := by (first | (simp [entryFrame, mkF, argsToLocals, Value.category]; done) | rfl)
def Q_rnn (a1 : Addr) (h0 : Heap) (n0 : Nat) (v : Option Value) (h : Heap) (L : List Loc) : Prop := v = some (.ref a1) ∧ Fr n0 L ∧ h = h0
theorem rm_rnn (l : Launch) (Z : State) (a0 : Array Value) (hw : Tb a0 Z) (ws : List Jvm.Cond) (a1 : Addr) (h0 : Heap) (n0 : Nat) (Z0 : n0 ≤ h0.size)  :
    MF l Z h0 y_52 j31_10 1 (some (.object "java/lang/Object")) ws (rM 0 0 0 0) #[(.ref a1)] (Q_rnn a1 h0 n0) := by
  refine MetFree.of_bodySF (plainFor_of_name pn_java_util_Objects) hisR ?_
  intro p e s m args below meth c s₁ Bd hml hP hK
  obtain ⟨rfl, hZ, hh⟩ := hP
  have hx := Bd.exec
  have hby := Bd.bytes
  have hown : s.vm.findClass "java/util/Objects" = some m.cls := findClass_of_methodNamed Bd.named
  have X0 : Stand p l e (rM 0 0 0 0) s m #[(.ref a1)] below meth c s₁ [] 0 0 := Stand.of_body Bd
  have e0 : s₁.heap = h0 := by rw [← hh, Bd.state]; rfl
  have N0 := Fr.nil n0
  obtain ⟨B0, pre0, P0⟩ : ∃ B, Rg p e below B (s₁.setTop (entryFrame m #[(.ref a1)] 1)) ∧ Rg p e below (s₁.setTop (mkF m 0 #[sR a1] [])) B := ⟨_, fun t k => castTop (ef_rnn m a1) k, fun t k => k⟩
  obtain ⟨fs1408, hr1408, hrun1408, hended1408, hW1408, hsame1408⟩ := X0.leave (v := some (.ref a1)) (fun h => by rw [Bd.returns] at h; cases h)
  refine ⟨_, _, pre0 _ (P0 _ ?_), hrun1408, hended1408, _, _, rfl, ?_, ⟨⟨_, rfl⟩, hW1408, hsame1408.mono (oB rfl) (oB rfl)⟩⟩
  · refine XS.aloadN X0.here hx rfl (hb hby dj31_10_0) rfl rfl ?_
    show Sq p e below (s₁.setTop (mkF m 1 #[sR a1] [(.ref a1)])) _
    refine XS.ifnonnullYes X0.here hx rfl (pc0 := 1) (pc' := 12) rfl (hb hby dj31_10_1) rfl (by decide) (by decide) ?_
    refine XS.aloadN X0.here hx rfl (hb hby dj31_10_12) rfl rfl ?_
    exact retOut X0 hx Bd.returns rfl (Or.inr (Or.inr (Or.inr (Or.inr ⟨rfl, rfl, rfl⟩)))) (hb hby dj31_10_13) hr1408
  · show Q_rnn a1 h0 n0 _ s₁.heap _
    rw [e0]
    exact ⟨rfl, N0, rfl⟩
theorem dp7_1_0 : decode p7_1 0 = .ok (.aload_n 0, 1) := by decide +kernel
theorem dp7_1_1 : decode p7_1 1 = .ok (.invokespecial 1, 3) := by decide +kernel
theorem dp7_1_4 : decode p7_1 4 = .ok (.aload_n 0, 1) := by decide +kernel
theorem dp7_1_5 : decode p7_1 5 = .ok (.aload_n 1, 1) := by decide +kernel
theorem dp7_1_6 : decode p7_1 6 = .ok (.invokestatic 7, 3) := by decide +kernel
theorem pd36 : parseMethodDescriptor "(Ljava/lang/Object;)Ljava/lang/Object;" = some ⟨[(.object "java/lang/Object")], some (.object "java/lang/Object")⟩ := by decide +kernel
theorem dp7_1_9 : decode p7_1 9 = .ok (.checkcast 13, 3) := by decide +kernel
theorem dp7_1_12 : decode p7_1 12 = .ok (.putfield 15, 3) := by decide +kernel
theorem dp7_1_15 : decode p7_1 15 = .ok (.aload_n 0, 1) := by decide +kernel
theorem dp7_1_16 : decode p7_1 16 = .ok (.aload_n 2, 1) := by decide +kernel
theorem dp7_1_17 : decode p7_1 17 = .ok (.invokestatic 7, 3) := by decide +kernel
theorem dp7_1_20 : decode p7_1 20 = .ok (.checkcast 13, 3) := by decide +kernel
theorem dp7_1_23 : decode p7_1 23 = .ok (.putfield 21, 3) := by decide +kernel
theorem dp7_1_26 : decode p7_1 26 = .ok (.return_, 1) := by decide +kernel
theorem pn_com_example_tallyline_tallyline_core_FieldError : plainName "com/example/tallyline/tallyline/core/FieldError" = true := by first | (simp [plainName, overriddenIn]; done) | decide +kernel
theorem ef_fei (m : MethodId) (x0 : Addr) (x1 : Addr) (x2 : Addr) : entryFrame m #[(.ref x0), (.ref x1), (.ref x2)] 3 = mkF m 0 #[sR x0, sR x1, sR x2] [] := by (first | (simp [entryFrame, mkF, argsToLocals, Value.category]; done) | rfl)
def Q_fei (Z : State) (a1 c1 c2 : Addr) (h0 : Heap) (n0 : Nat) (v : Option Value) (h : Heap) (L : List Loc) : Prop := v = none ∧ Fr n0 L ∧ Keep h0 h [a1] ∧ Exa Z h a1 "com/example/tallyline/tallyline/core/FieldError" ∧ Fld Z h a1 "com/example/tallyline/tallyline/core/FieldError" "field" "Ljava/lang/String;" (.ref c1) ∧ Fld Z h a1 "com/example/tallyline/tallyline/core/FieldError" "message" "Ljava/lang/String;" (.ref c2)
theorem rm_fei (l : Launch) (Z : State) (a0 : Array Value) (hw : Tb a0 Z) (ws : List Jvm.Cond) (a1 c1 c2 : Addr) (h0 : Heap) (n0 : Nat) (Z0 : n0 ≤ h0.size) (g_a1 : n0 ≤ a1) (E_a1 : Exa Z h0 a1 "com/example/tallyline/tallyline/core/FieldError") (E_c1 : Exa Z h0 c1 nS) (E_c2 : Exa Z h0 c2 nS) (F_field : Fld Z h0 a1 "com/example/tallyline/tallyline/core/FieldError" "field" "Ljava/lang/String;" .null) (F_message : Fld Z h0 a1 "com/example/tallyline/tallyline/core/FieldError" "message" "Ljava/lang/String;" .null) :
    MF l Z h0 y_53 p7_1 3 none ws (rM 1 0 0 13) #[(.ref a1), (.ref c1), (.ref c2)] (Q_fei Z a1 c1 c2 h0 n0) := by
  refine MetFree.of_bodySF (plainFor_of_name pn_com_example_tallyline_tallyline_core_FieldError) hisR ?_
  intro p e s m args below meth c s₁ Bd hml hP hK
  obtain ⟨rfl, hZ, hh⟩ := hP
  have hx := Bd.exec
  have hby := Bd.bytes
  have hown : s.vm.findClass "com/example/tallyline/tallyline/core/FieldError" = some m.cls := findClass_of_methodNamed Bd.named
  have hnm := (name_of_methodNamed Bd.named Bd.method).1
  have X0 : Stand p l e (rM 1 0 0 13) s m #[(.ref a1), (.ref c1), (.ref c2)] below meth c s₁ [] 0 0 := Stand.of_body Bd
  have e0 : s₁.heap = h0 := by rw [← hh, Bd.state]; rfl
  have N0 := Fr.nil n0
  obtain ⟨B0, pre0, P0⟩ : ∃ B, Rg p e below B (s₁.setTop (entryFrame m #[(.ref a1), (.ref c1), (.ref c2)] 3)) ∧ Rg p e below (s₁.setTop (mkF m 0 #[sR a1, sR c1, sR c2] [])) B := ⟨_, fun t k => castTop (ef_fei m a1 c1 c2) k, fun t k => k⟩
  obtain ⟨T1409, X1409, e1409, st1409⟩ := initO X0 hx hZ hown (oH hw 45 rfl) (oH hw 18 rfl) (oH hw 19 rfl) e0 (g := (mkF m 1 #[sR a1, sR c1, sR c2] [(.ref a1)])) rfl (by rw [hml]; rfl) rfl (hb hby dp7_1_1) (by decide) (W := 0) (oW rfl) (by decide)
  have P1410 : Rg p e below (T1409.setTop (mkF m 4 #[sR a1, sR c1, sR c2] [])) B0 := fun t k => P0 t (by
    refine XS.aloadN X0.here hx rfl (hb hby dp7_1_0) rfl rfl ?_
    exact st1409 _ k)
  obtain ⟨_, _, ⟨T1411, L1411, k1411, n1411⟩, -, X1411, ⟨Lc1411, hQ1411, l1411, y1411, z1411⟩, st1411⟩ := Jvm.LawKit.callS X1409 hx (y := y_52) hown (mvT hZ (oH hw 46 rfl)) (mvT hZ (oH hw 47 rfl)) (mvT hZ (oH hw 48 rfl)) (mvT hZ (oH hw 49 rfl)) (by decide) (backOf (W := 1) (rm_rnn l Z a0 hw [] c1 h0 n0 Z0 ) hZ (oH hw 49 rfl) (oH hw 48 rfl) (by decide) (by decide)) (g := (mkF m 6 #[sR a1, sR c1, sR c2] [(.ref c1), (.ref a1)])) rfl (by rw [hml]; rfl) (argsL := [(.ref c1)]) (rest := [(.ref a1)]) (lenOf pd36 rfl) rfl (oW rfl) (hb hby dp7_1_6) (fun _ _ => ⟨rfl, e1409, (oB rfl : 0 + 0 ≤ _), (oB rfl : 0 + 0 ≤ _)⟩)
  dsimp only [Pt.U, Pt.locs, Pt.cells, Pt.slots] at X1411 l1411 y1411 z1411 st1411 hQ1411
  subst l1411 y1411 z1411
  obtain ⟨rfl, Nq1411, e1411⟩ := hQ1411
  have N1412 := Fr.app N0 Nq1411
  have P1413 : Rg p e below (T1411.setTop (mkF m 9 #[sR a1, sR c1, sR c2] [(.ref c1), (.ref a1)])) B0 := fun t k => P1410 t (by
    refine XS.aloadN X1409.here hx rfl (hb hby dp7_1_4) rfl rfl ?_
    refine XS.aloadN X1409.here hx rfl (hb hby dp7_1_5) rfl rfl ?_
    exact st1411 _ k)
  obtain ⟨T1414, X1414, e1414, st1414⟩ := castY X1411 hx hZ hown (oH hw 50 rfl) e1411 (Ins.self E_c1) (g := (mkF m 9 #[sR a1, sR c1, sR c2] [(.ref c1), (.ref a1)])) rfl rfl (hb hby dp7_1_9)
  have P1415 : Rg p e below (T1414.setTop (mkF m 12 #[sR a1, sR c1, sR c2] [(.ref c1), (.ref a1)])) B0 := fun t k => P1413 t (by
    exact st1414 _ k)
  obtain ⟨T1416, h1416, X1416, e1416, W1416, st1416⟩ := putF X1414 hx hZ hown (host := "") (Or.inl (oH hw 51 rfl)) Via.refl e1414 F_field E_a1 (Or.inr ⟨(oH hw 52 rfl), rfl, hnm⟩) (oH hw 40 rfl) (ty := (.object nS)) (by decide) rfl rfl (g := (mkF m 12 #[sR a1, sR c1, sR c2] [(.ref c1), (.ref a1)])) rfl rfl (hb hby dp7_1_12)
  have P1417 : Rg p e below (T1416.setTop (mkF m 15 #[sR a1, sR c1, sR c2] [])) B0 := fun t k => P1415 t (by
    exact st1416 _ k)
  have f1418 := F_field.same W1416
  have N1419 := Fr.snoc X1416 N1412 g_a1
  have Z1420 : n0 ≤ h1416.size := Nat.le_trans Z0 (Keep.of_wr W1416).1
  have K1421 : Keep h0 h1416 [a1] := (Keep.refl h0 [a1]).wr W1416 (Or.inl (List.mem_of_getElem? (i := 0) rfl))
  obtain ⟨_, _, ⟨T1422, L1422, k1422, n1422⟩, -, X1422, ⟨Lc1422, hQ1422, l1422, y1422, z1422⟩, st1422⟩ := Jvm.LawKit.callS X1416 hx (y := y_52) hown (mvT hZ (oH hw 46 rfl)) (mvT hZ (oH hw 47 rfl)) (mvT hZ (oH hw 48 rfl)) (mvT hZ (oH hw 49 rfl)) (by decide) (backOf (W := 1) (rm_rnn l Z a0 hw [] c2 h1416 n0 Z1420 ) hZ (oH hw 49 rfl) (oH hw 48 rfl) (by decide) (by decide)) (g := (mkF m 17 #[sR a1, sR c1, sR c2] [(.ref c2), (.ref a1)])) rfl (by rw [hml]; rfl) (argsL := [(.ref c2)]) (rest := [(.ref a1)]) (lenOf pd36 rfl) rfl (oW rfl) (hb hby dp7_1_17) (fun _ _ => ⟨rfl, e1416, (oB rfl : 0 + 0 ≤ _), (oB rfl : 0 + 0 ≤ _)⟩)
  dsimp only [Pt.U, Pt.locs, Pt.cells, Pt.slots] at X1422 l1422 y1422 z1422 st1422 hQ1422
  subst l1422 y1422 z1422
  obtain ⟨rfl, Nq1422, e1422⟩ := hQ1422
  have N1423 := Fr.app N1419 Nq1422
  have P1424 : Rg p e below (T1422.setTop (mkF m 20 #[sR a1, sR c1, sR c2] [(.ref c2), (.ref a1)])) B0 := fun t k => P1417 t (by
    refine XS.aloadN X1416.here hx rfl (hb hby dp7_1_15) rfl rfl ?_
    refine XS.aloadN X1416.here hx rfl (hb hby dp7_1_16) rfl rfl ?_
    exact st1422 _ k)
  have f1425 := (E_c2.wr W1416)
  obtain ⟨T1426, X1426, e1426, st1426⟩ := castY X1422 hx hZ hown (oH hw 50 rfl) e1422 (Ins.self f1425) (g := (mkF m 20 #[sR a1, sR c1, sR c2] [(.ref c2), (.ref a1)])) rfl rfl (hb hby dp7_1_20)
  have P1427 : Rg p e below (T1426.setTop (mkF m 23 #[sR a1, sR c1, sR c2] [(.ref c2), (.ref a1)])) B0 := fun t k => P1424 t (by
    exact st1426 _ k)
  have f1428 := (F_message.other W1416 (Or.inr (slot_ne (Or.inr (oH hw 54 rfl)) (Or.inr (oH hw 52 rfl)) (by decide) (t := (.object nS)) (t' := (.object nS)) (by decide) (by decide))))
  have f1429 := (E_a1.wr W1416)
  obtain ⟨T1430, h1430, X1430, e1430, W1430, st1430⟩ := putF X1426 hx hZ hown (host := "") (Or.inl (oH hw 53 rfl)) Via.refl e1426 f1428 f1429 (Or.inr ⟨(oH hw 54 rfl), rfl, hnm⟩) (oH hw 40 rfl) (ty := (.object nS)) (by decide) rfl rfl (g := (mkF m 23 #[sR a1, sR c1, sR c2] [(.ref c2), (.ref a1)])) rfl rfl (hb hby dp7_1_23)
  have P1431 : Rg p e below (T1430.setTop (mkF m 26 #[sR a1, sR c1, sR c2] [])) B0 := fun t k => P1427 t (by
    exact st1430 _ k)
  have f1432 := f1428.same W1430
  have N1433 := Fr.snoc X1430 N1423 g_a1
  have Z1434 : n0 ≤ h1430.size := Nat.le_trans Z1420 (Keep.of_wr W1430).1
  have K1435 : Keep h0 h1430 [a1] := K1421.wr W1430 (Or.inl (List.mem_of_getElem? (i := 0) rfl))
  have f1436 := (f1429.wr W1430)
  have f1437 := (f1418.other W1430 (Or.inr (slot_ne (Or.inr (oH hw 52 rfl)) (Or.inr (oH hw 54 rfl)) (by decide) (t := (.object nS)) (t' := (.object nS)) (by decide) (by decide))))
  obtain ⟨fs1438, hr1438, hrun1438, hended1438, hW1438, hsame1438⟩ := X1430.leave (v := none) (fun _ => rfl)
  refine ⟨_, _, pre0 _ (P1431 _ ?_), hrun1438, hended1438, _, _, rfl, ?_, ⟨⟨_, rfl⟩, hW1438, hsame1438.mono (oB rfl) (oB rfl)⟩⟩
  · exact X1430.returnOut hx Bd.returns (hb hby dp7_1_26) hr1438
  · show Q_fei Z a1 c1 c2 h0 n0 _ T1430.heap _
    rw [e1430]
    exact ⟨rfl, N1433, K1435, f1436, f1437, f1432⟩
theorem dp7_4_0 : decode p7_4 0 = .ok (.new 24, 3) := by decide +kernel
theorem dp7_4_3 : decode p7_4 3 = .ok (.dup, 1) := by decide +kernel
theorem dp7_4_4 : decode p7_4 4 = .ok (.invokespecial 26, 3) := by decide +kernel
theorem dp7_4_7 : decode p7_4 7 = .ok (.aload_n 0, 1) := by decide +kernel
theorem dp7_4_8 : decode p7_4 8 = .ok (.getfield 15, 3) := by decide +kernel
theorem dp7_4_11 : decode p7_4 11 = .ok (.invokevirtual 27, 3) := by decide +kernel
theorem pd37 : parseMethodDescriptor "(Ljava/lang/String;)Ljava/lang/StringBuilder;" = some ⟨[(.object nS)], some (.object nB)⟩ := by decide +kernel
theorem dp7_4_14 : decode p7_4 14 = .ok (.ldc 31, 2) := by decide +kernel
theorem dp7_4_16 : decode p7_4 16 = .ok (.invokevirtual 27, 3) := by decide +kernel
theorem dp7_4_19 : decode p7_4 19 = .ok (.aload_n 0, 1) := by decide +kernel
theorem dp7_4_20 : decode p7_4 20 = .ok (.getfield 21, 3) := by decide +kernel
theorem dp7_4_23 : decode p7_4 23 = .ok (.invokevirtual 27, 3) := by decide +kernel
theorem dp7_4_26 : decode p7_4 26 = .ok (.invokevirtual 33, 3) := by decide +kernel
theorem pd38 : parseMethodDescriptor "()Ljava/lang/String;" = some ⟨[], some (.object nS)⟩ := by decide +kernel
theorem dp7_4_29 : decode p7_4 29 = .ok (.areturn, 1) := by decide +kernel
theorem ef_tos00 (m : MethodId) (x0 : Addr) : entryFrame m #[(.ref x0)] 1 = mkF m 0 #[sR x0] [] := by (first | (simp [entryFrame, mkF, argsToLocals, Value.category]; done) | rfl)
def Q_tos00 (Z : State) (cf cm : List Int32) (h0 : Heap) (n0 : Nat) (v : Option Value) (h : Heap) (L : List Loc) : Prop := ∃ s : Addr, v = some (.ref s) ∧ Fr n0 L ∧ Keep h0 h [] ∧ Exa Z h s nS ∧ Fld Z h s nS "coder" "B" (.int (own_co false)) ∧ ∃ (t : Addr) (k : ClassId) (N : Int32), Fld Z h s nS "value" "[B" (.ref t) ∧ Arv Z h t k .byte N ((own_by false (((([] : List Int32) ++ cf) ++ [(58 : Int32), (32 : Int32)]) ++ cm)).map Value.int) (vI 0) ∧ N = Int32.ofNat (own_by false (((([] : List Int32) ++ cf) ++ [(58 : Int32), (32 : Int32)]) ++ cm)).length
theorem rm_tos00 (l : Launch) (Z : State) (a0 : Array Value) (hw : Tb a0 Z) (ws : List Jvm.Cond) (e1 sf tf : Addr) (kf : ClassId) (Nf : Int32) (cf : List Int32) (sm tm : Addr) (km : ClassId) (Nm : Int32) (cm : List Int32) (G1 : Int32) (G2 : Value) (h0 : Heap) (n0 : Nat) (Z0 : n0 ≤ h0.size) (F_field : Fld Z h0 e1 "com/example/tallyline/tallyline/core/FieldError" "field" "Ljava/lang/String;" (.ref sf)) (F_message : Fld Z h0 e1 "com/example/tallyline/tallyline/core/FieldError" "message" "Ljava/lang/String;" (.ref sm)) (E_sf : Exa Z h0 sf nS) (V_sf : Fld Z h0 sf nS "value" "[B" (.ref tf)) (C_sf : Fld Z h0 sf nS "coder" "B" (vI 0)) (A_sf : Arv Z h0 tf kf .byte Nf ((own_by false cf).map Value.int) (vI 0)) (N_sf : Nf = Int32.ofNat (own_by false cf).length) (E_sm : Exa Z h0 sm nS) (V_sm : Fld Z h0 sm nS "value" "[B" (.ref tm)) (C_sm : Fld Z h0 sm nS "coder" "B" (vI 0)) (A_sm : Arv Z h0 tm km .byte Nm ((own_by false cm).map Value.int) (vI 0)) (N_sm : Nm = Int32.ofNat (own_by false cm).length) (hf2 : cf.length ≤ 2) (hm2 : cm.length ≤ 2) (hLf : false = false → ∀ c ∈ cf, ¬ c < 0 ∧ ¬ (255 : Int32) < c) (hLm : false = false → ∀ c ∈ cm, ¬ c < 0 ∧ ¬ (255 : Int32) < c) (Sg : oSg Z G1) (P5 : ¬ (G1 = (0 : Int32))) (Sf : oSf Z G2) (hG2 : G2.isRef = true) (Sa : oSa Z) (Sh : oSh Z) (Sl : oSl Z) (Ol : Old Z n0 h0) :
    MH l Z h0 y_54 p7_4 1 (some (.object "java/lang/String")) ws (rM 10 7 80 143) #[(.ref e1)] (Q_tos00 Z cf cm h0 n0) := by
  refine MetFree.of_bodySF (plainFor_of_name pn_com_example_tallyline_tallyline_core_FieldError) hisR ?_
  intro p e s m args below meth c s₁ Bd hml hP hK
  obtain ⟨rfl, hZ, hh, hCH0⟩ := hP
  have hx := Bd.exec
  have hby := Bd.bytes
  have hown : s.vm.findClass "com/example/tallyline/tallyline/core/FieldError" = some m.cls := findClass_of_methodNamed Bd.named
  have X0 : Stand p l e (rM 10 7 80 143) (s.setVm s.vm) m #[(.ref e1)] below meth c s₁ [] 0 0 := Stand.of_body Bd
  have e0 : s₁.heap = h0 := by rw [← hh, Bd.state]; rfl
  have N0 := Fr.nil n0
  obtain ⟨B0, pre0, P0⟩ : ∃ B, Rg p e below B (s₁.setTop (entryFrame m #[(.ref e1)] 1)) ∧ Rg p e below (s₁.setTop (mkF m 0 #[sR e1] [])) B := ⟨_, fun t k => castTop (ef_tos00 m e1) k, fun t k => k⟩
  have hS0 : s.Since s.vm h0.size := (State.WarmedH.refl s).since _
  have hCR0 : CHr Z own_EL s.vm h0 s.vm h0 := CHr.refl hCH0
  obtain ⟨T1791, h1791, X1791, e1791, E1791, A1791, D1791, -, st1791⟩ := newO X0 hx hZ hown (oH hw 60 rfl) (oH hw 61 rfl) (oH hw 62 rfl) e0 (g := (mkF m 0 #[sR e1] [])) rfl (hb hby dp7_4_0) (by decide) (by decide)
  obtain ⟨b1791, g1791⟩ : ∃ z, z = h0.size := ⟨_, rfl⟩
  rw [← g1791] at A1791 D1791 st1791
  have g_b1791 : n0 ≤ b1791 := Nat.le_trans Z0 (Nat.le_of_eq g1791.symm)
  have sz_b1791 : h0.size ≤ b1791 := Nat.le_trans (Keep.refl h0 []).1 (Nat.le_of_eq g1791.symm)
  have P1792 : Rg p e below (T1791.setTop (mkF m 3 #[sR e1] [(.ref b1791)])) B0 := fun t k => P0 t (by
    exact st1791 _ k)
  have Z1793 : n0 ≤ h1791.size := Nat.le_trans Z0 E1791.1
  have K1794 : Keep h0 h1791 [] := (Keep.refl h0 []).ext E1791
  have O1795 : Old Z n0 h1791 := Ol.ext E1791
  have hk1796 : h0.size ≤ h1791.size := Nat.le_trans (Nat.le_refl _) E1791.1
  have C1797 : CHr Z own_EL s.vm h0 s.vm h1791 := CHr.ext E1791 hCH0
  have R1798 : CHr Z own_EL s.vm h0 s.vm h1791 := hCR0.trans C1797
  have sf_b1791 : Safe Z own_EL s.vm h1791 b1791 := Safe.ext E1791 hCH0 (Safe.new (Nat.le_of_eq g1791.symm))
  have f1799 : Fld Z h1791 b1791 nA "value" "[B" .null := D1791 (Or.inl (oH hw 75 rfl)) (ty := (.array .byte)) (by decide)
  have f1800 : Fld Z h1791 b1791 nA "coder" "B" (vI 0) := D1791 (Or.inl (oH hw 77 rfl)) (ty := .byte) (by decide)
  have f1801 : Fld Z h1791 b1791 nA "count" "I" (vI 0) := D1791 (Or.inl (oH hw 99 rfl)) (ty := .int) (by decide)
  have f1802 : Fld Z h1791 b1791 nA "maybeLatin1" "Z" (vI 0) := D1791 (Or.inl (oH hw 255 rfl)) (ty := .boolean) (by decide)
  obtain ⟨_, _, ⟨T1803, L1803, k1803, n1803⟩, -, X1803, ⟨Lc1803, hQ1803, l1803, y1803, z1803⟩, st1803⟩ := X1791.specialBack hx (y := y_25) rfl hown (mvT hZ (oH hw 63 rfl)) (mvT hZ (oH hw 64 rfl)) (mvT hZ (oH hw 65 rfl)) (by decide) (backOf (W := 1) (rm_sbi l Z a0 hw [] b1791 G1 G2 h1791 n0 Z1793 g_b1791 A1791 f1799 f1800 f1801 f1802 Sg P5 Sf hG2 Sa Sh Sl O1795) hZ (oH hw 65 rfl) (oH hw 62 rfl) (by decide) (by decide)) (g := (mkF m 4 #[sR e1] [(.ref b1791), (.ref b1791)])) rfl (by rw [hml]; rfl) (Steps.refl _) (a := b1791) (argsL := []) (rest := [(.ref b1791)]) (lenOf pd13 rfl) rfl (oW rfl) (hb hby dp7_4_4) (fun _ _ => ⟨rfl, e1791, (oB rfl : 1 + 1 ≤ _), (oB rfl : 4 + 16 ≤ _)⟩)
  dsimp only [Pt.U, Pt.locs, Pt.cells, Pt.slots] at X1803 l1803 y1803 z1803 st1803 hQ1803
  subst l1803 y1803 z1803
  obtain ⟨rfl, Nq1803, K1803, v1803, k21803, F11803, F21803, F31803, F41803, A1803, E1803, s1803⟩ := hQ1803
  have N1804 := Fr.app N0 Nq1803
  have P1805 : Rg p e below (T1803.setTop (mkF m 7 #[sR e1] [(.ref b1791)])) B0 := fun t k => P1792 t (by
    refine XS.dup X1791.here hx rfl (hb hby dp7_4_3) rfl rfl ?_
    exact st1803.trans k)
  have sf_v1803 : Safe Z own_EL s.vm T1803.heap v1803 := Safe.keep K1803 (sfS (Safe.exa hZ.alike A1791 (by decide) (by decide)) sf0) C1797.1 (Safe.new s1803)
  have Z1806 : n0 ≤ T1803.heap.size := Nat.le_trans Z1793 K1803.1
  have K1807 : Keep h0 T1803.heap [] := K1794.trans K1803 ((allS (Or.inr sz_b1791) all0))
  have O1808 : Old Z n0 T1803.heap := O1795.keep K1803 (allS g_b1791 all0)
  have hk1809 : h0.size ≤ T1803.heap.size := Nat.le_trans hk1796 K1803.1
  have C1810 : CHr Z own_EL s.vm h1791 s.vm T1803.heap := CHr.keep K1803 (sfS (Safe.exa hZ.alike A1791 (by decide) (by decide)) sf0) C1797.1
  have R1811 : CHr Z own_EL s.vm h0 s.vm T1803.heap := R1798.trans C1810
  have g_v1803 : n0 ≤ v1803 := Nat.le_trans Z1793 s1803
  have sz_v1803 : h0.size ≤ v1803 := Nat.le_trans K1794.1 s1803
  have f1812 := ((F_field.ext E1791).keep K1803 (ninS (Nat.ne_of_lt (Nat.lt_of_lt_of_le F_message.lt (Nat.le_of_eq g1791.symm))) nin0))
  obtain ⟨T1813, X1813, e1813, st1813⟩ := getF X1803 hx hZ hown (host := "") (Or.inl (oH hw 51 rfl)) Via.refl rfl f1812 (g := (mkF m 8 #[sR e1] [(.ref e1), (.ref b1791)])) rfl rfl (hb hby dp7_4_8)
  have P1814 : Rg p e below (T1813.setTop (mkF m 11 #[sR e1] [(.ref sf), (.ref b1791)])) B0 := fun t k => P1805 t (by
    refine XS.aloadN X1803.here hx rfl (hb hby dp7_4_7) rfl rfl ?_
    exact st1813 _ k)
  have f1815 := (A1791.keep K1803)
  have f1816 := ((E_sf.ext E1791).keep K1803)
  have f1817 := ((V_sf.ext E1791).keep K1803 (ninS (Nat.ne_of_lt (Nat.lt_of_lt_of_le C_sf.lt (Nat.le_of_eq g1791.symm))) nin0))
  have f1818 := ((C_sf.ext E1791).keep K1803 (ninS (Nat.ne_of_lt (Nat.lt_of_lt_of_le C_sf.lt (Nat.le_of_eq g1791.symm))) nin0))
  have f1819 := ((A_sf.ext E1791).keep K1803 (ninS (Nat.ne_of_lt (Nat.lt_of_lt_of_le A_sf.lt (Nat.le_of_eq g1791.symm))) nin0))
  obtain ⟨cq1820, kq1820, q1820a, q1820b, q1820c⟩ := isOf hZ e1813 f1815
  obtain ⟨_, _, ⟨T1820, L1820, k1820, n1820⟩, -, X1820, ⟨Lc1820, hQ1820, l1820, y1820, z1820⟩, st1820⟩ := X1813.virtualBack hx (y := y_23) (z := y_23) hown (mvT hZ (oH hw 78 rfl)) (mvT hZ (oH hw 79 rfl)) (notFace_of_selects (args := #[]) (mvT hZ (oH hw 81 rfl))) (mvT hZ (oH hw 81 rfl)) (mvT hZ (oH hw 80 rfl)) (by decide) (backOf (W := 0) (rm_aps00 l Z a0 hw [] b1791 v1803 k21803 ([] : List Int32) sf tf kf Nf cf G1 G2 T1803.heap n0 Z1806 g_b1791 g_v1803 f1815 F11803 F21803 F31803 F41803 A1803 E1803 (by decide) f1816 f1817 f1818 f1819 N_sf hf2 (Nat.ne_of_lt (Nat.lt_of_lt_of_le (A_sf.ext E1791).lt s1803)) Sg P5 Sf hG2 Sa Sh Sl O1808) hZ (oH hw 82 rfl) (oH hw 62 rfl) (by decide) (by decide)) q1820a q1820c (g := (mkF m 11 #[sR e1] [(.ref sf), (.ref b1791)])) rfl (by rw [hml]; rfl) (Steps.refl _) (argsL := [(.ref sf)]) (rest := []) (lenOf pd37 rfl) rfl (oW rfl) (hb hby dp7_4_11) (fun _ _ => ⟨rfl, e1813, (oB rfl : 2 + 0 ≤ _), (oB rfl : 20 + 0 ≤ _)⟩)
  dsimp only [Pt.U, Pt.locs, Pt.cells, Pt.slots] at X1820 l1820 y1820 z1820 st1820 hQ1820
  subst l1820 y1820 z1820
  obtain ⟨rfl, Nq1820, K1820, v1820, k21820, F11820, F21820, F31820, F41820, A1820, E1820, gq1820, hv1820⟩ := hQ1820
  have N1821 := Fr.app N1804 Nq1820
  have P1822 : Rg p e below (T1820.setTop (mkF m 14 #[sR e1] [(.ref b1791)])) B0 := fun t k => P1814 t (by
    exact st1820.trans k)
  have hb01820 : h0.size ≤ v1820 := hv1820.elim (fun q => by rw [q]; exact sz_v1803) (fun q => Nat.le_trans K1807.1 q)
  have sf_v1820 : Safe Z own_EL s.vm T1820.heap v1820 := hv1820.elim (fun q => by rw [q]; exact Safe.keep K1820 (sfS (Safe.exa hZ.alike f1815 (by decide) (by decide)) (sfS sf_v1803 sf0)) C1810.1 sf_v1803) (fun q => Safe.keep K1820 (sfS (Safe.exa hZ.alike f1815 (by decide) (by decide)) (sfS sf_v1803 sf0)) C1810.1 (Safe.new q))
  have Z1823 : n0 ≤ T1820.heap.size := Nat.le_trans Z1806 K1820.1
  have K1824 : Keep h0 T1820.heap [] := K1807.trans K1820 ((allS (Or.inr sz_b1791) (allS (Or.inr sz_v1803) all0)))
  have O1825 : Old Z n0 T1820.heap := O1808.keep K1820 (allS g_b1791 (allS g_v1803 all0))
  have hk1826 : h0.size ≤ T1820.heap.size := Nat.le_trans hk1809 K1820.1
  have C1827 : CHr Z own_EL s.vm T1803.heap s.vm T1820.heap := CHr.keep K1820 (sfS (Safe.exa hZ.alike f1815 (by decide) (by decide)) (sfS sf_v1803 sf0)) C1810.1
  have R1828 : CHr Z own_EL s.vm h0 s.vm T1820.heap := R1811.trans C1827
  have g_v1820 : n0 ≤ v1820 := Nat.le_trans Z0 hb01820
  have sz_v1820 : h0.size ≤ v1820 := Nat.le_trans (Keep.refl h0 []).1 hb01820
  obtain ⟨y1829, T1829, h1829, k1829, t1829, kb1829, X1829, e1829, E1829, hS1829, hk1829, hZ1829, ho1829, Ea1829, Fc1829, Fv1829, Av1829, la1829, lb1829, cr1829, Li1829, ne1829, st1829⟩ := ldcCH X1820 hx hZ hown (oH hw 125 rfl) (own_wS hw) rfl hS0 hk1826 (own_EW hw) (by decide) C1827.1 (vs := [(vI 58), (vI 32)]) (z := (2 : Int32)) ⟨by decide, by decide⟩ (by decide) (by decide) (g := (mkF m 14 #[sR e1] [(.ref b1791)])) rfl (hb hby dp7_4_14) (n := 8) (by decide) (by decide) (oB rfl) (oB rfl)
  have P1830 : Rg p e below (T1829.setTop (mkF m 16 #[sR e1] [(.ref y1829), (.ref b1791)])) B0 := fun t k => P1822 t (by
    exact st1829 _ k)
  have Z1831 : n0 ≤ h1829.size := Nat.le_trans Z1823 E1829.1
  have K1832 : Keep h0 h1829 [] := K1824.ext E1829
  have O1833 : Old Z n0 h1829 := O1825.ext E1829
  have R1834 : CHr Z own_EL s.vm h0 T1829.vm h1829 := R1828.trans cr1829
  have hl9 : [(vI 58), (vI 32)] = ((own_by false [(58 : Int32), (32 : Int32)]).map Value.int) := rfl
  have A9 := Av1829
  rw [hl9] at A9
  have hd9 : ∀ c ∈ ([(58 : Int32), (32 : Int32)] : List Int32), ¬ c < 0 ∧ ¬ (255 : Int32) < c := by decide
  have f1835 := ((f1815.keep K1820).ext E1829)
  have f1836 := (F11820.ext E1829)
  have f1837 := (F21820.ext E1829)
  have f1838 := (F31820.ext E1829)
  have f1839 := (F41820.ext E1829)
  have f1840 := (A1820.ext E1829)
  have f1841 := (E1820.ext E1829)
  obtain ⟨cq1842, kq1842, q1842a, q1842b, q1842c⟩ := isOf hZ1829 e1829 f1835
  obtain ⟨_, _, ⟨T1842, L1842, k1842, n1842⟩, -, X1842, ⟨Lc1842, hQ1842, l1842, y1842, z1842⟩, st1842⟩ := X1829.virtualBack hx (y := y_23) (z := y_23) ho1829 (mvT hZ1829 (oH hw 78 rfl)) (mvT hZ1829 (oH hw 79 rfl)) (notFace_of_selects (args := #[]) (mvT hZ1829 (oH hw 81 rfl))) (mvT hZ1829 (oH hw 81 rfl)) (mvT hZ1829 (oH hw 80 rfl)) (by decide) (backOf (W := 0) (rm_aps00 l Z a0 hw [] b1791 v1820 k21820 (([] : List Int32) ++ cf) y1829 t1829 kb1829 (2 : Int32) [(58 : Int32), (32 : Int32)] G1 G2 h1829 n0 Z1831 g_b1791 g_v1820 f1835 f1836 f1837 f1838 f1839 f1840 f1841 (by simp only [List.length_append, List.length_nil, List.length_cons]; omega) Ea1829 Fv1829 Fc1829 A9 rfl (by decide) (Ne.symm (ne1829 v1820 (CHr.safe cr1829 A1820.lt sf_v1820)).2) Sg P5 Sf hG2 Sa Sh Sl O1833) hZ1829 (oH hw 82 rfl) (oH hw 62 rfl) (by decide) (by decide)) q1842a q1842c (g := (mkF m 16 #[sR e1] [(.ref y1829), (.ref b1791)])) rfl (by rw [hml]; rfl) (Steps.refl _) (argsL := [(.ref y1829)]) (rest := []) (lenOf pd37 rfl) rfl (oW rfl) (hb hby dp7_4_16) (fun _ _ => ⟨rfl, e1829, (oB rfl : 4 + 0 ≤ _), (oB rfl : 32 + 0 ≤ _)⟩)
  dsimp only [Pt.U, Pt.locs, Pt.cells, Pt.slots] at X1842 l1842 y1842 z1842 st1842 hQ1842
  subst l1842 y1842 z1842
  obtain ⟨rfl, Nq1842, K1842, v1842, k21842, F11842, F21842, F31842, F41842, A1842, E1842, gq1842, hv1842⟩ := hQ1842
  have N1843 := Fr.app N1821 Nq1842
  have P1844 : Rg p e below (T1842.setTop (mkF m 19 #[sR e1] [(.ref b1791)])) B0 := fun t k => P1830 t (by
    exact st1842.trans k)
  have hb01842 : h0.size ≤ v1842 := hv1842.elim (fun q => by rw [q]; exact sz_v1820) (fun q => Nat.le_trans K1832.1 q)
  have sf_v1842 : Safe Z own_EL T1829.vm T1842.heap v1842 := hv1842.elim (fun q => by rw [q]; exact Safe.keep K1842 (sfS (Safe.exa hZ1829.alike f1835 (by decide) (by decide)) (sfS (CHr.safe cr1829 A1820.lt sf_v1820) sf0)) cr1829.1 (CHr.safe cr1829 A1820.lt sf_v1820)) (fun q => Safe.keep K1842 (sfS (Safe.exa hZ1829.alike f1835 (by decide) (by decide)) (sfS (CHr.safe cr1829 A1820.lt sf_v1820) sf0)) cr1829.1 (Safe.new q))
  have Z1845 : n0 ≤ T1842.heap.size := Nat.le_trans Z1831 K1842.1
  have K1846 : Keep h0 T1842.heap [] := K1832.trans K1842 ((allS (Or.inr sz_b1791) (allS (Or.inr sz_v1820) all0)))
  have O1847 : Old Z n0 T1842.heap := O1833.keep K1842 (allS g_b1791 (allS g_v1820 all0))
  have hk1848 : k1829 ≤ T1842.heap.size := Nat.le_trans hk1829 K1842.1
  have C1849 : CHr Z own_EL T1829.vm h1829 T1829.vm T1842.heap := CHr.keep K1842 (sfS (Safe.exa hZ1829.alike f1835 (by decide) (by decide)) (sfS (CHr.safe cr1829 A1820.lt sf_v1820) sf0)) cr1829.1
  have R1850 : CHr Z own_EL s.vm h0 T1829.vm T1842.heap := R1834.trans C1849
  have g_v1842 : n0 ≤ v1842 := Nat.le_trans Z0 hb01842
  have sz_v1842 : h0.size ≤ v1842 := Nat.le_trans (Keep.refl h0 []).1 hb01842
  have f1851 := (((((F_message.ext E1791).keep K1803 (ninS (Nat.ne_of_lt (Nat.lt_of_lt_of_le F_message.lt (Nat.le_of_eq g1791.symm))) nin0)).keep K1820 (ninS (Nat.ne_of_lt (Nat.lt_of_lt_of_le F_message.lt (Nat.le_of_eq g1791.symm))) (ninS (Nat.ne_of_lt (Nat.lt_of_lt_of_le (F_message.ext E1791).lt s1803)) nin0))).ext E1829).keep K1842 (ninS (Nat.ne_of_lt (Nat.lt_of_lt_of_le F_message.lt (Nat.le_of_eq g1791.symm))) (ninS (Nat.ne_of_lt (Nat.lt_of_lt_of_le F_message.lt hb01820)) nin0)))
  obtain ⟨T1852, X1852, e1852, st1852⟩ := getF X1842 hx hZ1829 ho1829 (host := "") (Or.inl (oH hw 53 rfl)) Via.refl rfl f1851 (g := (mkF m 20 #[sR e1] [(.ref e1), (.ref b1791)])) rfl rfl (hb hby dp7_4_20)
  have P1853 : Rg p e below (T1852.setTop (mkF m 23 #[sR e1] [(.ref sm), (.ref b1791)])) B0 := fun t k => P1844 t (by
    refine XS.aloadN X1842.here hx rfl (hb hby dp7_4_19) rfl rfl ?_
    exact st1852 _ k)
  have f1854 := (f1835.keep K1842)
  have f1855 := (((((E_sm.ext E1791).keep K1803).keep K1820).ext E1829).keep K1842)
  have f1856 := (((((V_sm.ext E1791).keep K1803 (ninS (Nat.ne_of_lt (Nat.lt_of_lt_of_le C_sm.lt (Nat.le_of_eq g1791.symm))) nin0)).keep K1820 (ninS (Nat.ne_of_lt (Nat.lt_of_lt_of_le C_sm.lt (Nat.le_of_eq g1791.symm))) (ninS (Nat.ne_of_lt (Nat.lt_of_lt_of_le (C_sm.ext E1791).lt s1803)) nin0))).ext E1829).keep K1842 (ninS (Nat.ne_of_lt (Nat.lt_of_lt_of_le C_sm.lt (Nat.le_of_eq g1791.symm))) (ninS (Nat.ne_of_lt (Nat.lt_of_lt_of_le C_sm.lt hb01820)) nin0)))
  have f1857 := (((((C_sm.ext E1791).keep K1803 (ninS (Nat.ne_of_lt (Nat.lt_of_lt_of_le C_sm.lt (Nat.le_of_eq g1791.symm))) nin0)).keep K1820 (ninS (Nat.ne_of_lt (Nat.lt_of_lt_of_le C_sm.lt (Nat.le_of_eq g1791.symm))) (ninS (Nat.ne_of_lt (Nat.lt_of_lt_of_le (C_sm.ext E1791).lt s1803)) nin0))).ext E1829).keep K1842 (ninS (Nat.ne_of_lt (Nat.lt_of_lt_of_le C_sm.lt (Nat.le_of_eq g1791.symm))) (ninS (Nat.ne_of_lt (Nat.lt_of_lt_of_le C_sm.lt hb01820)) nin0)))
  have f1858 := (((((A_sm.ext E1791).keep K1803 (ninS (Nat.ne_of_lt (Nat.lt_of_lt_of_le A_sm.lt (Nat.le_of_eq g1791.symm))) nin0)).keep K1820 (ninS (Nat.ne_of_lt (Nat.lt_of_lt_of_le A_sm.lt (Nat.le_of_eq g1791.symm))) (ninS (Nat.ne_of_lt (Nat.lt_of_lt_of_le (A_sm.ext E1791).lt s1803)) nin0))).ext E1829).keep K1842 (ninS (Nat.ne_of_lt (Nat.lt_of_lt_of_le A_sm.lt (Nat.le_of_eq g1791.symm))) (ninS (Nat.ne_of_lt (Nat.lt_of_lt_of_le A_sm.lt hb01820)) nin0)))
  obtain ⟨cq1859, kq1859, q1859a, q1859b, q1859c⟩ := isOf hZ1829 e1852 f1854
  obtain ⟨_, _, ⟨T1859, L1859, k1859, n1859⟩, -, X1859, ⟨Lc1859, hQ1859, l1859, y1859, z1859⟩, st1859⟩ := X1852.virtualBack hx (y := y_23) (z := y_23) ho1829 (mvT hZ1829 (oH hw 78 rfl)) (mvT hZ1829 (oH hw 79 rfl)) (notFace_of_selects (args := #[]) (mvT hZ1829 (oH hw 81 rfl))) (mvT hZ1829 (oH hw 81 rfl)) (mvT hZ1829 (oH hw 80 rfl)) (by decide) (backOf (W := 0) (rm_aps00 l Z a0 hw [] b1791 v1842 k21842 ((([] : List Int32) ++ cf) ++ [(58 : Int32), (32 : Int32)]) sm tm km Nm cm G1 G2 T1842.heap n0 Z1845 g_b1791 g_v1842 f1854 F11842 F21842 F31842 F41842 A1842 E1842 (by simp only [List.length_append, List.length_nil, List.length_cons]; omega) f1855 f1856 f1857 f1858 N_sm hm2 (Nat.ne_of_lt (Nat.lt_of_lt_of_le A_sm.lt hb01842)) Sg P5 Sf hG2 Sa Sh Sl O1847) hZ1829 (oH hw 82 rfl) (oH hw 62 rfl) (by decide) (by decide)) q1859a q1859c (g := (mkF m 23 #[sR e1] [(.ref sm), (.ref b1791)])) rfl (by rw [hml]; rfl) (Steps.refl _) (argsL := [(.ref sm)]) (rest := []) (lenOf pd37 rfl) rfl (oW rfl) (hb hby dp7_4_23) (fun _ _ => ⟨rfl, e1852, (oB rfl : 4 + 0 ≤ _), (oB rfl : 32 + 0 ≤ _)⟩)
  dsimp only [Pt.U, Pt.locs, Pt.cells, Pt.slots] at X1859 l1859 y1859 z1859 st1859 hQ1859
  subst l1859 y1859 z1859
  obtain ⟨rfl, Nq1859, K1859, v1859, k21859, F11859, F21859, F31859, F41859, A1859, E1859, gq1859, hv1859⟩ := hQ1859
  have N1860 := Fr.app N1843 Nq1859
  have P1861 : Rg p e below (T1859.setTop (mkF m 26 #[sR e1] [(.ref b1791)])) B0 := fun t k => P1853 t (by
    exact st1859.trans k)
  have hb01859 : h0.size ≤ v1859 := hv1859.elim (fun q => by rw [q]; exact sz_v1842) (fun q => Nat.le_trans K1846.1 q)
  have sf_v1859 : Safe Z own_EL T1829.vm T1859.heap v1859 := hv1859.elim (fun q => by rw [q]; exact Safe.keep K1859 (sfS (Safe.exa hZ1829.alike f1854 (by decide) (by decide)) (sfS sf_v1842 sf0)) C1849.1 sf_v1842) (fun q => Safe.keep K1859 (sfS (Safe.exa hZ1829.alike f1854 (by decide) (by decide)) (sfS sf_v1842 sf0)) C1849.1 (Safe.new q))
  have Z1862 : n0 ≤ T1859.heap.size := Nat.le_trans Z1845 K1859.1
  have K1863 : Keep h0 T1859.heap [] := K1846.trans K1859 ((allS (Or.inr sz_b1791) (allS (Or.inr sz_v1842) all0)))
  have O1864 : Old Z n0 T1859.heap := O1847.keep K1859 (allS g_b1791 (allS g_v1842 all0))
  have hk1865 : k1829 ≤ T1859.heap.size := Nat.le_trans hk1848 K1859.1
  have C1866 : CHr Z own_EL T1829.vm T1842.heap T1829.vm T1859.heap := CHr.keep K1859 (sfS (Safe.exa hZ1829.alike f1854 (by decide) (by decide)) (sfS sf_v1842 sf0)) C1849.1
  have R1867 : CHr Z own_EL s.vm h0 T1829.vm T1859.heap := R1850.trans C1866
  have g_v1859 : n0 ≤ v1859 := Nat.le_trans Z0 hb01859
  have sz_v1859 : h0.size ≤ v1859 := Nat.le_trans (Keep.refl h0 []).1 hb01859
  have f1868 := (f1854.keep K1859)
  obtain ⟨cq1869, kq1869, q1869a, q1869b, q1869c⟩ := isOf hZ1829 rfl f1868
  obtain ⟨_, _, ⟨T1869, L1869, k1869, n1869⟩, -, X1869, ⟨Lc1869, hQ1869, l1869, y1869, z1869⟩, st1869⟩ := X1859.virtualBack hx (y := y_35) (z := y_35) ho1829 (mvT hZ1829 (oH hw 126 rfl)) (mvT hZ1829 (oH hw 127 rfl)) (notFace_of_selects (args := #[]) (mvT hZ1829 (oH hw 129 rfl))) (mvT hZ1829 (oH hw 129 rfl)) (mvT hZ1829 (oH hw 128 rfl)) (by decide) (backOf (W := 0) (rm_sts0 l Z a0 hw [] b1791 v1859 k21859 (((([] : List Int32) ++ cf) ++ [(58 : Int32), (32 : Int32)]) ++ cm) G1 G2 T1859.heap n0 Z1862 g_b1791 g_v1859 f1868 F11859 F21859 F31859 F41859 A1859 E1859 (by simp only [List.length_append, List.length_nil, List.length_cons]; omega) Sg P5 Sf hG2 Sa Sh Sl O1864) hZ1829 (oH hw 130 rfl) (oH hw 62 rfl) (by decide) (by decide)) q1869a q1869c (g := (mkF m 26 #[sR e1] [(.ref b1791)])) rfl (by rw [hml]; rfl) (Steps.refl _) (argsL := []) (rest := []) (lenOf pd38 rfl) rfl (oW rfl) (hb hby dp7_4_26) (fun _ _ => ⟨rfl, rfl, (oB rfl : 4 + 2 ≤ _), (oB rfl : 32 + 16 ≤ _)⟩)
  dsimp only [Pt.U, Pt.locs, Pt.cells, Pt.slots] at X1869 l1869 y1869 z1869 st1869 hQ1869
  subst l1869 y1869 z1869
  obtain ⟨x1869, rfl, Nq1869, K1869, zx1869, Es1869, Fc1869, t1869, k1869, N1869_, Fv1869, A1869, hN1869⟩ := hQ1869
  have N1870 := Fr.app N1860 Nq1869
  have P1871 : Rg p e below (T1869.setTop (mkF m 29 #[sR e1] [(.ref x1869)])) B0 := fun t k => P1861 t (by
    exact st1869.trans k)
  have Z1872 : n0 ≤ T1869.heap.size := Nat.le_trans Z1862 K1869.1
  have K1873 : Keep h0 T1869.heap [] := K1863.trans K1869 (all0)
  have O1874 : Old Z n0 T1869.heap := O1864.keep K1869 all0
  have hk1875 : k1829 ≤ T1869.heap.size := Nat.le_trans hk1865 K1869.1
  have C1876 : CHr Z own_EL T1829.vm T1859.heap T1829.vm T1869.heap := CHr.keep K1869 sf0 C1866.1
  have R1877 : CHr Z own_EL s.vm h0 T1829.vm T1869.heap := R1867.trans C1876
  obtain ⟨fs1878, hr1878, hrun1878, hended1878, hRW1878⟩ := X1869.leaveW (v := some (.ref x1869)) hS1829 hk1875 (fun h => by rw [Bd.returns] at h; cases h)
  have hce1878 : CHr Z own_EL s.vm s.heap T1869.vm T1869.heap := by
    rw [hh]
    exact R1877.trans (CHv.at X1869 hZ1829 (own_EW hw) C1876.1)
  refine ⟨_, _, pre0 _ (P1871 _ ?_), hrun1878, hended1878, _, _, rfl, ?_, hce1878, ⟨hRW1878.1, hRW1878.2.1, hRW1878.2.2.1, hRW1878.2.2.2.mono (oB rfl) (oB rfl)⟩⟩
  · exact retOut X1869 hx Bd.returns rfl (Or.inr (Or.inr (Or.inr (Or.inr ⟨rfl, rfl, rfl⟩)))) (hb hby dp7_4_29) hr1878
  · show Q_tos00 Z cf cm h0 n0 _ T1869.heap _
    exact ⟨x1869, rfl, N1870, K1873, Es1869, Fc1869, t1869, k1869, N1869_, Fv1869, A1869, hN1869⟩
theorem ef_tos01 (m : MethodId) (x0 : Addr) : entryFrame m #[(.ref x0)] 1 = mkF m 0 #[sR x0] [] := by (first | (simp [entryFrame, mkF, argsToLocals, Value.category]; done) | rfl)
def Q_tos01 (Z : State) (cf cm : List Int32) (h0 : Heap) (n0 : Nat) (v : Option Value) (h : Heap) (L : List Loc) : Prop := ∃ s : Addr, v = some (.ref s) ∧ Fr n0 L ∧ Keep h0 h [] ∧ Exa Z h s nS ∧ Fld Z h s nS "coder" "B" (.int (own_co true)) ∧ ∃ (t : Addr) (k : ClassId) (N : Int32), Fld Z h s nS "value" "[B" (.ref t) ∧ Arv Z h t k .byte N ((own_by true (((([] : List Int32) ++ cf) ++ [(58 : Int32), (32 : Int32)]) ++ cm)).map Value.int) (vI 0) ∧ N = Int32.ofNat (own_by true (((([] : List Int32) ++ cf) ++ [(58 : Int32), (32 : Int32)]) ++ cm)).length
theorem rm_tos01 (l : Launch) (Z : State) (a0 : Array Value) (hw : Tb a0 Z) (ws : List Jvm.Cond) (e1 sf tf : Addr) (kf : ClassId) (Nf : Int32) (cf : List Int32) (sm tm : Addr) (km : ClassId) (Nm : Int32) (cm : List Int32) (G1 : Int32) (G2 : Value) (h0 : Heap) (n0 : Nat) (Z0 : n0 ≤ h0.size) (F_field : Fld Z h0 e1 "com/example/tallyline/tallyline/core/FieldError" "field" "Ljava/lang/String;" (.ref sf)) (F_message : Fld Z h0 e1 "com/example/tallyline/tallyline/core/FieldError" "message" "Ljava/lang/String;" (.ref sm)) (E_sf : Exa Z h0 sf nS) (V_sf : Fld Z h0 sf nS "value" "[B" (.ref tf)) (C_sf : Fld Z h0 sf nS "coder" "B" (vI 0)) (A_sf : Arv Z h0 tf kf .byte Nf ((own_by false cf).map Value.int) (vI 0)) (N_sf : Nf = Int32.ofNat (own_by false cf).length) (E_sm : Exa Z h0 sm nS) (V_sm : Fld Z h0 sm nS "value" "[B" (.ref tm)) (C_sm : Fld Z h0 sm nS "coder" "B" (vI 1)) (A_sm : Arv Z h0 tm km .byte Nm ((own_by true cm).map Value.int) (vI 0)) (N_sm : Nm = Int32.ofNat (own_by true cm).length) (hf2 : cf.length ≤ 2) (hm2 : cm.length ≤ 2) (hLf : false = false → ∀ c ∈ cf, ¬ c < 0 ∧ ¬ (255 : Int32) < c) (hLm : true = false → ∀ c ∈ cm, ¬ c < 0 ∧ ¬ (255 : Int32) < c) (Sg : oSg Z G1) (P5 : ¬ (G1 = (0 : Int32))) (Sf : oSf Z G2) (hG2 : G2.isRef = true) (Sa : oSa Z) (Sh : oSh Z) (Sl : oSl Z) (Ol : Old Z n0 h0) :
    MH l Z h0 y_54 p7_4 1 (some (.object "java/lang/String")) ws (rM 10 7 80 143) #[(.ref e1)] (Q_tos01 Z cf cm h0 n0) := by
  refine MetFree.of_bodySF (plainFor_of_name pn_com_example_tallyline_tallyline_core_FieldError) hisR ?_
  intro p e s m args below meth c s₁ Bd hml hP hK
  obtain ⟨rfl, hZ, hh, hCH0⟩ := hP
  have hx := Bd.exec
  have hby := Bd.bytes
  have hown : s.vm.findClass "com/example/tallyline/tallyline/core/FieldError" = some m.cls := findClass_of_methodNamed Bd.named
  have X0 : Stand p l e (rM 10 7 80 143) (s.setVm s.vm) m #[(.ref e1)] below meth c s₁ [] 0 0 := Stand.of_body Bd
  have e0 : s₁.heap = h0 := by rw [← hh, Bd.state]; rfl
  have N0 := Fr.nil n0
  obtain ⟨B0, pre0, P0⟩ : ∃ B, Rg p e below B (s₁.setTop (entryFrame m #[(.ref e1)] 1)) ∧ Rg p e below (s₁.setTop (mkF m 0 #[sR e1] [])) B := ⟨_, fun t k => castTop (ef_tos01 m e1) k, fun t k => k⟩
  have hS0 : s.Since s.vm h0.size := (State.WarmedH.refl s).since _
  have hCR0 : CHr Z own_EL s.vm h0 s.vm h0 := CHr.refl hCH0
  obtain ⟨T1879, h1879, X1879, e1879, E1879, A1879, D1879, -, st1879⟩ := newO X0 hx hZ hown (oH hw 60 rfl) (oH hw 61 rfl) (oH hw 62 rfl) e0 (g := (mkF m 0 #[sR e1] [])) rfl (hb hby dp7_4_0) (by decide) (by decide)
  obtain ⟨b1879, g1879⟩ : ∃ z, z = h0.size := ⟨_, rfl⟩
  rw [← g1879] at A1879 D1879 st1879
  have g_b1879 : n0 ≤ b1879 := Nat.le_trans Z0 (Nat.le_of_eq g1879.symm)
  have sz_b1879 : h0.size ≤ b1879 := Nat.le_trans (Keep.refl h0 []).1 (Nat.le_of_eq g1879.symm)
  have P1880 : Rg p e below (T1879.setTop (mkF m 3 #[sR e1] [(.ref b1879)])) B0 := fun t k => P0 t (by
    exact st1879 _ k)
  have Z1881 : n0 ≤ h1879.size := Nat.le_trans Z0 E1879.1
  have K1882 : Keep h0 h1879 [] := (Keep.refl h0 []).ext E1879
  have O1883 : Old Z n0 h1879 := Ol.ext E1879
  have hk1884 : h0.size ≤ h1879.size := Nat.le_trans (Nat.le_refl _) E1879.1
  have C1885 : CHr Z own_EL s.vm h0 s.vm h1879 := CHr.ext E1879 hCH0
  have R1886 : CHr Z own_EL s.vm h0 s.vm h1879 := hCR0.trans C1885
  have sf_b1879 : Safe Z own_EL s.vm h1879 b1879 := Safe.ext E1879 hCH0 (Safe.new (Nat.le_of_eq g1879.symm))
  have f1887 : Fld Z h1879 b1879 nA "value" "[B" .null := D1879 (Or.inl (oH hw 75 rfl)) (ty := (.array .byte)) (by decide)
  have f1888 : Fld Z h1879 b1879 nA "coder" "B" (vI 0) := D1879 (Or.inl (oH hw 77 rfl)) (ty := .byte) (by decide)
  have f1889 : Fld Z h1879 b1879 nA "count" "I" (vI 0) := D1879 (Or.inl (oH hw 99 rfl)) (ty := .int) (by decide)
  have f1890 : Fld Z h1879 b1879 nA "maybeLatin1" "Z" (vI 0) := D1879 (Or.inl (oH hw 255 rfl)) (ty := .boolean) (by decide)
  obtain ⟨_, _, ⟨T1891, L1891, k1891, n1891⟩, -, X1891, ⟨Lc1891, hQ1891, l1891, y1891, z1891⟩, st1891⟩ := X1879.specialBack hx (y := y_25) rfl hown (mvT hZ (oH hw 63 rfl)) (mvT hZ (oH hw 64 rfl)) (mvT hZ (oH hw 65 rfl)) (by decide) (backOf (W := 1) (rm_sbi l Z a0 hw [] b1879 G1 G2 h1879 n0 Z1881 g_b1879 A1879 f1887 f1888 f1889 f1890 Sg P5 Sf hG2 Sa Sh Sl O1883) hZ (oH hw 65 rfl) (oH hw 62 rfl) (by decide) (by decide)) (g := (mkF m 4 #[sR e1] [(.ref b1879), (.ref b1879)])) rfl (by rw [hml]; rfl) (Steps.refl _) (a := b1879) (argsL := []) (rest := [(.ref b1879)]) (lenOf pd13 rfl) rfl (oW rfl) (hb hby dp7_4_4) (fun _ _ => ⟨rfl, e1879, (oB rfl : 1 + 1 ≤ _), (oB rfl : 4 + 16 ≤ _)⟩)
  dsimp only [Pt.U, Pt.locs, Pt.cells, Pt.slots] at X1891 l1891 y1891 z1891 st1891 hQ1891
  subst l1891 y1891 z1891
  obtain ⟨rfl, Nq1891, K1891, v1891, k21891, F11891, F21891, F31891, F41891, A1891, E1891, s1891⟩ := hQ1891
  have N1892 := Fr.app N0 Nq1891
  have P1893 : Rg p e below (T1891.setTop (mkF m 7 #[sR e1] [(.ref b1879)])) B0 := fun t k => P1880 t (by
    refine XS.dup X1879.here hx rfl (hb hby dp7_4_3) rfl rfl ?_
    exact st1891.trans k)
  have sf_v1891 : Safe Z own_EL s.vm T1891.heap v1891 := Safe.keep K1891 (sfS (Safe.exa hZ.alike A1879 (by decide) (by decide)) sf0) C1885.1 (Safe.new s1891)
  have Z1894 : n0 ≤ T1891.heap.size := Nat.le_trans Z1881 K1891.1
  have K1895 : Keep h0 T1891.heap [] := K1882.trans K1891 ((allS (Or.inr sz_b1879) all0))
  have O1896 : Old Z n0 T1891.heap := O1883.keep K1891 (allS g_b1879 all0)
  have hk1897 : h0.size ≤ T1891.heap.size := Nat.le_trans hk1884 K1891.1
  have C1898 : CHr Z own_EL s.vm h1879 s.vm T1891.heap := CHr.keep K1891 (sfS (Safe.exa hZ.alike A1879 (by decide) (by decide)) sf0) C1885.1
  have R1899 : CHr Z own_EL s.vm h0 s.vm T1891.heap := R1886.trans C1898
  have g_v1891 : n0 ≤ v1891 := Nat.le_trans Z1881 s1891
  have sz_v1891 : h0.size ≤ v1891 := Nat.le_trans K1882.1 s1891
  have f1900 := ((F_field.ext E1879).keep K1891 (ninS (Nat.ne_of_lt (Nat.lt_of_lt_of_le F_message.lt (Nat.le_of_eq g1879.symm))) nin0))
  obtain ⟨T1901, X1901, e1901, st1901⟩ := getF X1891 hx hZ hown (host := "") (Or.inl (oH hw 51 rfl)) Via.refl rfl f1900 (g := (mkF m 8 #[sR e1] [(.ref e1), (.ref b1879)])) rfl rfl (hb hby dp7_4_8)
  have P1902 : Rg p e below (T1901.setTop (mkF m 11 #[sR e1] [(.ref sf), (.ref b1879)])) B0 := fun t k => P1893 t (by
    refine XS.aloadN X1891.here hx rfl (hb hby dp7_4_7) rfl rfl ?_
    exact st1901 _ k)
  have f1903 := (A1879.keep K1891)
  have f1904 := ((E_sf.ext E1879).keep K1891)
  have f1905 := ((V_sf.ext E1879).keep K1891 (ninS (Nat.ne_of_lt (Nat.lt_of_lt_of_le C_sf.lt (Nat.le_of_eq g1879.symm))) nin0))
  have f1906 := ((C_sf.ext E1879).keep K1891 (ninS (Nat.ne_of_lt (Nat.lt_of_lt_of_le C_sf.lt (Nat.le_of_eq g1879.symm))) nin0))
  have f1907 := ((A_sf.ext E1879).keep K1891 (ninS (Nat.ne_of_lt (Nat.lt_of_lt_of_le A_sf.lt (Nat.le_of_eq g1879.symm))) nin0))
  obtain ⟨cq1908, kq1908, q1908a, q1908b, q1908c⟩ := isOf hZ e1901 f1903
  obtain ⟨_, _, ⟨T1908, L1908, k1908, n1908⟩, -, X1908, ⟨Lc1908, hQ1908, l1908, y1908, z1908⟩, st1908⟩ := X1901.virtualBack hx (y := y_23) (z := y_23) hown (mvT hZ (oH hw 78 rfl)) (mvT hZ (oH hw 79 rfl)) (notFace_of_selects (args := #[]) (mvT hZ (oH hw 81 rfl))) (mvT hZ (oH hw 81 rfl)) (mvT hZ (oH hw 80 rfl)) (by decide) (backOf (W := 0) (rm_aps00 l Z a0 hw [] b1879 v1891 k21891 ([] : List Int32) sf tf kf Nf cf G1 G2 T1891.heap n0 Z1894 g_b1879 g_v1891 f1903 F11891 F21891 F31891 F41891 A1891 E1891 (by decide) f1904 f1905 f1906 f1907 N_sf hf2 (Nat.ne_of_lt (Nat.lt_of_lt_of_le (A_sf.ext E1879).lt s1891)) Sg P5 Sf hG2 Sa Sh Sl O1896) hZ (oH hw 82 rfl) (oH hw 62 rfl) (by decide) (by decide)) q1908a q1908c (g := (mkF m 11 #[sR e1] [(.ref sf), (.ref b1879)])) rfl (by rw [hml]; rfl) (Steps.refl _) (argsL := [(.ref sf)]) (rest := []) (lenOf pd37 rfl) rfl (oW rfl) (hb hby dp7_4_11) (fun _ _ => ⟨rfl, e1901, (oB rfl : 2 + 0 ≤ _), (oB rfl : 20 + 0 ≤ _)⟩)
  dsimp only [Pt.U, Pt.locs, Pt.cells, Pt.slots] at X1908 l1908 y1908 z1908 st1908 hQ1908
  subst l1908 y1908 z1908
  obtain ⟨rfl, Nq1908, K1908, v1908, k21908, F11908, F21908, F31908, F41908, A1908, E1908, gq1908, hv1908⟩ := hQ1908
  have N1909 := Fr.app N1892 Nq1908
  have P1910 : Rg p e below (T1908.setTop (mkF m 14 #[sR e1] [(.ref b1879)])) B0 := fun t k => P1902 t (by
    exact st1908.trans k)
  have hb01908 : h0.size ≤ v1908 := hv1908.elim (fun q => by rw [q]; exact sz_v1891) (fun q => Nat.le_trans K1895.1 q)
  have sf_v1908 : Safe Z own_EL s.vm T1908.heap v1908 := hv1908.elim (fun q => by rw [q]; exact Safe.keep K1908 (sfS (Safe.exa hZ.alike f1903 (by decide) (by decide)) (sfS sf_v1891 sf0)) C1898.1 sf_v1891) (fun q => Safe.keep K1908 (sfS (Safe.exa hZ.alike f1903 (by decide) (by decide)) (sfS sf_v1891 sf0)) C1898.1 (Safe.new q))
  have Z1911 : n0 ≤ T1908.heap.size := Nat.le_trans Z1894 K1908.1
  have K1912 : Keep h0 T1908.heap [] := K1895.trans K1908 ((allS (Or.inr sz_b1879) (allS (Or.inr sz_v1891) all0)))
  have O1913 : Old Z n0 T1908.heap := O1896.keep K1908 (allS g_b1879 (allS g_v1891 all0))
  have hk1914 : h0.size ≤ T1908.heap.size := Nat.le_trans hk1897 K1908.1
  have C1915 : CHr Z own_EL s.vm T1891.heap s.vm T1908.heap := CHr.keep K1908 (sfS (Safe.exa hZ.alike f1903 (by decide) (by decide)) (sfS sf_v1891 sf0)) C1898.1
  have R1916 : CHr Z own_EL s.vm h0 s.vm T1908.heap := R1899.trans C1915
  have g_v1908 : n0 ≤ v1908 := Nat.le_trans Z0 hb01908
  have sz_v1908 : h0.size ≤ v1908 := Nat.le_trans (Keep.refl h0 []).1 hb01908
  obtain ⟨y1917, T1917, h1917, k1917, t1917, kb1917, X1917, e1917, E1917, hS1917, hk1917, hZ1917, ho1917, Ea1917, Fc1917, Fv1917, Av1917, la1917, lb1917, cr1917, Li1917, ne1917, st1917⟩ := ldcCH X1908 hx hZ hown (oH hw 125 rfl) (own_wS hw) rfl hS0 hk1914 (own_EW hw) (by decide) C1915.1 (vs := [(vI 58), (vI 32)]) (z := (2 : Int32)) ⟨by decide, by decide⟩ (by decide) (by decide) (g := (mkF m 14 #[sR e1] [(.ref b1879)])) rfl (hb hby dp7_4_14) (n := 8) (by decide) (by decide) (oB rfl) (oB rfl)
  have P1918 : Rg p e below (T1917.setTop (mkF m 16 #[sR e1] [(.ref y1917), (.ref b1879)])) B0 := fun t k => P1910 t (by
    exact st1917 _ k)
  have Z1919 : n0 ≤ h1917.size := Nat.le_trans Z1911 E1917.1
  have K1920 : Keep h0 h1917 [] := K1912.ext E1917
  have O1921 : Old Z n0 h1917 := O1913.ext E1917
  have R1922 : CHr Z own_EL s.vm h0 T1917.vm h1917 := R1916.trans cr1917
  have hl9 : [(vI 58), (vI 32)] = ((own_by false [(58 : Int32), (32 : Int32)]).map Value.int) := rfl
  have A9 := Av1917
  rw [hl9] at A9
  have hd9 : ∀ c ∈ ([(58 : Int32), (32 : Int32)] : List Int32), ¬ c < 0 ∧ ¬ (255 : Int32) < c := by decide
  have f1923 := ((f1903.keep K1908).ext E1917)
  have f1924 := (F11908.ext E1917)
  have f1925 := (F21908.ext E1917)
  have f1926 := (F31908.ext E1917)
  have f1927 := (F41908.ext E1917)
  have f1928 := (A1908.ext E1917)
  have f1929 := (E1908.ext E1917)
  obtain ⟨cq1930, kq1930, q1930a, q1930b, q1930c⟩ := isOf hZ1917 e1917 f1923
  obtain ⟨_, _, ⟨T1930, L1930, k1930, n1930⟩, -, X1930, ⟨Lc1930, hQ1930, l1930, y1930, z1930⟩, st1930⟩ := X1917.virtualBack hx (y := y_23) (z := y_23) ho1917 (mvT hZ1917 (oH hw 78 rfl)) (mvT hZ1917 (oH hw 79 rfl)) (notFace_of_selects (args := #[]) (mvT hZ1917 (oH hw 81 rfl))) (mvT hZ1917 (oH hw 81 rfl)) (mvT hZ1917 (oH hw 80 rfl)) (by decide) (backOf (W := 0) (rm_aps00 l Z a0 hw [] b1879 v1908 k21908 (([] : List Int32) ++ cf) y1917 t1917 kb1917 (2 : Int32) [(58 : Int32), (32 : Int32)] G1 G2 h1917 n0 Z1919 g_b1879 g_v1908 f1923 f1924 f1925 f1926 f1927 f1928 f1929 (by simp only [List.length_append, List.length_nil, List.length_cons]; omega) Ea1917 Fv1917 Fc1917 A9 rfl (by decide) (Ne.symm (ne1917 v1908 (CHr.safe cr1917 A1908.lt sf_v1908)).2) Sg P5 Sf hG2 Sa Sh Sl O1921) hZ1917 (oH hw 82 rfl) (oH hw 62 rfl) (by decide) (by decide)) q1930a q1930c (g := (mkF m 16 #[sR e1] [(.ref y1917), (.ref b1879)])) rfl (by rw [hml]; rfl) (Steps.refl _) (argsL := [(.ref y1917)]) (rest := []) (lenOf pd37 rfl) rfl (oW rfl) (hb hby dp7_4_16) (fun _ _ => ⟨rfl, e1917, (oB rfl : 4 + 0 ≤ _), (oB rfl : 32 + 0 ≤ _)⟩)
  dsimp only [Pt.U, Pt.locs, Pt.cells, Pt.slots] at X1930 l1930 y1930 z1930 st1930 hQ1930
  subst l1930 y1930 z1930
  obtain ⟨rfl, Nq1930, K1930, v1930, k21930, F11930, F21930, F31930, F41930, A1930, E1930, gq1930, hv1930⟩ := hQ1930
  have N1931 := Fr.app N1909 Nq1930
  have P1932 : Rg p e below (T1930.setTop (mkF m 19 #[sR e1] [(.ref b1879)])) B0 := fun t k => P1918 t (by
    exact st1930.trans k)
  have hb01930 : h0.size ≤ v1930 := hv1930.elim (fun q => by rw [q]; exact sz_v1908) (fun q => Nat.le_trans K1920.1 q)
  have sf_v1930 : Safe Z own_EL T1917.vm T1930.heap v1930 := hv1930.elim (fun q => by rw [q]; exact Safe.keep K1930 (sfS (Safe.exa hZ1917.alike f1923 (by decide) (by decide)) (sfS (CHr.safe cr1917 A1908.lt sf_v1908) sf0)) cr1917.1 (CHr.safe cr1917 A1908.lt sf_v1908)) (fun q => Safe.keep K1930 (sfS (Safe.exa hZ1917.alike f1923 (by decide) (by decide)) (sfS (CHr.safe cr1917 A1908.lt sf_v1908) sf0)) cr1917.1 (Safe.new q))
  have Z1933 : n0 ≤ T1930.heap.size := Nat.le_trans Z1919 K1930.1
  have K1934 : Keep h0 T1930.heap [] := K1920.trans K1930 ((allS (Or.inr sz_b1879) (allS (Or.inr sz_v1908) all0)))
  have O1935 : Old Z n0 T1930.heap := O1921.keep K1930 (allS g_b1879 (allS g_v1908 all0))
  have hk1936 : k1917 ≤ T1930.heap.size := Nat.le_trans hk1917 K1930.1
  have C1937 : CHr Z own_EL T1917.vm h1917 T1917.vm T1930.heap := CHr.keep K1930 (sfS (Safe.exa hZ1917.alike f1923 (by decide) (by decide)) (sfS (CHr.safe cr1917 A1908.lt sf_v1908) sf0)) cr1917.1
  have R1938 : CHr Z own_EL s.vm h0 T1917.vm T1930.heap := R1922.trans C1937
  have g_v1930 : n0 ≤ v1930 := Nat.le_trans Z0 hb01930
  have sz_v1930 : h0.size ≤ v1930 := Nat.le_trans (Keep.refl h0 []).1 hb01930
  have f1939 := (((((F_message.ext E1879).keep K1891 (ninS (Nat.ne_of_lt (Nat.lt_of_lt_of_le F_message.lt (Nat.le_of_eq g1879.symm))) nin0)).keep K1908 (ninS (Nat.ne_of_lt (Nat.lt_of_lt_of_le F_message.lt (Nat.le_of_eq g1879.symm))) (ninS (Nat.ne_of_lt (Nat.lt_of_lt_of_le (F_message.ext E1879).lt s1891)) nin0))).ext E1917).keep K1930 (ninS (Nat.ne_of_lt (Nat.lt_of_lt_of_le F_message.lt (Nat.le_of_eq g1879.symm))) (ninS (Nat.ne_of_lt (Nat.lt_of_lt_of_le F_message.lt hb01908)) nin0)))
  obtain ⟨T1940, X1940, e1940, st1940⟩ := getF X1930 hx hZ1917 ho1917 (host := "") (Or.inl (oH hw 53 rfl)) Via.refl rfl f1939 (g := (mkF m 20 #[sR e1] [(.ref e1), (.ref b1879)])) rfl rfl (hb hby dp7_4_20)
  have P1941 : Rg p e below (T1940.setTop (mkF m 23 #[sR e1] [(.ref sm), (.ref b1879)])) B0 := fun t k => P1932 t (by
    refine XS.aloadN X1930.here hx rfl (hb hby dp7_4_19) rfl rfl ?_
    exact st1940 _ k)
  have hb9 : ∀ c ∈ ((([] : List Int32) ++ cf) ++ [(58 : Int32), (32 : Int32)]), ¬ c < 0 ∧ ¬ (255 : Int32) < c := by
    intro c hc
    rcases List.mem_append.mp hc with q | q
    · exact hLf rfl c (by simpa using q)
    · exact hd9 c q
  have f1942 := (f1923.keep K1930)
  have f1943 := (((((E_sm.ext E1879).keep K1891).keep K1908).ext E1917).keep K1930)
  have f1944 := (((((V_sm.ext E1879).keep K1891 (ninS (Nat.ne_of_lt (Nat.lt_of_lt_of_le C_sm.lt (Nat.le_of_eq g1879.symm))) nin0)).keep K1908 (ninS (Nat.ne_of_lt (Nat.lt_of_lt_of_le C_sm.lt (Nat.le_of_eq g1879.symm))) (ninS (Nat.ne_of_lt (Nat.lt_of_lt_of_le (C_sm.ext E1879).lt s1891)) nin0))).ext E1917).keep K1930 (ninS (Nat.ne_of_lt (Nat.lt_of_lt_of_le C_sm.lt (Nat.le_of_eq g1879.symm))) (ninS (Nat.ne_of_lt (Nat.lt_of_lt_of_le C_sm.lt hb01908)) nin0)))
  have f1945 := (((((C_sm.ext E1879).keep K1891 (ninS (Nat.ne_of_lt (Nat.lt_of_lt_of_le C_sm.lt (Nat.le_of_eq g1879.symm))) nin0)).keep K1908 (ninS (Nat.ne_of_lt (Nat.lt_of_lt_of_le C_sm.lt (Nat.le_of_eq g1879.symm))) (ninS (Nat.ne_of_lt (Nat.lt_of_lt_of_le (C_sm.ext E1879).lt s1891)) nin0))).ext E1917).keep K1930 (ninS (Nat.ne_of_lt (Nat.lt_of_lt_of_le C_sm.lt (Nat.le_of_eq g1879.symm))) (ninS (Nat.ne_of_lt (Nat.lt_of_lt_of_le C_sm.lt hb01908)) nin0)))
  have f1946 := (((((A_sm.ext E1879).keep K1891 (ninS (Nat.ne_of_lt (Nat.lt_of_lt_of_le A_sm.lt (Nat.le_of_eq g1879.symm))) nin0)).keep K1908 (ninS (Nat.ne_of_lt (Nat.lt_of_lt_of_le A_sm.lt (Nat.le_of_eq g1879.symm))) (ninS (Nat.ne_of_lt (Nat.lt_of_lt_of_le (A_sm.ext E1879).lt s1891)) nin0))).ext E1917).keep K1930 (ninS (Nat.ne_of_lt (Nat.lt_of_lt_of_le A_sm.lt (Nat.le_of_eq g1879.symm))) (ninS (Nat.ne_of_lt (Nat.lt_of_lt_of_le A_sm.lt hb01908)) nin0)))
  obtain ⟨cq1947, kq1947, q1947a, q1947b, q1947c⟩ := isOf hZ1917 e1940 f1942
  obtain ⟨_, _, ⟨T1947, L1947, k1947, n1947⟩, -, X1947, ⟨Lc1947, hQ1947, l1947, y1947, z1947⟩, st1947⟩ := X1940.virtualBack hx (y := y_23) (z := y_23) ho1917 (mvT hZ1917 (oH hw 78 rfl)) (mvT hZ1917 (oH hw 79 rfl)) (notFace_of_selects (args := #[]) (mvT hZ1917 (oH hw 81 rfl))) (mvT hZ1917 (oH hw 81 rfl)) (mvT hZ1917 (oH hw 80 rfl)) (by decide) (backOf (W := 0) (rm_aps10 l Z a0 hw [] b1879 v1930 k21930 ((([] : List Int32) ++ cf) ++ [(58 : Int32), (32 : Int32)]) sm tm km Nm cm G1 G2 T1930.heap n0 Z1933 g_b1879 g_v1930 f1942 F11930 F21930 F31930 F41930 A1930 E1930 (by simp only [List.length_append, List.length_nil, List.length_cons]; omega) f1943 f1944 f1945 f1946 N_sm hm2 (Nat.ne_of_lt (Nat.lt_of_lt_of_le A_sm.lt hb01930)) hb9 Sg P5 Sf hG2 Sa Sh Sl O1935) hZ1917 (oH hw 82 rfl) (oH hw 62 rfl) (by decide) (by decide)) q1947a q1947c (g := (mkF m 23 #[sR e1] [(.ref sm), (.ref b1879)])) rfl (by rw [hml]; rfl) (Steps.refl _) (argsL := [(.ref sm)]) (rest := []) (lenOf pd37 rfl) rfl (oW rfl) (hb hby dp7_4_23) (fun _ _ => ⟨rfl, e1940, (oB rfl : 4 + 1 ≤ _), (oB rfl : 32 + 32 ≤ _)⟩)
  dsimp only [Pt.U, Pt.locs, Pt.cells, Pt.slots] at X1947 l1947 y1947 z1947 st1947 hQ1947
  subst l1947 y1947 z1947
  obtain ⟨rfl, Nq1947, K1947, v1947, k21947, F11947, F21947, F31947, F41947, A1947, E1947, gq1947, hv1947⟩ := hQ1947
  have N1948 := Fr.app N1931 Nq1947
  have P1949 : Rg p e below (T1947.setTop (mkF m 26 #[sR e1] [(.ref b1879)])) B0 := fun t k => P1941 t (by
    exact st1947.trans k)
  have hb01947 : h0.size ≤ v1947 := hv1947.elim (fun q => by rw [q]; exact sz_v1930) (fun q => Nat.le_trans K1934.1 q)
  have sf_v1947 : Safe Z own_EL T1917.vm T1947.heap v1947 := hv1947.elim (fun q => by rw [q]; exact Safe.keep K1947 (sfS (Safe.exa hZ1917.alike f1942 (by decide) (by decide)) (sfS sf_v1930 sf0)) C1937.1 sf_v1930) (fun q => Safe.keep K1947 (sfS (Safe.exa hZ1917.alike f1942 (by decide) (by decide)) (sfS sf_v1930 sf0)) C1937.1 (Safe.new q))
  have Z1950 : n0 ≤ T1947.heap.size := Nat.le_trans Z1933 K1947.1
  have K1951 : Keep h0 T1947.heap [] := K1934.trans K1947 ((allS (Or.inr sz_b1879) (allS (Or.inr sz_v1930) all0)))
  have O1952 : Old Z n0 T1947.heap := O1935.keep K1947 (allS g_b1879 (allS g_v1930 all0))
  have hk1953 : k1917 ≤ T1947.heap.size := Nat.le_trans hk1936 K1947.1
  have C1954 : CHr Z own_EL T1917.vm T1930.heap T1917.vm T1947.heap := CHr.keep K1947 (sfS (Safe.exa hZ1917.alike f1942 (by decide) (by decide)) (sfS sf_v1930 sf0)) C1937.1
  have R1955 : CHr Z own_EL s.vm h0 T1917.vm T1947.heap := R1938.trans C1954
  have g_v1947 : n0 ≤ v1947 := Nat.le_trans Z0 hb01947
  have sz_v1947 : h0.size ≤ v1947 := Nat.le_trans (Keep.refl h0 []).1 hb01947
  have f1956 := (f1942.keep K1947)
  obtain ⟨cq1957, kq1957, q1957a, q1957b, q1957c⟩ := isOf hZ1917 rfl f1956
  obtain ⟨_, _, ⟨T1957, L1957, k1957, n1957⟩, -, X1957, ⟨Lc1957, hQ1957, l1957, y1957, z1957⟩, st1957⟩ := X1947.virtualBack hx (y := y_35) (z := y_35) ho1917 (mvT hZ1917 (oH hw 126 rfl)) (mvT hZ1917 (oH hw 127 rfl)) (notFace_of_selects (args := #[]) (mvT hZ1917 (oH hw 129 rfl))) (mvT hZ1917 (oH hw 129 rfl)) (mvT hZ1917 (oH hw 128 rfl)) (by decide) (backOf (W := 0) (rm_sts1 l Z a0 hw [] b1879 v1947 k21947 (((([] : List Int32) ++ cf) ++ [(58 : Int32), (32 : Int32)]) ++ cm) G1 G2 T1947.heap n0 Z1950 g_b1879 g_v1947 f1956 F11947 F21947 F31947 F41947 A1947 E1947 (by simp only [List.length_append, List.length_nil, List.length_cons]; omega) Sg P5 Sf hG2 Sa Sh Sl O1952) hZ1917 (oH hw 130 rfl) (oH hw 62 rfl) (by decide) (by decide)) q1957a q1957c (g := (mkF m 26 #[sR e1] [(.ref b1879)])) rfl (by rw [hml]; rfl) (Steps.refl _) (argsL := []) (rest := []) (lenOf pd38 rfl) rfl (oW rfl) (hb hby dp7_4_26) (fun _ _ => ⟨rfl, rfl, (oB rfl : 5 + 2 ≤ _), (oB rfl : 64 + 16 ≤ _)⟩)
  dsimp only [Pt.U, Pt.locs, Pt.cells, Pt.slots] at X1957 l1957 y1957 z1957 st1957 hQ1957
  subst l1957 y1957 z1957
  obtain ⟨x1957, rfl, Nq1957, K1957, zx1957, Es1957, Fc1957, t1957, k1957, N1957_, Fv1957, A1957, hN1957⟩ := hQ1957
  have N1958 := Fr.app N1948 Nq1957
  have P1959 : Rg p e below (T1957.setTop (mkF m 29 #[sR e1] [(.ref x1957)])) B0 := fun t k => P1949 t (by
    exact st1957.trans k)
  have Z1960 : n0 ≤ T1957.heap.size := Nat.le_trans Z1950 K1957.1
  have K1961 : Keep h0 T1957.heap [] := K1951.trans K1957 (all0)
  have O1962 : Old Z n0 T1957.heap := O1952.keep K1957 all0
  have hk1963 : k1917 ≤ T1957.heap.size := Nat.le_trans hk1953 K1957.1
  have C1964 : CHr Z own_EL T1917.vm T1947.heap T1917.vm T1957.heap := CHr.keep K1957 sf0 C1954.1
  have R1965 : CHr Z own_EL s.vm h0 T1917.vm T1957.heap := R1955.trans C1964
  obtain ⟨fs1966, hr1966, hrun1966, hended1966, hRW1966⟩ := X1957.leaveW (v := some (.ref x1957)) hS1917 hk1963 (fun h => by rw [Bd.returns] at h; cases h)
  have hce1966 : CHr Z own_EL s.vm s.heap T1957.vm T1957.heap := by
    rw [hh]
    exact R1965.trans (CHv.at X1957 hZ1917 (own_EW hw) C1964.1)
  refine ⟨_, _, pre0 _ (P1959 _ ?_), hrun1966, hended1966, _, _, rfl, ?_, hce1966, ⟨hRW1966.1, hRW1966.2.1, hRW1966.2.2.1, hRW1966.2.2.2.mono (oB rfl) (oB rfl)⟩⟩
  · exact retOut X1957 hx Bd.returns rfl (Or.inr (Or.inr (Or.inr (Or.inr ⟨rfl, rfl, rfl⟩)))) (hb hby dp7_4_29) hr1966
  · show Q_tos01 Z cf cm h0 n0 _ T1957.heap _
    exact ⟨x1957, rfl, N1958, K1961, Es1957, Fc1957, t1957, k1957, N1957_, Fv1957, A1957, hN1957⟩
theorem ef_tos10 (m : MethodId) (x0 : Addr) : entryFrame m #[(.ref x0)] 1 = mkF m 0 #[sR x0] [] := by (first | (simp [entryFrame, mkF, argsToLocals, Value.category]; done) | rfl)
def Q_tos10 (Z : State) (cf cm : List Int32) (h0 : Heap) (n0 : Nat) (v : Option Value) (h : Heap) (L : List Loc) : Prop := ∃ s : Addr, v = some (.ref s) ∧ Fr n0 L ∧ Keep h0 h [] ∧ Exa Z h s nS ∧ Fld Z h s nS "coder" "B" (.int (own_co true)) ∧ ∃ (t : Addr) (k : ClassId) (N : Int32), Fld Z h s nS "value" "[B" (.ref t) ∧ Arv Z h t k .byte N ((own_by true (((([] : List Int32) ++ cf) ++ [(58 : Int32), (32 : Int32)]) ++ cm)).map Value.int) (vI 0) ∧ N = Int32.ofNat (own_by true (((([] : List Int32) ++ cf) ++ [(58 : Int32), (32 : Int32)]) ++ cm)).length
theorem rm_tos10 (l : Launch) (Z : State) (a0 : Array Value) (hw : Tb a0 Z) (ws : List Jvm.Cond) (e1 sf tf : Addr) (kf : ClassId) (Nf : Int32) (cf : List Int32) (sm tm : Addr) (km : ClassId) (Nm : Int32) (cm : List Int32) (G1 : Int32) (G2 : Value) (h0 : Heap) (n0 : Nat) (Z0 : n0 ≤ h0.size) (F_field : Fld Z h0 e1 "com/example/tallyline/tallyline/core/FieldError" "field" "Ljava/lang/String;" (.ref sf)) (F_message : Fld Z h0 e1 "com/example/tallyline/tallyline/core/FieldError" "message" "Ljava/lang/String;" (.ref sm)) (E_sf : Exa Z h0 sf nS) (V_sf : Fld Z h0 sf nS "value" "[B" (.ref tf)) (C_sf : Fld Z h0 sf nS "coder" "B" (vI 1)) (A_sf : Arv Z h0 tf kf .byte Nf ((own_by true cf).map Value.int) (vI 0)) (N_sf : Nf = Int32.ofNat (own_by true cf).length) (E_sm : Exa Z h0 sm nS) (V_sm : Fld Z h0 sm nS "value" "[B" (.ref tm)) (C_sm : Fld Z h0 sm nS "coder" "B" (vI 0)) (A_sm : Arv Z h0 tm km .byte Nm ((own_by false cm).map Value.int) (vI 0)) (N_sm : Nm = Int32.ofNat (own_by false cm).length) (hf2 : cf.length ≤ 2) (hm2 : cm.length ≤ 2) (hLf : true = false → ∀ c ∈ cf, ¬ c < 0 ∧ ¬ (255 : Int32) < c) (hLm : false = false → ∀ c ∈ cm, ¬ c < 0 ∧ ¬ (255 : Int32) < c) (Sg : oSg Z G1) (P5 : ¬ (G1 = (0 : Int32))) (Sf : oSf Z G2) (hG2 : G2.isRef = true) (Sa : oSa Z) (Sh : oSh Z) (Sl : oSl Z) (Ol : Old Z n0 h0) :
    MH l Z h0 y_54 p7_4 1 (some (.object "java/lang/String")) ws (rM 10 7 80 143) #[(.ref e1)] (Q_tos10 Z cf cm h0 n0) := by
  refine MetFree.of_bodySF (plainFor_of_name pn_com_example_tallyline_tallyline_core_FieldError) hisR ?_
  intro p e s m args below meth c s₁ Bd hml hP hK
  obtain ⟨rfl, hZ, hh, hCH0⟩ := hP
  have hx := Bd.exec
  have hby := Bd.bytes
  have hown : s.vm.findClass "com/example/tallyline/tallyline/core/FieldError" = some m.cls := findClass_of_methodNamed Bd.named
  have X0 : Stand p l e (rM 10 7 80 143) (s.setVm s.vm) m #[(.ref e1)] below meth c s₁ [] 0 0 := Stand.of_body Bd
  have e0 : s₁.heap = h0 := by rw [← hh, Bd.state]; rfl
  have N0 := Fr.nil n0
  obtain ⟨B0, pre0, P0⟩ : ∃ B, Rg p e below B (s₁.setTop (entryFrame m #[(.ref e1)] 1)) ∧ Rg p e below (s₁.setTop (mkF m 0 #[sR e1] [])) B := ⟨_, fun t k => castTop (ef_tos10 m e1) k, fun t k => k⟩
  have hS0 : s.Since s.vm h0.size := (State.WarmedH.refl s).since _
  have hCR0 : CHr Z own_EL s.vm h0 s.vm h0 := CHr.refl hCH0
  obtain ⟨T1967, h1967, X1967, e1967, E1967, A1967, D1967, -, st1967⟩ := newO X0 hx hZ hown (oH hw 60 rfl) (oH hw 61 rfl) (oH hw 62 rfl) e0 (g := (mkF m 0 #[sR e1] [])) rfl (hb hby dp7_4_0) (by decide) (by decide)
  obtain ⟨b1967, g1967⟩ : ∃ z, z = h0.size := ⟨_, rfl⟩
  rw [← g1967] at A1967 D1967 st1967
  have g_b1967 : n0 ≤ b1967 := Nat.le_trans Z0 (Nat.le_of_eq g1967.symm)
  have sz_b1967 : h0.size ≤ b1967 := Nat.le_trans (Keep.refl h0 []).1 (Nat.le_of_eq g1967.symm)
  have P1968 : Rg p e below (T1967.setTop (mkF m 3 #[sR e1] [(.ref b1967)])) B0 := fun t k => P0 t (by
    exact st1967 _ k)
  have Z1969 : n0 ≤ h1967.size := Nat.le_trans Z0 E1967.1
  have K1970 : Keep h0 h1967 [] := (Keep.refl h0 []).ext E1967
  have O1971 : Old Z n0 h1967 := Ol.ext E1967
  have hk1972 : h0.size ≤ h1967.size := Nat.le_trans (Nat.le_refl _) E1967.1
  have C1973 : CHr Z own_EL s.vm h0 s.vm h1967 := CHr.ext E1967 hCH0
  have R1974 : CHr Z own_EL s.vm h0 s.vm h1967 := hCR0.trans C1973
  have sf_b1967 : Safe Z own_EL s.vm h1967 b1967 := Safe.ext E1967 hCH0 (Safe.new (Nat.le_of_eq g1967.symm))
  have f1975 : Fld Z h1967 b1967 nA "value" "[B" .null := D1967 (Or.inl (oH hw 75 rfl)) (ty := (.array .byte)) (by decide)
  have f1976 : Fld Z h1967 b1967 nA "coder" "B" (vI 0) := D1967 (Or.inl (oH hw 77 rfl)) (ty := .byte) (by decide)
  have f1977 : Fld Z h1967 b1967 nA "count" "I" (vI 0) := D1967 (Or.inl (oH hw 99 rfl)) (ty := .int) (by decide)
  have f1978 : Fld Z h1967 b1967 nA "maybeLatin1" "Z" (vI 0) := D1967 (Or.inl (oH hw 255 rfl)) (ty := .boolean) (by decide)
  obtain ⟨_, _, ⟨T1979, L1979, k1979, n1979⟩, -, X1979, ⟨Lc1979, hQ1979, l1979, y1979, z1979⟩, st1979⟩ := X1967.specialBack hx (y := y_25) rfl hown (mvT hZ (oH hw 63 rfl)) (mvT hZ (oH hw 64 rfl)) (mvT hZ (oH hw 65 rfl)) (by decide) (backOf (W := 1) (rm_sbi l Z a0 hw [] b1967 G1 G2 h1967 n0 Z1969 g_b1967 A1967 f1975 f1976 f1977 f1978 Sg P5 Sf hG2 Sa Sh Sl O1971) hZ (oH hw 65 rfl) (oH hw 62 rfl) (by decide) (by decide)) (g := (mkF m 4 #[sR e1] [(.ref b1967), (.ref b1967)])) rfl (by rw [hml]; rfl) (Steps.refl _) (a := b1967) (argsL := []) (rest := [(.ref b1967)]) (lenOf pd13 rfl) rfl (oW rfl) (hb hby dp7_4_4) (fun _ _ => ⟨rfl, e1967, (oB rfl : 1 + 1 ≤ _), (oB rfl : 4 + 16 ≤ _)⟩)
  dsimp only [Pt.U, Pt.locs, Pt.cells, Pt.slots] at X1979 l1979 y1979 z1979 st1979 hQ1979
  subst l1979 y1979 z1979
  obtain ⟨rfl, Nq1979, K1979, v1979, k21979, F11979, F21979, F31979, F41979, A1979, E1979, s1979⟩ := hQ1979
  have N1980 := Fr.app N0 Nq1979
  have P1981 : Rg p e below (T1979.setTop (mkF m 7 #[sR e1] [(.ref b1967)])) B0 := fun t k => P1968 t (by
    refine XS.dup X1967.here hx rfl (hb hby dp7_4_3) rfl rfl ?_
    exact st1979.trans k)
  have sf_v1979 : Safe Z own_EL s.vm T1979.heap v1979 := Safe.keep K1979 (sfS (Safe.exa hZ.alike A1967 (by decide) (by decide)) sf0) C1973.1 (Safe.new s1979)
  have Z1982 : n0 ≤ T1979.heap.size := Nat.le_trans Z1969 K1979.1
  have K1983 : Keep h0 T1979.heap [] := K1970.trans K1979 ((allS (Or.inr sz_b1967) all0))
  have O1984 : Old Z n0 T1979.heap := O1971.keep K1979 (allS g_b1967 all0)
  have hk1985 : h0.size ≤ T1979.heap.size := Nat.le_trans hk1972 K1979.1
  have C1986 : CHr Z own_EL s.vm h1967 s.vm T1979.heap := CHr.keep K1979 (sfS (Safe.exa hZ.alike A1967 (by decide) (by decide)) sf0) C1973.1
  have R1987 : CHr Z own_EL s.vm h0 s.vm T1979.heap := R1974.trans C1986
  have g_v1979 : n0 ≤ v1979 := Nat.le_trans Z1969 s1979
  have sz_v1979 : h0.size ≤ v1979 := Nat.le_trans K1970.1 s1979
  have f1988 := ((F_field.ext E1967).keep K1979 (ninS (Nat.ne_of_lt (Nat.lt_of_lt_of_le F_message.lt (Nat.le_of_eq g1967.symm))) nin0))
  obtain ⟨T1989, X1989, e1989, st1989⟩ := getF X1979 hx hZ hown (host := "") (Or.inl (oH hw 51 rfl)) Via.refl rfl f1988 (g := (mkF m 8 #[sR e1] [(.ref e1), (.ref b1967)])) rfl rfl (hb hby dp7_4_8)
  have P1990 : Rg p e below (T1989.setTop (mkF m 11 #[sR e1] [(.ref sf), (.ref b1967)])) B0 := fun t k => P1981 t (by
    refine XS.aloadN X1979.here hx rfl (hb hby dp7_4_7) rfl rfl ?_
    exact st1989 _ k)
  have f1991 := (A1967.keep K1979)
  have f1992 := ((E_sf.ext E1967).keep K1979)
  have f1993 := ((V_sf.ext E1967).keep K1979 (ninS (Nat.ne_of_lt (Nat.lt_of_lt_of_le C_sf.lt (Nat.le_of_eq g1967.symm))) nin0))
  have f1994 := ((C_sf.ext E1967).keep K1979 (ninS (Nat.ne_of_lt (Nat.lt_of_lt_of_le C_sf.lt (Nat.le_of_eq g1967.symm))) nin0))
  have f1995 := ((A_sf.ext E1967).keep K1979 (ninS (Nat.ne_of_lt (Nat.lt_of_lt_of_le A_sf.lt (Nat.le_of_eq g1967.symm))) nin0))
  obtain ⟨cq1996, kq1996, q1996a, q1996b, q1996c⟩ := isOf hZ e1989 f1991
  obtain ⟨_, _, ⟨T1996, L1996, k1996, n1996⟩, -, X1996, ⟨Lc1996, hQ1996, l1996, y1996, z1996⟩, st1996⟩ := X1989.virtualBack hx (y := y_23) (z := y_23) hown (mvT hZ (oH hw 78 rfl)) (mvT hZ (oH hw 79 rfl)) (notFace_of_selects (args := #[]) (mvT hZ (oH hw 81 rfl))) (mvT hZ (oH hw 81 rfl)) (mvT hZ (oH hw 80 rfl)) (by decide) (backOf (W := 0) (rm_aps10 l Z a0 hw [] b1967 v1979 k21979 ([] : List Int32) sf tf kf Nf cf G1 G2 T1979.heap n0 Z1982 g_b1967 g_v1979 f1991 F11979 F21979 F31979 F41979 A1979 E1979 (by decide) f1992 f1993 f1994 f1995 N_sf hf2 (Nat.ne_of_lt (Nat.lt_of_lt_of_le (A_sf.ext E1967).lt s1979)) (fun c hc => nomatch hc) Sg P5 Sf hG2 Sa Sh Sl O1984) hZ (oH hw 82 rfl) (oH hw 62 rfl) (by decide) (by decide)) q1996a q1996c (g := (mkF m 11 #[sR e1] [(.ref sf), (.ref b1967)])) rfl (by rw [hml]; rfl) (Steps.refl _) (argsL := [(.ref sf)]) (rest := []) (lenOf pd37 rfl) rfl (oW rfl) (hb hby dp7_4_11) (fun _ _ => ⟨rfl, e1989, (oB rfl : 2 + 1 ≤ _), (oB rfl : 20 + 32 ≤ _)⟩)
  dsimp only [Pt.U, Pt.locs, Pt.cells, Pt.slots] at X1996 l1996 y1996 z1996 st1996 hQ1996
  subst l1996 y1996 z1996
  obtain ⟨rfl, Nq1996, K1996, v1996, k21996, F11996, F21996, F31996, F41996, A1996, E1996, gq1996, hv1996⟩ := hQ1996
  have N1997 := Fr.app N1980 Nq1996
  have P1998 : Rg p e below (T1996.setTop (mkF m 14 #[sR e1] [(.ref b1967)])) B0 := fun t k => P1990 t (by
    exact st1996.trans k)
  have hb01996 : h0.size ≤ v1996 := hv1996.elim (fun q => by rw [q]; exact sz_v1979) (fun q => Nat.le_trans K1983.1 q)
  have sf_v1996 : Safe Z own_EL s.vm T1996.heap v1996 := hv1996.elim (fun q => by rw [q]; exact Safe.keep K1996 (sfS (Safe.exa hZ.alike f1991 (by decide) (by decide)) (sfS sf_v1979 sf0)) C1986.1 sf_v1979) (fun q => Safe.keep K1996 (sfS (Safe.exa hZ.alike f1991 (by decide) (by decide)) (sfS sf_v1979 sf0)) C1986.1 (Safe.new q))
  have Z1999 : n0 ≤ T1996.heap.size := Nat.le_trans Z1982 K1996.1
  have K2000 : Keep h0 T1996.heap [] := K1983.trans K1996 ((allS (Or.inr sz_b1967) (allS (Or.inr sz_v1979) all0)))
  have O2001 : Old Z n0 T1996.heap := O1984.keep K1996 (allS g_b1967 (allS g_v1979 all0))
  have hk2002 : h0.size ≤ T1996.heap.size := Nat.le_trans hk1985 K1996.1
  have C2003 : CHr Z own_EL s.vm T1979.heap s.vm T1996.heap := CHr.keep K1996 (sfS (Safe.exa hZ.alike f1991 (by decide) (by decide)) (sfS sf_v1979 sf0)) C1986.1
  have R2004 : CHr Z own_EL s.vm h0 s.vm T1996.heap := R1987.trans C2003
  have g_v1996 : n0 ≤ v1996 := Nat.le_trans Z0 hb01996
  have sz_v1996 : h0.size ≤ v1996 := Nat.le_trans (Keep.refl h0 []).1 hb01996
  obtain ⟨y2005, T2005, h2005, k2005, t2005, kb2005, X2005, e2005, E2005, hS2005, hk2005, hZ2005, ho2005, Ea2005, Fc2005, Fv2005, Av2005, la2005, lb2005, cr2005, Li2005, ne2005, st2005⟩ := ldcCH X1996 hx hZ hown (oH hw 125 rfl) (own_wS hw) rfl hS0 hk2002 (own_EW hw) (by decide) C2003.1 (vs := [(vI 58), (vI 32)]) (z := (2 : Int32)) ⟨by decide, by decide⟩ (by decide) (by decide) (g := (mkF m 14 #[sR e1] [(.ref b1967)])) rfl (hb hby dp7_4_14) (n := 8) (by decide) (by decide) (oB rfl) (oB rfl)
  have P2006 : Rg p e below (T2005.setTop (mkF m 16 #[sR e1] [(.ref y2005), (.ref b1967)])) B0 := fun t k => P1998 t (by
    exact st2005 _ k)
  have Z2007 : n0 ≤ h2005.size := Nat.le_trans Z1999 E2005.1
  have K2008 : Keep h0 h2005 [] := K2000.ext E2005
  have O2009 : Old Z n0 h2005 := O2001.ext E2005
  have R2010 : CHr Z own_EL s.vm h0 T2005.vm h2005 := R2004.trans cr2005
  have hl9 : [(vI 58), (vI 32)] = ((own_by false [(58 : Int32), (32 : Int32)]).map Value.int) := rfl
  have A9 := Av2005
  rw [hl9] at A9
  have hd9 : ∀ c ∈ ([(58 : Int32), (32 : Int32)] : List Int32), ¬ c < 0 ∧ ¬ (255 : Int32) < c := by decide
  have f2011 := ((f1991.keep K1996).ext E2005)
  have f2012 := (F11996.ext E2005)
  have f2013 := (F21996.ext E2005)
  have f2014 := (F31996.ext E2005)
  have f2015 := (F41996.ext E2005)
  have f2016 := (A1996.ext E2005)
  have f2017 := (E1996.ext E2005)
  obtain ⟨cq2018, kq2018, q2018a, q2018b, q2018c⟩ := isOf hZ2005 e2005 f2011
  obtain ⟨_, _, ⟨T2018, L2018, k2018, n2018⟩, -, X2018, ⟨Lc2018, hQ2018, l2018, y2018, z2018⟩, st2018⟩ := X2005.virtualBack hx (y := y_23) (z := y_23) ho2005 (mvT hZ2005 (oH hw 78 rfl)) (mvT hZ2005 (oH hw 79 rfl)) (notFace_of_selects (args := #[]) (mvT hZ2005 (oH hw 81 rfl))) (mvT hZ2005 (oH hw 81 rfl)) (mvT hZ2005 (oH hw 80 rfl)) (by decide) (backOf (W := 0) (rm_aps01 l Z a0 hw [] b1967 v1996 k21996 (([] : List Int32) ++ cf) y2005 t2005 kb2005 (2 : Int32) [(58 : Int32), (32 : Int32)] G1 G2 h2005 n0 Z2007 g_b1967 g_v1996 f2011 f2012 f2013 f2014 f2015 f2016 f2017 (by simp only [List.length_append, List.length_nil, List.length_cons]; omega) Ea2005 Fv2005 Fc2005 A9 rfl (by decide) (Ne.symm (ne2005 v1996 (CHr.safe cr2005 A1996.lt sf_v1996)).2) hd9 Sg P5 Sf hG2 Sa Sh Sl O2009) hZ2005 (oH hw 82 rfl) (oH hw 62 rfl) (by decide) (by decide)) q2018a q2018c (g := (mkF m 16 #[sR e1] [(.ref y2005), (.ref b1967)])) rfl (by rw [hml]; rfl) (Steps.refl _) (argsL := [(.ref y2005)]) (rest := []) (lenOf pd37 rfl) rfl (oW rfl) (hb hby dp7_4_16) (fun _ _ => ⟨rfl, e2005, (oB rfl : 5 + 0 ≤ _), (oB rfl : 64 + 0 ≤ _)⟩)
  dsimp only [Pt.U, Pt.locs, Pt.cells, Pt.slots] at X2018 l2018 y2018 z2018 st2018 hQ2018
  subst l2018 y2018 z2018
  obtain ⟨rfl, Nq2018, K2018, v2018, k22018, F12018, F22018, F32018, F42018, A2018, E2018, gq2018, hv2018⟩ := hQ2018
  have N2019 := Fr.app N1997 Nq2018
  have P2020 : Rg p e below (T2018.setTop (mkF m 19 #[sR e1] [(.ref b1967)])) B0 := fun t k => P2006 t (by
    exact st2018.trans k)
  have hb02018 : h0.size ≤ v2018 := hv2018.elim (fun q => by rw [q]; exact sz_v1996) (fun q => Nat.le_trans K2008.1 q)
  have sf_v2018 : Safe Z own_EL T2005.vm T2018.heap v2018 := hv2018.elim (fun q => by rw [q]; exact Safe.keep K2018 (sfS (Safe.exa hZ2005.alike f2011 (by decide) (by decide)) (sfS (CHr.safe cr2005 A1996.lt sf_v1996) sf0)) cr2005.1 (CHr.safe cr2005 A1996.lt sf_v1996)) (fun q => Safe.keep K2018 (sfS (Safe.exa hZ2005.alike f2011 (by decide) (by decide)) (sfS (CHr.safe cr2005 A1996.lt sf_v1996) sf0)) cr2005.1 (Safe.new q))
  have Z2021 : n0 ≤ T2018.heap.size := Nat.le_trans Z2007 K2018.1
  have K2022 : Keep h0 T2018.heap [] := K2008.trans K2018 ((allS (Or.inr sz_b1967) (allS (Or.inr sz_v1996) all0)))
  have O2023 : Old Z n0 T2018.heap := O2009.keep K2018 (allS g_b1967 (allS g_v1996 all0))
  have hk2024 : k2005 ≤ T2018.heap.size := Nat.le_trans hk2005 K2018.1
  have C2025 : CHr Z own_EL T2005.vm h2005 T2005.vm T2018.heap := CHr.keep K2018 (sfS (Safe.exa hZ2005.alike f2011 (by decide) (by decide)) (sfS (CHr.safe cr2005 A1996.lt sf_v1996) sf0)) cr2005.1
  have R2026 : CHr Z own_EL s.vm h0 T2005.vm T2018.heap := R2010.trans C2025
  have g_v2018 : n0 ≤ v2018 := Nat.le_trans Z0 hb02018
  have sz_v2018 : h0.size ≤ v2018 := Nat.le_trans (Keep.refl h0 []).1 hb02018
  have f2027 := (((((F_message.ext E1967).keep K1979 (ninS (Nat.ne_of_lt (Nat.lt_of_lt_of_le F_message.lt (Nat.le_of_eq g1967.symm))) nin0)).keep K1996 (ninS (Nat.ne_of_lt (Nat.lt_of_lt_of_le F_message.lt (Nat.le_of_eq g1967.symm))) (ninS (Nat.ne_of_lt (Nat.lt_of_lt_of_le (F_message.ext E1967).lt s1979)) nin0))).ext E2005).keep K2018 (ninS (Nat.ne_of_lt (Nat.lt_of_lt_of_le F_message.lt (Nat.le_of_eq g1967.symm))) (ninS (Nat.ne_of_lt (Nat.lt_of_lt_of_le F_message.lt hb01996)) nin0)))
  obtain ⟨T2028, X2028, e2028, st2028⟩ := getF X2018 hx hZ2005 ho2005 (host := "") (Or.inl (oH hw 53 rfl)) Via.refl rfl f2027 (g := (mkF m 20 #[sR e1] [(.ref e1), (.ref b1967)])) rfl rfl (hb hby dp7_4_20)
  have P2029 : Rg p e below (T2028.setTop (mkF m 23 #[sR e1] [(.ref sm), (.ref b1967)])) B0 := fun t k => P2020 t (by
    refine XS.aloadN X2018.here hx rfl (hb hby dp7_4_19) rfl rfl ?_
    exact st2028 _ k)
  have f2030 := (f2011.keep K2018)
  have f2031 := (((((E_sm.ext E1967).keep K1979).keep K1996).ext E2005).keep K2018)
  have f2032 := (((((V_sm.ext E1967).keep K1979 (ninS (Nat.ne_of_lt (Nat.lt_of_lt_of_le C_sm.lt (Nat.le_of_eq g1967.symm))) nin0)).keep K1996 (ninS (Nat.ne_of_lt (Nat.lt_of_lt_of_le C_sm.lt (Nat.le_of_eq g1967.symm))) (ninS (Nat.ne_of_lt (Nat.lt_of_lt_of_le (C_sm.ext E1967).lt s1979)) nin0))).ext E2005).keep K2018 (ninS (Nat.ne_of_lt (Nat.lt_of_lt_of_le C_sm.lt (Nat.le_of_eq g1967.symm))) (ninS (Nat.ne_of_lt (Nat.lt_of_lt_of_le C_sm.lt hb01996)) nin0)))
  have f2033 := (((((C_sm.ext E1967).keep K1979 (ninS (Nat.ne_of_lt (Nat.lt_of_lt_of_le C_sm.lt (Nat.le_of_eq g1967.symm))) nin0)).keep K1996 (ninS (Nat.ne_of_lt (Nat.lt_of_lt_of_le C_sm.lt (Nat.le_of_eq g1967.symm))) (ninS (Nat.ne_of_lt (Nat.lt_of_lt_of_le (C_sm.ext E1967).lt s1979)) nin0))).ext E2005).keep K2018 (ninS (Nat.ne_of_lt (Nat.lt_of_lt_of_le C_sm.lt (Nat.le_of_eq g1967.symm))) (ninS (Nat.ne_of_lt (Nat.lt_of_lt_of_le C_sm.lt hb01996)) nin0)))
  have f2034 := (((((A_sm.ext E1967).keep K1979 (ninS (Nat.ne_of_lt (Nat.lt_of_lt_of_le A_sm.lt (Nat.le_of_eq g1967.symm))) nin0)).keep K1996 (ninS (Nat.ne_of_lt (Nat.lt_of_lt_of_le A_sm.lt (Nat.le_of_eq g1967.symm))) (ninS (Nat.ne_of_lt (Nat.lt_of_lt_of_le (A_sm.ext E1967).lt s1979)) nin0))).ext E2005).keep K2018 (ninS (Nat.ne_of_lt (Nat.lt_of_lt_of_le A_sm.lt (Nat.le_of_eq g1967.symm))) (ninS (Nat.ne_of_lt (Nat.lt_of_lt_of_le A_sm.lt hb01996)) nin0)))
  obtain ⟨cq2035, kq2035, q2035a, q2035b, q2035c⟩ := isOf hZ2005 e2028 f2030
  obtain ⟨_, _, ⟨T2035, L2035, k2035, n2035⟩, -, X2035, ⟨Lc2035, hQ2035, l2035, y2035, z2035⟩, st2035⟩ := X2028.virtualBack hx (y := y_23) (z := y_23) ho2005 (mvT hZ2005 (oH hw 78 rfl)) (mvT hZ2005 (oH hw 79 rfl)) (notFace_of_selects (args := #[]) (mvT hZ2005 (oH hw 81 rfl))) (mvT hZ2005 (oH hw 81 rfl)) (mvT hZ2005 (oH hw 80 rfl)) (by decide) (backOf (W := 0) (rm_aps01 l Z a0 hw [] b1967 v2018 k22018 ((([] : List Int32) ++ cf) ++ [(58 : Int32), (32 : Int32)]) sm tm km Nm cm G1 G2 T2018.heap n0 Z2021 g_b1967 g_v2018 f2030 F12018 F22018 F32018 F42018 A2018 E2018 (by simp only [List.length_append, List.length_nil, List.length_cons]; omega) f2031 f2032 f2033 f2034 N_sm hm2 (Nat.ne_of_lt (Nat.lt_of_lt_of_le A_sm.lt hb02018)) (hLm rfl) Sg P5 Sf hG2 Sa Sh Sl O2023) hZ2005 (oH hw 82 rfl) (oH hw 62 rfl) (by decide) (by decide)) q2035a q2035c (g := (mkF m 23 #[sR e1] [(.ref sm), (.ref b1967)])) rfl (by rw [hml]; rfl) (Steps.refl _) (argsL := [(.ref sm)]) (rest := []) (lenOf pd37 rfl) rfl (oW rfl) (hb hby dp7_4_23) (fun _ _ => ⟨rfl, e2028, (oB rfl : 5 + 0 ≤ _), (oB rfl : 64 + 0 ≤ _)⟩)
  dsimp only [Pt.U, Pt.locs, Pt.cells, Pt.slots] at X2035 l2035 y2035 z2035 st2035 hQ2035
  subst l2035 y2035 z2035
  obtain ⟨rfl, Nq2035, K2035, v2035, k22035, F12035, F22035, F32035, F42035, A2035, E2035, gq2035, hv2035⟩ := hQ2035
  have N2036 := Fr.app N2019 Nq2035
  have P2037 : Rg p e below (T2035.setTop (mkF m 26 #[sR e1] [(.ref b1967)])) B0 := fun t k => P2029 t (by
    exact st2035.trans k)
  have hb02035 : h0.size ≤ v2035 := hv2035.elim (fun q => by rw [q]; exact sz_v2018) (fun q => Nat.le_trans K2022.1 q)
  have sf_v2035 : Safe Z own_EL T2005.vm T2035.heap v2035 := hv2035.elim (fun q => by rw [q]; exact Safe.keep K2035 (sfS (Safe.exa hZ2005.alike f2030 (by decide) (by decide)) (sfS sf_v2018 sf0)) C2025.1 sf_v2018) (fun q => Safe.keep K2035 (sfS (Safe.exa hZ2005.alike f2030 (by decide) (by decide)) (sfS sf_v2018 sf0)) C2025.1 (Safe.new q))
  have Z2038 : n0 ≤ T2035.heap.size := Nat.le_trans Z2021 K2035.1
  have K2039 : Keep h0 T2035.heap [] := K2022.trans K2035 ((allS (Or.inr sz_b1967) (allS (Or.inr sz_v2018) all0)))
  have O2040 : Old Z n0 T2035.heap := O2023.keep K2035 (allS g_b1967 (allS g_v2018 all0))
  have hk2041 : k2005 ≤ T2035.heap.size := Nat.le_trans hk2024 K2035.1
  have C2042 : CHr Z own_EL T2005.vm T2018.heap T2005.vm T2035.heap := CHr.keep K2035 (sfS (Safe.exa hZ2005.alike f2030 (by decide) (by decide)) (sfS sf_v2018 sf0)) C2025.1
  have R2043 : CHr Z own_EL s.vm h0 T2005.vm T2035.heap := R2026.trans C2042
  have g_v2035 : n0 ≤ v2035 := Nat.le_trans Z0 hb02035
  have sz_v2035 : h0.size ≤ v2035 := Nat.le_trans (Keep.refl h0 []).1 hb02035
  have f2044 := (f2030.keep K2035)
  obtain ⟨cq2045, kq2045, q2045a, q2045b, q2045c⟩ := isOf hZ2005 rfl f2044
  obtain ⟨_, _, ⟨T2045, L2045, k2045, n2045⟩, -, X2045, ⟨Lc2045, hQ2045, l2045, y2045, z2045⟩, st2045⟩ := X2035.virtualBack hx (y := y_35) (z := y_35) ho2005 (mvT hZ2005 (oH hw 126 rfl)) (mvT hZ2005 (oH hw 127 rfl)) (notFace_of_selects (args := #[]) (mvT hZ2005 (oH hw 129 rfl))) (mvT hZ2005 (oH hw 129 rfl)) (mvT hZ2005 (oH hw 128 rfl)) (by decide) (backOf (W := 0) (rm_sts1 l Z a0 hw [] b1967 v2035 k22035 (((([] : List Int32) ++ cf) ++ [(58 : Int32), (32 : Int32)]) ++ cm) G1 G2 T2035.heap n0 Z2038 g_b1967 g_v2035 f2044 F12035 F22035 F32035 F42035 A2035 E2035 (by simp only [List.length_append, List.length_nil, List.length_cons]; omega) Sg P5 Sf hG2 Sa Sh Sl O2040) hZ2005 (oH hw 130 rfl) (oH hw 62 rfl) (by decide) (by decide)) q2045a q2045c (g := (mkF m 26 #[sR e1] [(.ref b1967)])) rfl (by rw [hml]; rfl) (Steps.refl _) (argsL := []) (rest := []) (lenOf pd38 rfl) rfl (oW rfl) (hb hby dp7_4_26) (fun _ _ => ⟨rfl, rfl, (oB rfl : 5 + 2 ≤ _), (oB rfl : 64 + 16 ≤ _)⟩)
  dsimp only [Pt.U, Pt.locs, Pt.cells, Pt.slots] at X2045 l2045 y2045 z2045 st2045 hQ2045
  subst l2045 y2045 z2045
  obtain ⟨x2045, rfl, Nq2045, K2045, zx2045, Es2045, Fc2045, t2045, k2045, N2045_, Fv2045, A2045, hN2045⟩ := hQ2045
  have N2046 := Fr.app N2036 Nq2045
  have P2047 : Rg p e below (T2045.setTop (mkF m 29 #[sR e1] [(.ref x2045)])) B0 := fun t k => P2037 t (by
    exact st2045.trans k)
  have Z2048 : n0 ≤ T2045.heap.size := Nat.le_trans Z2038 K2045.1
  have K2049 : Keep h0 T2045.heap [] := K2039.trans K2045 (all0)
  have O2050 : Old Z n0 T2045.heap := O2040.keep K2045 all0
  have hk2051 : k2005 ≤ T2045.heap.size := Nat.le_trans hk2041 K2045.1
  have C2052 : CHr Z own_EL T2005.vm T2035.heap T2005.vm T2045.heap := CHr.keep K2045 sf0 C2042.1
  have R2053 : CHr Z own_EL s.vm h0 T2005.vm T2045.heap := R2043.trans C2052
  obtain ⟨fs2054, hr2054, hrun2054, hended2054, hRW2054⟩ := X2045.leaveW (v := some (.ref x2045)) hS2005 hk2051 (fun h => by rw [Bd.returns] at h; cases h)
  have hce2054 : CHr Z own_EL s.vm s.heap T2045.vm T2045.heap := by
    rw [hh]
    exact R2053.trans (CHv.at X2045 hZ2005 (own_EW hw) C2052.1)
  refine ⟨_, _, pre0 _ (P2047 _ ?_), hrun2054, hended2054, _, _, rfl, ?_, hce2054, ⟨hRW2054.1, hRW2054.2.1, hRW2054.2.2.1, hRW2054.2.2.2.mono (oB rfl) (oB rfl)⟩⟩
  · exact retOut X2045 hx Bd.returns rfl (Or.inr (Or.inr (Or.inr (Or.inr ⟨rfl, rfl, rfl⟩)))) (hb hby dp7_4_29) hr2054
  · show Q_tos10 Z cf cm h0 n0 _ T2045.heap _
    exact ⟨x2045, rfl, N2046, K2049, Es2045, Fc2045, t2045, k2045, N2045_, Fv2045, A2045, hN2045⟩
theorem ef_tos11 (m : MethodId) (x0 : Addr) : entryFrame m #[(.ref x0)] 1 = mkF m 0 #[sR x0] [] := by (first | (simp [entryFrame, mkF, argsToLocals, Value.category]; done) | rfl)
def Q_tos11 (Z : State) (cf cm : List Int32) (h0 : Heap) (n0 : Nat) (v : Option Value) (h : Heap) (L : List Loc) : Prop := ∃ s : Addr, v = some (.ref s) ∧ Fr n0 L ∧ Keep h0 h [] ∧ Exa Z h s nS ∧ Fld Z h s nS "coder" "B" (.int (own_co true)) ∧ ∃ (t : Addr) (k : ClassId) (N : Int32), Fld Z h s nS "value" "[B" (.ref t) ∧ Arv Z h t k .byte N ((own_by true (((([] : List Int32) ++ cf) ++ [(58 : Int32), (32 : Int32)]) ++ cm)).map Value.int) (vI 0) ∧ N = Int32.ofNat (own_by true (((([] : List Int32) ++ cf) ++ [(58 : Int32), (32 : Int32)]) ++ cm)).length
theorem rm_tos11 (l : Launch) (Z : State) (a0 : Array Value) (hw : Tb a0 Z) (ws : List Jvm.Cond) (e1 sf tf : Addr) (kf : ClassId) (Nf : Int32) (cf : List Int32) (sm tm : Addr) (km : ClassId) (Nm : Int32) (cm : List Int32) (G1 : Int32) (G2 : Value) (h0 : Heap) (n0 : Nat) (Z0 : n0 ≤ h0.size) (F_field : Fld Z h0 e1 "com/example/tallyline/tallyline/core/FieldError" "field" "Ljava/lang/String;" (.ref sf)) (F_message : Fld Z h0 e1 "com/example/tallyline/tallyline/core/FieldError" "message" "Ljava/lang/String;" (.ref sm)) (E_sf : Exa Z h0 sf nS) (V_sf : Fld Z h0 sf nS "value" "[B" (.ref tf)) (C_sf : Fld Z h0 sf nS "coder" "B" (vI 1)) (A_sf : Arv Z h0 tf kf .byte Nf ((own_by true cf).map Value.int) (vI 0)) (N_sf : Nf = Int32.ofNat (own_by true cf).length) (E_sm : Exa Z h0 sm nS) (V_sm : Fld Z h0 sm nS "value" "[B" (.ref tm)) (C_sm : Fld Z h0 sm nS "coder" "B" (vI 1)) (A_sm : Arv Z h0 tm km .byte Nm ((own_by true cm).map Value.int) (vI 0)) (N_sm : Nm = Int32.ofNat (own_by true cm).length) (hf2 : cf.length ≤ 2) (hm2 : cm.length ≤ 2) (hLf : true = false → ∀ c ∈ cf, ¬ c < 0 ∧ ¬ (255 : Int32) < c) (hLm : true = false → ∀ c ∈ cm, ¬ c < 0 ∧ ¬ (255 : Int32) < c) (Sg : oSg Z G1) (P5 : ¬ (G1 = (0 : Int32))) (Sf : oSf Z G2) (hG2 : G2.isRef = true) (Sa : oSa Z) (Sh : oSh Z) (Sl : oSl Z) (Ol : Old Z n0 h0) :
    MH l Z h0 y_54 p7_4 1 (some (.object "java/lang/String")) ws (rM 10 7 80 143) #[(.ref e1)] (Q_tos11 Z cf cm h0 n0) := by
  refine MetFree.of_bodySF (plainFor_of_name pn_com_example_tallyline_tallyline_core_FieldError) hisR ?_
  intro p e s m args below meth c s₁ Bd hml hP hK
  obtain ⟨rfl, hZ, hh, hCH0⟩ := hP
  have hx := Bd.exec
  have hby := Bd.bytes
  have hown : s.vm.findClass "com/example/tallyline/tallyline/core/FieldError" = some m.cls := findClass_of_methodNamed Bd.named
  have X0 : Stand p l e (rM 10 7 80 143) (s.setVm s.vm) m #[(.ref e1)] below meth c s₁ [] 0 0 := Stand.of_body Bd
  have e0 : s₁.heap = h0 := by rw [← hh, Bd.state]; rfl
  have N0 := Fr.nil n0
  obtain ⟨B0, pre0, P0⟩ : ∃ B, Rg p e below B (s₁.setTop (entryFrame m #[(.ref e1)] 1)) ∧ Rg p e below (s₁.setTop (mkF m 0 #[sR e1] [])) B := ⟨_, fun t k => castTop (ef_tos11 m e1) k, fun t k => k⟩
  have hS0 : s.Since s.vm h0.size := (State.WarmedH.refl s).since _
  have hCR0 : CHr Z own_EL s.vm h0 s.vm h0 := CHr.refl hCH0
  obtain ⟨T2055, h2055, X2055, e2055, E2055, A2055, D2055, -, st2055⟩ := newO X0 hx hZ hown (oH hw 60 rfl) (oH hw 61 rfl) (oH hw 62 rfl) e0 (g := (mkF m 0 #[sR e1] [])) rfl (hb hby dp7_4_0) (by decide) (by decide)
  obtain ⟨b2055, g2055⟩ : ∃ z, z = h0.size := ⟨_, rfl⟩
  rw [← g2055] at A2055 D2055 st2055
  have g_b2055 : n0 ≤ b2055 := Nat.le_trans Z0 (Nat.le_of_eq g2055.symm)
  have sz_b2055 : h0.size ≤ b2055 := Nat.le_trans (Keep.refl h0 []).1 (Nat.le_of_eq g2055.symm)
  have P2056 : Rg p e below (T2055.setTop (mkF m 3 #[sR e1] [(.ref b2055)])) B0 := fun t k => P0 t (by
    exact st2055 _ k)
  have Z2057 : n0 ≤ h2055.size := Nat.le_trans Z0 E2055.1
  have K2058 : Keep h0 h2055 [] := (Keep.refl h0 []).ext E2055
  have O2059 : Old Z n0 h2055 := Ol.ext E2055
  have hk2060 : h0.size ≤ h2055.size := Nat.le_trans (Nat.le_refl _) E2055.1
  have C2061 : CHr Z own_EL s.vm h0 s.vm h2055 := CHr.ext E2055 hCH0
  have R2062 : CHr Z own_EL s.vm h0 s.vm h2055 := hCR0.trans C2061
  have sf_b2055 : Safe Z own_EL s.vm h2055 b2055 := Safe.ext E2055 hCH0 (Safe.new (Nat.le_of_eq g2055.symm))
  have f2063 : Fld Z h2055 b2055 nA "value" "[B" .null := D2055 (Or.inl (oH hw 75 rfl)) (ty := (.array .byte)) (by decide)
  have f2064 : Fld Z h2055 b2055 nA "coder" "B" (vI 0) := D2055 (Or.inl (oH hw 77 rfl)) (ty := .byte) (by decide)
  have f2065 : Fld Z h2055 b2055 nA "count" "I" (vI 0) := D2055 (Or.inl (oH hw 99 rfl)) (ty := .int) (by decide)
  have f2066 : Fld Z h2055 b2055 nA "maybeLatin1" "Z" (vI 0) := D2055 (Or.inl (oH hw 255 rfl)) (ty := .boolean) (by decide)
  obtain ⟨_, _, ⟨T2067, L2067, k2067, n2067⟩, -, X2067, ⟨Lc2067, hQ2067, l2067, y2067, z2067⟩, st2067⟩ := X2055.specialBack hx (y := y_25) rfl hown (mvT hZ (oH hw 63 rfl)) (mvT hZ (oH hw 64 rfl)) (mvT hZ (oH hw 65 rfl)) (by decide) (backOf (W := 1) (rm_sbi l Z a0 hw [] b2055 G1 G2 h2055 n0 Z2057 g_b2055 A2055 f2063 f2064 f2065 f2066 Sg P5 Sf hG2 Sa Sh Sl O2059) hZ (oH hw 65 rfl) (oH hw 62 rfl) (by decide) (by decide)) (g := (mkF m 4 #[sR e1] [(.ref b2055), (.ref b2055)])) rfl (by rw [hml]; rfl) (Steps.refl _) (a := b2055) (argsL := []) (rest := [(.ref b2055)]) (lenOf pd13 rfl) rfl (oW rfl) (hb hby dp7_4_4) (fun _ _ => ⟨rfl, e2055, (oB rfl : 1 + 1 ≤ _), (oB rfl : 4 + 16 ≤ _)⟩)
  dsimp only [Pt.U, Pt.locs, Pt.cells, Pt.slots] at X2067 l2067 y2067 z2067 st2067 hQ2067
  subst l2067 y2067 z2067
  obtain ⟨rfl, Nq2067, K2067, v2067, k22067, F12067, F22067, F32067, F42067, A2067, E2067, s2067⟩ := hQ2067
  have N2068 := Fr.app N0 Nq2067
  have P2069 : Rg p e below (T2067.setTop (mkF m 7 #[sR e1] [(.ref b2055)])) B0 := fun t k => P2056 t (by
    refine XS.dup X2055.here hx rfl (hb hby dp7_4_3) rfl rfl ?_
    exact st2067.trans k)
  have sf_v2067 : Safe Z own_EL s.vm T2067.heap v2067 := Safe.keep K2067 (sfS (Safe.exa hZ.alike A2055 (by decide) (by decide)) sf0) C2061.1 (Safe.new s2067)
  have Z2070 : n0 ≤ T2067.heap.size := Nat.le_trans Z2057 K2067.1
  have K2071 : Keep h0 T2067.heap [] := K2058.trans K2067 ((allS (Or.inr sz_b2055) all0))
  have O2072 : Old Z n0 T2067.heap := O2059.keep K2067 (allS g_b2055 all0)
  have hk2073 : h0.size ≤ T2067.heap.size := Nat.le_trans hk2060 K2067.1
  have C2074 : CHr Z own_EL s.vm h2055 s.vm T2067.heap := CHr.keep K2067 (sfS (Safe.exa hZ.alike A2055 (by decide) (by decide)) sf0) C2061.1
  have R2075 : CHr Z own_EL s.vm h0 s.vm T2067.heap := R2062.trans C2074
  have g_v2067 : n0 ≤ v2067 := Nat.le_trans Z2057 s2067
  have sz_v2067 : h0.size ≤ v2067 := Nat.le_trans K2058.1 s2067
  have f2076 := ((F_field.ext E2055).keep K2067 (ninS (Nat.ne_of_lt (Nat.lt_of_lt_of_le F_message.lt (Nat.le_of_eq g2055.symm))) nin0))
  obtain ⟨T2077, X2077, e2077, st2077⟩ := getF X2067 hx hZ hown (host := "") (Or.inl (oH hw 51 rfl)) Via.refl rfl f2076 (g := (mkF m 8 #[sR e1] [(.ref e1), (.ref b2055)])) rfl rfl (hb hby dp7_4_8)
  have P2078 : Rg p e below (T2077.setTop (mkF m 11 #[sR e1] [(.ref sf), (.ref b2055)])) B0 := fun t k => P2069 t (by
    refine XS.aloadN X2067.here hx rfl (hb hby dp7_4_7) rfl rfl ?_
    exact st2077 _ k)
  have f2079 := (A2055.keep K2067)
  have f2080 := ((E_sf.ext E2055).keep K2067)
  have f2081 := ((V_sf.ext E2055).keep K2067 (ninS (Nat.ne_of_lt (Nat.lt_of_lt_of_le C_sf.lt (Nat.le_of_eq g2055.symm))) nin0))
  have f2082 := ((C_sf.ext E2055).keep K2067 (ninS (Nat.ne_of_lt (Nat.lt_of_lt_of_le C_sf.lt (Nat.le_of_eq g2055.symm))) nin0))
  have f2083 := ((A_sf.ext E2055).keep K2067 (ninS (Nat.ne_of_lt (Nat.lt_of_lt_of_le A_sf.lt (Nat.le_of_eq g2055.symm))) nin0))
  obtain ⟨cq2084, kq2084, q2084a, q2084b, q2084c⟩ := isOf hZ e2077 f2079
  obtain ⟨_, _, ⟨T2084, L2084, k2084, n2084⟩, -, X2084, ⟨Lc2084, hQ2084, l2084, y2084, z2084⟩, st2084⟩ := X2077.virtualBack hx (y := y_23) (z := y_23) hown (mvT hZ (oH hw 78 rfl)) (mvT hZ (oH hw 79 rfl)) (notFace_of_selects (args := #[]) (mvT hZ (oH hw 81 rfl))) (mvT hZ (oH hw 81 rfl)) (mvT hZ (oH hw 80 rfl)) (by decide) (backOf (W := 0) (rm_aps10 l Z a0 hw [] b2055 v2067 k22067 ([] : List Int32) sf tf kf Nf cf G1 G2 T2067.heap n0 Z2070 g_b2055 g_v2067 f2079 F12067 F22067 F32067 F42067 A2067 E2067 (by decide) f2080 f2081 f2082 f2083 N_sf hf2 (Nat.ne_of_lt (Nat.lt_of_lt_of_le (A_sf.ext E2055).lt s2067)) (fun c hc => nomatch hc) Sg P5 Sf hG2 Sa Sh Sl O2072) hZ (oH hw 82 rfl) (oH hw 62 rfl) (by decide) (by decide)) q2084a q2084c (g := (mkF m 11 #[sR e1] [(.ref sf), (.ref b2055)])) rfl (by rw [hml]; rfl) (Steps.refl _) (argsL := [(.ref sf)]) (rest := []) (lenOf pd37 rfl) rfl (oW rfl) (hb hby dp7_4_11) (fun _ _ => ⟨rfl, e2077, (oB rfl : 2 + 1 ≤ _), (oB rfl : 20 + 32 ≤ _)⟩)
  dsimp only [Pt.U, Pt.locs, Pt.cells, Pt.slots] at X2084 l2084 y2084 z2084 st2084 hQ2084
  subst l2084 y2084 z2084
  obtain ⟨rfl, Nq2084, K2084, v2084, k22084, F12084, F22084, F32084, F42084, A2084, E2084, gq2084, hv2084⟩ := hQ2084
  have N2085 := Fr.app N2068 Nq2084
  have P2086 : Rg p e below (T2084.setTop (mkF m 14 #[sR e1] [(.ref b2055)])) B0 := fun t k => P2078 t (by
    exact st2084.trans k)
  have hb02084 : h0.size ≤ v2084 := hv2084.elim (fun q => by rw [q]; exact sz_v2067) (fun q => Nat.le_trans K2071.1 q)
  have sf_v2084 : Safe Z own_EL s.vm T2084.heap v2084 := hv2084.elim (fun q => by rw [q]; exact Safe.keep K2084 (sfS (Safe.exa hZ.alike f2079 (by decide) (by decide)) (sfS sf_v2067 sf0)) C2074.1 sf_v2067) (fun q => Safe.keep K2084 (sfS (Safe.exa hZ.alike f2079 (by decide) (by decide)) (sfS sf_v2067 sf0)) C2074.1 (Safe.new q))
  have Z2087 : n0 ≤ T2084.heap.size := Nat.le_trans Z2070 K2084.1
  have K2088 : Keep h0 T2084.heap [] := K2071.trans K2084 ((allS (Or.inr sz_b2055) (allS (Or.inr sz_v2067) all0)))
  have O2089 : Old Z n0 T2084.heap := O2072.keep K2084 (allS g_b2055 (allS g_v2067 all0))
  have hk2090 : h0.size ≤ T2084.heap.size := Nat.le_trans hk2073 K2084.1
  have C2091 : CHr Z own_EL s.vm T2067.heap s.vm T2084.heap := CHr.keep K2084 (sfS (Safe.exa hZ.alike f2079 (by decide) (by decide)) (sfS sf_v2067 sf0)) C2074.1
  have R2092 : CHr Z own_EL s.vm h0 s.vm T2084.heap := R2075.trans C2091
  have g_v2084 : n0 ≤ v2084 := Nat.le_trans Z0 hb02084
  have sz_v2084 : h0.size ≤ v2084 := Nat.le_trans (Keep.refl h0 []).1 hb02084
  obtain ⟨y2093, T2093, h2093, k2093, t2093, kb2093, X2093, e2093, E2093, hS2093, hk2093, hZ2093, ho2093, Ea2093, Fc2093, Fv2093, Av2093, la2093, lb2093, cr2093, Li2093, ne2093, st2093⟩ := ldcCH X2084 hx hZ hown (oH hw 125 rfl) (own_wS hw) rfl hS0 hk2090 (own_EW hw) (by decide) C2091.1 (vs := [(vI 58), (vI 32)]) (z := (2 : Int32)) ⟨by decide, by decide⟩ (by decide) (by decide) (g := (mkF m 14 #[sR e1] [(.ref b2055)])) rfl (hb hby dp7_4_14) (n := 8) (by decide) (by decide) (oB rfl) (oB rfl)
  have P2094 : Rg p e below (T2093.setTop (mkF m 16 #[sR e1] [(.ref y2093), (.ref b2055)])) B0 := fun t k => P2086 t (by
    exact st2093 _ k)
  have Z2095 : n0 ≤ h2093.size := Nat.le_trans Z2087 E2093.1
  have K2096 : Keep h0 h2093 [] := K2088.ext E2093
  have O2097 : Old Z n0 h2093 := O2089.ext E2093
  have R2098 : CHr Z own_EL s.vm h0 T2093.vm h2093 := R2092.trans cr2093
  have hl9 : [(vI 58), (vI 32)] = ((own_by false [(58 : Int32), (32 : Int32)]).map Value.int) := rfl
  have A9 := Av2093
  rw [hl9] at A9
  have hd9 : ∀ c ∈ ([(58 : Int32), (32 : Int32)] : List Int32), ¬ c < 0 ∧ ¬ (255 : Int32) < c := by decide
  have f2099 := ((f2079.keep K2084).ext E2093)
  have f2100 := (F12084.ext E2093)
  have f2101 := (F22084.ext E2093)
  have f2102 := (F32084.ext E2093)
  have f2103 := (F42084.ext E2093)
  have f2104 := (A2084.ext E2093)
  have f2105 := (E2084.ext E2093)
  obtain ⟨cq2106, kq2106, q2106a, q2106b, q2106c⟩ := isOf hZ2093 e2093 f2099
  obtain ⟨_, _, ⟨T2106, L2106, k2106, n2106⟩, -, X2106, ⟨Lc2106, hQ2106, l2106, y2106, z2106⟩, st2106⟩ := X2093.virtualBack hx (y := y_23) (z := y_23) ho2093 (mvT hZ2093 (oH hw 78 rfl)) (mvT hZ2093 (oH hw 79 rfl)) (notFace_of_selects (args := #[]) (mvT hZ2093 (oH hw 81 rfl))) (mvT hZ2093 (oH hw 81 rfl)) (mvT hZ2093 (oH hw 80 rfl)) (by decide) (backOf (W := 0) (rm_aps01 l Z a0 hw [] b2055 v2084 k22084 (([] : List Int32) ++ cf) y2093 t2093 kb2093 (2 : Int32) [(58 : Int32), (32 : Int32)] G1 G2 h2093 n0 Z2095 g_b2055 g_v2084 f2099 f2100 f2101 f2102 f2103 f2104 f2105 (by simp only [List.length_append, List.length_nil, List.length_cons]; omega) Ea2093 Fv2093 Fc2093 A9 rfl (by decide) (Ne.symm (ne2093 v2084 (CHr.safe cr2093 A2084.lt sf_v2084)).2) hd9 Sg P5 Sf hG2 Sa Sh Sl O2097) hZ2093 (oH hw 82 rfl) (oH hw 62 rfl) (by decide) (by decide)) q2106a q2106c (g := (mkF m 16 #[sR e1] [(.ref y2093), (.ref b2055)])) rfl (by rw [hml]; rfl) (Steps.refl _) (argsL := [(.ref y2093)]) (rest := []) (lenOf pd37 rfl) rfl (oW rfl) (hb hby dp7_4_16) (fun _ _ => ⟨rfl, e2093, (oB rfl : 5 + 0 ≤ _), (oB rfl : 64 + 0 ≤ _)⟩)
  dsimp only [Pt.U, Pt.locs, Pt.cells, Pt.slots] at X2106 l2106 y2106 z2106 st2106 hQ2106
  subst l2106 y2106 z2106
  obtain ⟨rfl, Nq2106, K2106, v2106, k22106, F12106, F22106, F32106, F42106, A2106, E2106, gq2106, hv2106⟩ := hQ2106
  have N2107 := Fr.app N2085 Nq2106
  have P2108 : Rg p e below (T2106.setTop (mkF m 19 #[sR e1] [(.ref b2055)])) B0 := fun t k => P2094 t (by
    exact st2106.trans k)
  have hb02106 : h0.size ≤ v2106 := hv2106.elim (fun q => by rw [q]; exact sz_v2084) (fun q => Nat.le_trans K2096.1 q)
  have sf_v2106 : Safe Z own_EL T2093.vm T2106.heap v2106 := hv2106.elim (fun q => by rw [q]; exact Safe.keep K2106 (sfS (Safe.exa hZ2093.alike f2099 (by decide) (by decide)) (sfS (CHr.safe cr2093 A2084.lt sf_v2084) sf0)) cr2093.1 (CHr.safe cr2093 A2084.lt sf_v2084)) (fun q => Safe.keep K2106 (sfS (Safe.exa hZ2093.alike f2099 (by decide) (by decide)) (sfS (CHr.safe cr2093 A2084.lt sf_v2084) sf0)) cr2093.1 (Safe.new q))
  have Z2109 : n0 ≤ T2106.heap.size := Nat.le_trans Z2095 K2106.1
  have K2110 : Keep h0 T2106.heap [] := K2096.trans K2106 ((allS (Or.inr sz_b2055) (allS (Or.inr sz_v2084) all0)))
  have O2111 : Old Z n0 T2106.heap := O2097.keep K2106 (allS g_b2055 (allS g_v2084 all0))
  have hk2112 : k2093 ≤ T2106.heap.size := Nat.le_trans hk2093 K2106.1
  have C2113 : CHr Z own_EL T2093.vm h2093 T2093.vm T2106.heap := CHr.keep K2106 (sfS (Safe.exa hZ2093.alike f2099 (by decide) (by decide)) (sfS (CHr.safe cr2093 A2084.lt sf_v2084) sf0)) cr2093.1
  have R2114 : CHr Z own_EL s.vm h0 T2093.vm T2106.heap := R2098.trans C2113
  have g_v2106 : n0 ≤ v2106 := Nat.le_trans Z0 hb02106
  have sz_v2106 : h0.size ≤ v2106 := Nat.le_trans (Keep.refl h0 []).1 hb02106
  have f2115 := (((((F_message.ext E2055).keep K2067 (ninS (Nat.ne_of_lt (Nat.lt_of_lt_of_le F_message.lt (Nat.le_of_eq g2055.symm))) nin0)).keep K2084 (ninS (Nat.ne_of_lt (Nat.lt_of_lt_of_le F_message.lt (Nat.le_of_eq g2055.symm))) (ninS (Nat.ne_of_lt (Nat.lt_of_lt_of_le (F_message.ext E2055).lt s2067)) nin0))).ext E2093).keep K2106 (ninS (Nat.ne_of_lt (Nat.lt_of_lt_of_le F_message.lt (Nat.le_of_eq g2055.symm))) (ninS (Nat.ne_of_lt (Nat.lt_of_lt_of_le F_message.lt hb02084)) nin0)))
  obtain ⟨T2116, X2116, e2116, st2116⟩ := getF X2106 hx hZ2093 ho2093 (host := "") (Or.inl (oH hw 53 rfl)) Via.refl rfl f2115 (g := (mkF m 20 #[sR e1] [(.ref e1), (.ref b2055)])) rfl rfl (hb hby dp7_4_20)
  have P2117 : Rg p e below (T2116.setTop (mkF m 23 #[sR e1] [(.ref sm), (.ref b2055)])) B0 := fun t k => P2108 t (by
    refine XS.aloadN X2106.here hx rfl (hb hby dp7_4_19) rfl rfl ?_
    exact st2116 _ k)
  have f2118 := (f2099.keep K2106)
  have f2119 := (((((E_sm.ext E2055).keep K2067).keep K2084).ext E2093).keep K2106)
  have f2120 := (((((V_sm.ext E2055).keep K2067 (ninS (Nat.ne_of_lt (Nat.lt_of_lt_of_le C_sm.lt (Nat.le_of_eq g2055.symm))) nin0)).keep K2084 (ninS (Nat.ne_of_lt (Nat.lt_of_lt_of_le C_sm.lt (Nat.le_of_eq g2055.symm))) (ninS (Nat.ne_of_lt (Nat.lt_of_lt_of_le (C_sm.ext E2055).lt s2067)) nin0))).ext E2093).keep K2106 (ninS (Nat.ne_of_lt (Nat.lt_of_lt_of_le C_sm.lt (Nat.le_of_eq g2055.symm))) (ninS (Nat.ne_of_lt (Nat.lt_of_lt_of_le C_sm.lt hb02084)) nin0)))
  have f2121 := (((((C_sm.ext E2055).keep K2067 (ninS (Nat.ne_of_lt (Nat.lt_of_lt_of_le C_sm.lt (Nat.le_of_eq g2055.symm))) nin0)).keep K2084 (ninS (Nat.ne_of_lt (Nat.lt_of_lt_of_le C_sm.lt (Nat.le_of_eq g2055.symm))) (ninS (Nat.ne_of_lt (Nat.lt_of_lt_of_le (C_sm.ext E2055).lt s2067)) nin0))).ext E2093).keep K2106 (ninS (Nat.ne_of_lt (Nat.lt_of_lt_of_le C_sm.lt (Nat.le_of_eq g2055.symm))) (ninS (Nat.ne_of_lt (Nat.lt_of_lt_of_le C_sm.lt hb02084)) nin0)))
  have f2122 := (((((A_sm.ext E2055).keep K2067 (ninS (Nat.ne_of_lt (Nat.lt_of_lt_of_le A_sm.lt (Nat.le_of_eq g2055.symm))) nin0)).keep K2084 (ninS (Nat.ne_of_lt (Nat.lt_of_lt_of_le A_sm.lt (Nat.le_of_eq g2055.symm))) (ninS (Nat.ne_of_lt (Nat.lt_of_lt_of_le (A_sm.ext E2055).lt s2067)) nin0))).ext E2093).keep K2106 (ninS (Nat.ne_of_lt (Nat.lt_of_lt_of_le A_sm.lt (Nat.le_of_eq g2055.symm))) (ninS (Nat.ne_of_lt (Nat.lt_of_lt_of_le A_sm.lt hb02084)) nin0)))
  obtain ⟨cq2123, kq2123, q2123a, q2123b, q2123c⟩ := isOf hZ2093 e2116 f2118
  obtain ⟨_, _, ⟨T2123, L2123, k2123, n2123⟩, -, X2123, ⟨Lc2123, hQ2123, l2123, y2123, z2123⟩, st2123⟩ := X2116.virtualBack hx (y := y_23) (z := y_23) ho2093 (mvT hZ2093 (oH hw 78 rfl)) (mvT hZ2093 (oH hw 79 rfl)) (notFace_of_selects (args := #[]) (mvT hZ2093 (oH hw 81 rfl))) (mvT hZ2093 (oH hw 81 rfl)) (mvT hZ2093 (oH hw 80 rfl)) (by decide) (backOf (W := 0) (rm_aps11 l Z a0 hw [] b2055 v2106 k22106 ((([] : List Int32) ++ cf) ++ [(58 : Int32), (32 : Int32)]) sm tm km Nm cm G1 G2 T2106.heap n0 Z2109 g_b2055 g_v2106 f2118 F12106 F22106 F32106 F42106 A2106 E2106 (by simp only [List.length_append, List.length_nil, List.length_cons]; omega) f2119 f2120 f2121 f2122 N_sm hm2 (Nat.ne_of_lt (Nat.lt_of_lt_of_le A_sm.lt hb02106)) Sg P5 Sf hG2 Sa Sh Sl O2111) hZ2093 (oH hw 82 rfl) (oH hw 62 rfl) (by decide) (by decide)) q2123a q2123c (g := (mkF m 23 #[sR e1] [(.ref sm), (.ref b2055)])) rfl (by rw [hml]; rfl) (Steps.refl _) (argsL := [(.ref sm)]) (rest := []) (lenOf pd37 rfl) rfl (oW rfl) (hb hby dp7_4_23) (fun _ _ => ⟨rfl, e2116, (oB rfl : 5 + 0 ≤ _), (oB rfl : 64 + 0 ≤ _)⟩)
  dsimp only [Pt.U, Pt.locs, Pt.cells, Pt.slots] at X2123 l2123 y2123 z2123 st2123 hQ2123
  subst l2123 y2123 z2123
  obtain ⟨rfl, Nq2123, K2123, v2123, k22123, F12123, F22123, F32123, F42123, A2123, E2123, gq2123, hv2123⟩ := hQ2123
  have N2124 := Fr.app N2107 Nq2123
  have P2125 : Rg p e below (T2123.setTop (mkF m 26 #[sR e1] [(.ref b2055)])) B0 := fun t k => P2117 t (by
    exact st2123.trans k)
  have hb02123 : h0.size ≤ v2123 := hv2123.elim (fun q => by rw [q]; exact sz_v2106) (fun q => Nat.le_trans K2110.1 q)
  have sf_v2123 : Safe Z own_EL T2093.vm T2123.heap v2123 := hv2123.elim (fun q => by rw [q]; exact Safe.keep K2123 (sfS (Safe.exa hZ2093.alike f2118 (by decide) (by decide)) (sfS sf_v2106 sf0)) C2113.1 sf_v2106) (fun q => Safe.keep K2123 (sfS (Safe.exa hZ2093.alike f2118 (by decide) (by decide)) (sfS sf_v2106 sf0)) C2113.1 (Safe.new q))
  have Z2126 : n0 ≤ T2123.heap.size := Nat.le_trans Z2109 K2123.1
  have K2127 : Keep h0 T2123.heap [] := K2110.trans K2123 ((allS (Or.inr sz_b2055) (allS (Or.inr sz_v2106) all0)))
  have O2128 : Old Z n0 T2123.heap := O2111.keep K2123 (allS g_b2055 (allS g_v2106 all0))
  have hk2129 : k2093 ≤ T2123.heap.size := Nat.le_trans hk2112 K2123.1
  have C2130 : CHr Z own_EL T2093.vm T2106.heap T2093.vm T2123.heap := CHr.keep K2123 (sfS (Safe.exa hZ2093.alike f2118 (by decide) (by decide)) (sfS sf_v2106 sf0)) C2113.1
  have R2131 : CHr Z own_EL s.vm h0 T2093.vm T2123.heap := R2114.trans C2130
  have g_v2123 : n0 ≤ v2123 := Nat.le_trans Z0 hb02123
  have sz_v2123 : h0.size ≤ v2123 := Nat.le_trans (Keep.refl h0 []).1 hb02123
  have f2132 := (f2118.keep K2123)
  obtain ⟨cq2133, kq2133, q2133a, q2133b, q2133c⟩ := isOf hZ2093 rfl f2132
  obtain ⟨_, _, ⟨T2133, L2133, k2133, n2133⟩, -, X2133, ⟨Lc2133, hQ2133, l2133, y2133, z2133⟩, st2133⟩ := X2123.virtualBack hx (y := y_35) (z := y_35) ho2093 (mvT hZ2093 (oH hw 126 rfl)) (mvT hZ2093 (oH hw 127 rfl)) (notFace_of_selects (args := #[]) (mvT hZ2093 (oH hw 129 rfl))) (mvT hZ2093 (oH hw 129 rfl)) (mvT hZ2093 (oH hw 128 rfl)) (by decide) (backOf (W := 0) (rm_sts1 l Z a0 hw [] b2055 v2123 k22123 (((([] : List Int32) ++ cf) ++ [(58 : Int32), (32 : Int32)]) ++ cm) G1 G2 T2123.heap n0 Z2126 g_b2055 g_v2123 f2132 F12123 F22123 F32123 F42123 A2123 E2123 (by simp only [List.length_append, List.length_nil, List.length_cons]; omega) Sg P5 Sf hG2 Sa Sh Sl O2128) hZ2093 (oH hw 130 rfl) (oH hw 62 rfl) (by decide) (by decide)) q2133a q2133c (g := (mkF m 26 #[sR e1] [(.ref b2055)])) rfl (by rw [hml]; rfl) (Steps.refl _) (argsL := []) (rest := []) (lenOf pd38 rfl) rfl (oW rfl) (hb hby dp7_4_26) (fun _ _ => ⟨rfl, rfl, (oB rfl : 5 + 2 ≤ _), (oB rfl : 64 + 16 ≤ _)⟩)
  dsimp only [Pt.U, Pt.locs, Pt.cells, Pt.slots] at X2133 l2133 y2133 z2133 st2133 hQ2133
  subst l2133 y2133 z2133
  obtain ⟨x2133, rfl, Nq2133, K2133, zx2133, Es2133, Fc2133, t2133, k2133, N2133_, Fv2133, A2133, hN2133⟩ := hQ2133
  have N2134 := Fr.app N2124 Nq2133
  have P2135 : Rg p e below (T2133.setTop (mkF m 29 #[sR e1] [(.ref x2133)])) B0 := fun t k => P2125 t (by
    exact st2133.trans k)
  have Z2136 : n0 ≤ T2133.heap.size := Nat.le_trans Z2126 K2133.1
  have K2137 : Keep h0 T2133.heap [] := K2127.trans K2133 (all0)
  have O2138 : Old Z n0 T2133.heap := O2128.keep K2133 all0
  have hk2139 : k2093 ≤ T2133.heap.size := Nat.le_trans hk2129 K2133.1
  have C2140 : CHr Z own_EL T2093.vm T2123.heap T2093.vm T2133.heap := CHr.keep K2133 sf0 C2130.1
  have R2141 : CHr Z own_EL s.vm h0 T2093.vm T2133.heap := R2131.trans C2140
  obtain ⟨fs2142, hr2142, hrun2142, hended2142, hRW2142⟩ := X2133.leaveW (v := some (.ref x2133)) hS2093 hk2139 (fun h => by rw [Bd.returns] at h; cases h)
  have hce2142 : CHr Z own_EL s.vm s.heap T2133.vm T2133.heap := by
    rw [hh]
    exact R2141.trans (CHv.at X2133 hZ2093 (own_EW hw) C2140.1)
  refine ⟨_, _, pre0 _ (P2135 _ ?_), hrun2142, hended2142, _, _, rfl, ?_, hce2142, ⟨hRW2142.1, hRW2142.2.1, hRW2142.2.2.1, hRW2142.2.2.2.mono (oB rfl) (oB rfl)⟩⟩
  · exact retOut X2133 hx Bd.returns rfl (Or.inr (Or.inr (Or.inr (Or.inr ⟨rfl, rfl, rfl⟩)))) (hb hby dp7_4_29) hr2142
  · show Q_tos11 Z cf cm h0 n0 _ T2133.heap _
    exact ⟨x2133, rfl, N2134, K2137, Es2133, Fc2133, t2133, k2133, N2133_, Fv2133, A2133, hN2133⟩
def Q_tos (Z : State) (uf um : Bool) (cf cm : List Int32) (h0 : Heap) (n0 : Nat) (v : Option Value) (h : Heap) (L : List Loc) : Prop := ∃ s : Addr, v = some (.ref s) ∧ Fr n0 L ∧ Keep h0 h [] ∧ Exa Z h s nS ∧ Fld Z h s nS "coder" "B" (.int (own_co (uf || um))) ∧ ∃ (t : Addr) (k : ClassId) (N : Int32), Fld Z h s nS "value" "[B" (.ref t) ∧ Arv Z h t k .byte N ((own_by (uf || um) (((([] : List Int32) ++ cf) ++ [(58 : Int32), (32 : Int32)]) ++ cm)).map Value.int) (vI 0) ∧ N = Int32.ofNat (own_by (uf || um) (((([] : List Int32) ++ cf) ++ [(58 : Int32), (32 : Int32)]) ++ cm)).length
theorem rm_tos (l : Launch) (Z : State) (a0 : Array Value) (hw : Tb a0 Z) (ws : List Jvm.Cond) (uf um : Bool) (e1 sf tf : Addr) (kf : ClassId) (Nf : Int32) (cf : List Int32) (sm tm : Addr) (km : ClassId) (Nm : Int32) (cm : List Int32) (G1 : Int32) (G2 : Value) (h0 : Heap) (n0 : Nat) (Z0 : n0 ≤ h0.size) (F_field : Fld Z h0 e1 "com/example/tallyline/tallyline/core/FieldError" "field" "Ljava/lang/String;" (.ref sf)) (F_message : Fld Z h0 e1 "com/example/tallyline/tallyline/core/FieldError" "message" "Ljava/lang/String;" (.ref sm)) (E_sf : Exa Z h0 sf nS) (V_sf : Fld Z h0 sf nS "value" "[B" (.ref tf)) (C_sf : Fld Z h0 sf nS "coder" "B" (.int (own_co uf))) (A_sf : Arv Z h0 tf kf .byte Nf ((own_by uf cf).map Value.int) (vI 0)) (N_sf : Nf = Int32.ofNat (own_by uf cf).length) (E_sm : Exa Z h0 sm nS) (V_sm : Fld Z h0 sm nS "value" "[B" (.ref tm)) (C_sm : Fld Z h0 sm nS "coder" "B" (.int (own_co um))) (A_sm : Arv Z h0 tm km .byte Nm ((own_by um cm).map Value.int) (vI 0)) (N_sm : Nm = Int32.ofNat (own_by um cm).length) (hf2 : cf.length ≤ 2) (hm2 : cm.length ≤ 2) (hLf : uf = false → ∀ c ∈ cf, ¬ c < 0 ∧ ¬ (255 : Int32) < c) (hLm : um = false → ∀ c ∈ cm, ¬ c < 0 ∧ ¬ (255 : Int32) < c) (Sg : oSg Z G1) (P5 : ¬ (G1 = (0 : Int32))) (Sf : oSf Z G2) (hG2 : G2.isRef = true) (Sa : oSa Z) (Sh : oSh Z) (Sl : oSl Z) (Ol : Old Z n0 h0) :
    MH l Z h0 y_54 p7_4 1 (some (.object "java/lang/String")) ws (rM 10 7 80 143) #[(.ref e1)] (Q_tos Z uf um cf cm h0 n0) := by
  rcases uf with _ | _ <;> rcases um with _ | _
  · exact rm_tos00 l Z a0 hw ws e1 sf tf kf Nf cf sm tm km Nm cm G1 G2 h0 n0 Z0 F_field F_message E_sf V_sf C_sf A_sf N_sf E_sm V_sm C_sm A_sm N_sm hf2 hm2 hLf hLm Sg P5 Sf hG2 Sa Sh Sl Ol
  · exact rm_tos01 l Z a0 hw ws e1 sf tf kf Nf cf sm tm km Nm cm G1 G2 h0 n0 Z0 F_field F_message E_sf V_sf C_sf A_sf N_sf E_sm V_sm C_sm A_sm N_sm hf2 hm2 hLf hLm Sg P5 Sf hG2 Sa Sh Sl Ol
  · exact rm_tos10 l Z a0 hw ws e1 sf tf kf Nf cf sm tm km Nm cm G1 G2 h0 n0 Z0 F_field F_message E_sf V_sf C_sf A_sf N_sf E_sm V_sm C_sm A_sm N_sm hf2 hm2 hLf hLm Sg P5 Sf hG2 Sa Sh Sl Ol
  · exact rm_tos11 l Z a0 hw ws e1 sf tf kf Nf cf sm tm km Nm cm G1 G2 h0 n0 Z0 F_field F_message E_sf V_sf C_sf A_sf N_sf E_sm V_sm C_sm A_sm N_sm hf2 hm2 hLf hLm Sg P5 Sf hG2 Sa Sh Sl Ol
theorem d_method_4_code_0 : decode method_4_code 0 = .ok (.iload_n 0, 1) := by decide +kernel
theorem d_method_4_code_1 : decode method_4_code 1 = .ok (.iload_n 1, 1) := by decide +kernel
theorem d_method_4_code_2 : decode method_4_code 2 = .ok (.if_icmp .ge 13, 3) := by decide +kernel
theorem d_method_4_code_5 : decode method_4_code 5 = .ok (.iload_n 0, 1) := by decide +kernel
theorem d_method_4_code_6 : decode method_4_code 6 = .ok (.ifCond .ne 7, 3) := by decide +kernel
theorem d_method_4_code_9 : decode method_4_code 9 = .ok (.iload_n 2, 1) := by decide +kernel
theorem d_method_4_code_10 : decode method_4_code 10 = .ok (.goto 4, 3) := by decide +kernel
theorem d_method_4_code_14 : decode method_4_code 14 = .ok (.ireturn, 1) := by decide +kernel
theorem d_method_4_code_13 : decode method_4_code 13 = .ok (.iload_n 3, 1) := by decide +kernel
theorem d_method_4_code_15 : decode method_4_code 15 = .ok (.iload_n 0, 1) := by decide +kernel
theorem d_method_4_code_16 : decode method_4_code 16 = .ok (.iload_n 1, 1) := by decide +kernel
theorem d_method_4_code_17 : decode method_4_code 17 = .ok (.if_icmp .ne 6, 3) := by decide +kernel
theorem d_method_4_code_20 : decode method_4_code 20 = .ok (.bipush 58, 2) := by decide +kernel
theorem d_method_4_code_22 : decode method_4_code 22 = .ok (.ireturn, 1) := by decide +kernel
theorem d_method_4_code_23 : decode method_4_code 23 = .ok (.iload_n 0, 1) := by decide +kernel
theorem d_method_4_code_24 : decode method_4_code 24 = .ok (.iload_n 1, 1) := by decide +kernel
theorem d_method_4_code_25 : decode method_4_code 25 = .ok (.iconst 1, 1) := by decide +kernel
theorem d_method_4_code_26 : decode method_4_code 26 = .ok (.iadd, 1) := by decide +kernel
theorem d_method_4_code_27 : decode method_4_code 27 = .ok (.if_icmp .ne 6, 3) := by decide +kernel
theorem d_method_4_code_30 : decode method_4_code 30 = .ok (.bipush 32, 2) := by decide +kernel
theorem d_method_4_code_32 : decode method_4_code 32 = .ok (.ireturn, 1) := by decide +kernel
theorem d_method_4_code_33 : decode method_4_code 33 = .ok (.iload_n 0, 1) := by decide +kernel
theorem d_method_4_code_34 : decode method_4_code 34 = .ok (.iload_n 1, 1) := by decide +kernel
theorem d_method_4_code_35 : decode method_4_code 35 = .ok (.isub, 1) := by decide +kernel
theorem d_method_4_code_36 : decode method_4_code 36 = .ok (.iconst 2, 1) := by decide +kernel
theorem d_method_4_code_37 : decode method_4_code 37 = .ok (.isub, 1) := by decide +kernel
theorem d_method_4_code_38 : decode method_4_code 38 = .ok (.istore 6, 2) := by decide +kernel
theorem d_method_4_code_40 : decode method_4_code 40 = .ok (.iload 6, 2) := by decide +kernel
theorem d_method_4_code_42 : decode method_4_code 42 = .ok (.ifCond .ne 8, 3) := by decide +kernel
theorem d_method_4_code_45 : decode method_4_code 45 = .ok (.iload 4, 2) := by decide +kernel
theorem d_method_4_code_47 : decode method_4_code 47 = .ok (.goto 5, 3) := by decide +kernel
theorem d_method_4_code_52 : decode method_4_code 52 = .ok (.ireturn, 1) := by decide +kernel
theorem d_method_4_code_50 : decode method_4_code 50 = .ok (.iload 5, 2) := by decide +kernel
theorem ef_exp (m : MethodId) (x0 : Int32) (x1 : Int32) (x2 : Int32) (x3 : Int32) (x4 : Int32) (x5 : Int32) : entryFrame m #[(.int x0), (.int x1), (.int x2), (.int x3), (.int x4), (.int x5)] 7 = mkF m 0 #[sI x0, sI x1, sI x2, sI x3, sI x4, sI x5, sU] [] := by (first | (simp [entryFrame, mkF, argsToLocals, Value.category]; done) | rfl)
def Q_exp (ix lf f0 f1 m0 m1 : Int32) (h0 : Heap) (n0 : Nat) (v : Option Value) (h : Heap) (L : List Loc) : Prop := v = some (.int (own_ex ix lf f0 f1 m0 m1)) ∧ Fr n0 L ∧ h = h0
theorem rm_exp (l : Launch) (Z : State) (a0 : Array Value) (hw : Tb a0 Z) (ws : List Jvm.Cond) (ix lf f0 f1 m0 m1 : Int32) (h0 : Heap) (n0 : Nat) (Z0 : n0 ≤ h0.size) (hf0 : ¬ f0 < 0 ∧ ¬ (65535 : Int32) < f0) (hf1 : ¬ f1 < 0 ∧ ¬ (65535 : Int32) < f1) (hm0 : ¬ m0 < 0 ∧ ¬ (65535 : Int32) < m0) (hm1 : ¬ m1 < 0 ∧ ¬ (65535 : Int32) < m1) :
    MF l Z h0 y_55 method_4_code 7 (some .char) ws (rM 0 0 0 0) #[(.int ix), (.int lf), (.int f0), (.int f1), (.int m0), (.int m1)] (Q_exp ix lf f0 f1 m0 m1 h0 n0) := by
  refine MetFree.of_bodySF (plainFor_of_name pn_com_example_tallyline_tallyline_core_FieldErrorToStringPinLaw) hisR ?_
  intro p e s m args below meth c s₁ Bd hml hP hK
  obtain ⟨rfl, hZ, hh⟩ := hP
  have hx := Bd.exec
  have hby := Bd.bytes
  have hown : s.vm.findClass "com/example/tallyline/tallyline/core/FieldErrorToStringPinLaw" = some m.cls := findClass_of_methodNamed Bd.named
  have X0 : Stand p l e (rM 0 0 0 0) s m #[(.int ix), (.int lf), (.int f0), (.int f1), (.int m0), (.int m1)] below meth c s₁ [] 0 0 := Stand.of_body Bd
  have e0 : s₁.heap = h0 := by rw [← hh, Bd.state]; rfl
  have N0 := Fr.nil n0
  obtain ⟨B0, pre0, P0⟩ : ∃ B, Rg p e below B (s₁.setTop (entryFrame m #[(.int ix), (.int lf), (.int f0), (.int f1), (.int m0), (.int m1)] 7)) ∧ Rg p e below (s₁.setTop (mkF m 0 #[sI ix, sI lf, sI f0, sI f1, sI m0, sI m1, sU] [])) B := ⟨_, fun t k => castTop (ef_exp m ix lf f0 f1 m0 m1) k, fun t k => k⟩
  by_cases q2143 : ix < lf
  · skip
    by_cases q2144 : ix = (0 : Int32)
    · skip
      obtain ⟨fs2145, hr2145, hrun2145, hended2145, hW2145, hsame2145⟩ := X0.leave (v := some (.int (nar .char f0))) (fun h => by rw [Bd.returns] at h; cases h)
      refine ⟨_, _, pre0 _ (P0 _ ?_), hrun2145, hended2145, _, _, rfl, ?_, ⟨⟨_, rfl⟩, hW2145, hsame2145.mono (oB rfl) (oB rfl)⟩⟩
      · refine XS.iloadN X0.here hx rfl (hb hby d_method_4_code_0) rfl ?_
        show Sq p e below (s₁.setTop (mkF m 1 #[sI ix, sI lf, sI f0, sI f1, sI m0, sI m1, sU] [(.int ix)])) _
        refine XS.iloadN X0.here hx rfl (hb hby d_method_4_code_1) rfl ?_
        refine XS.icmpNo X0.here hx rfl (hb hby d_method_4_code_2) rfl (tlt (show ix < lf from q2143)).2.1 ?_
        refine XS.iloadN X0.here hx rfl (hb hby d_method_4_code_5) rfl ?_
        refine XS.ifNo X0.here hx rfl (hb hby d_method_4_code_6) rfl ((if0 _ _).trans (teq (show ix = (0 : Int32) from q2144)).2) ?_
        refine XS.iloadN X0.here hx rfl (hb hby d_method_4_code_9) rfl ?_
        refine XS.goto X0.here hx rfl (pc0 := 10) (pc' := 14) rfl (hb hby d_method_4_code_10) (by decide) (by decide) ?_
        exact retN X0 hx (t := .char) Bd.returns (by simp) (hb hby d_method_4_code_14) hr2145
      · show Q_exp ix lf f0 f1 m0 m1 h0 n0 _ s₁.heap _
        rw [e0]
        exact ⟨by rw [own_ex, if_pos q2143, if_pos q2144, own_nar hf0], N0, rfl⟩
    · skip
      obtain ⟨fs2146, hr2146, hrun2146, hended2146, hW2146, hsame2146⟩ := X0.leave (v := some (.int (nar .char f1))) (fun h => by rw [Bd.returns] at h; cases h)
      refine ⟨_, _, pre0 _ (P0 _ ?_), hrun2146, hended2146, _, _, rfl, ?_, ⟨⟨_, rfl⟩, hW2146, hsame2146.mono (oB rfl) (oB rfl)⟩⟩
      · refine XS.iloadN X0.here hx rfl (hb hby d_method_4_code_0) rfl ?_
        show Sq p e below (s₁.setTop (mkF m 1 #[sI ix, sI lf, sI f0, sI f1, sI m0, sI m1, sU] [(.int ix)])) _
        refine XS.iloadN X0.here hx rfl (hb hby d_method_4_code_1) rfl ?_
        refine XS.icmpNo X0.here hx rfl (hb hby d_method_4_code_2) rfl (tlt (show ix < lf from q2143)).2.1 ?_
        refine XS.iloadN X0.here hx rfl (hb hby d_method_4_code_5) rfl ?_
        refine XS.ifYes X0.here hx rfl (pc0 := 6) (pc' := 13) rfl (hb hby d_method_4_code_6) rfl ((if0 _ _).trans (feq (show ¬ (ix = (0 : Int32)) from q2144)).2) (by decide) (by decide) ?_
        refine XS.iloadN X0.here hx rfl (hb hby d_method_4_code_13) rfl ?_
        exact retN X0 hx (t := .char) Bd.returns (by simp) (hb hby d_method_4_code_14) hr2146
      · show Q_exp ix lf f0 f1 m0 m1 h0 n0 _ s₁.heap _
        rw [e0]
        exact ⟨by rw [own_ex, if_pos q2143, if_neg q2144, own_nar hf1], N0, rfl⟩
  · skip
    by_cases q2147 : ix = lf
    · skip
      obtain ⟨fs2148, hr2148, hrun2148, hended2148, hW2148, hsame2148⟩ := X0.leave (v := some (vI 58)) (fun h => by rw [Bd.returns] at h; cases h)
      refine ⟨_, _, pre0 _ (P0 _ ?_), hrun2148, hended2148, _, _, rfl, ?_, ⟨⟨_, rfl⟩, hW2148, hsame2148.mono (oB rfl) (oB rfl)⟩⟩
      · refine XS.iloadN X0.here hx rfl (hb hby d_method_4_code_0) rfl ?_
        show Sq p e below (s₁.setTop (mkF m 1 #[sI ix, sI lf, sI f0, sI f1, sI m0, sI m1, sU] [(.int ix)])) _
        refine XS.iloadN X0.here hx rfl (hb hby d_method_4_code_1) rfl ?_
        refine XS.icmpYes X0.here hx rfl (pc0 := 2) (pc' := 15) rfl (hb hby d_method_4_code_2) rfl (flt (show ¬ (ix < lf) from q2143)).2.1 (by decide) (by decide) ?_
        refine XS.iloadN X0.here hx rfl (hb hby d_method_4_code_15) rfl ?_
        refine XS.iloadN X0.here hx rfl (hb hby d_method_4_code_16) rfl ?_
        refine XS.icmpNo X0.here hx rfl (hb hby d_method_4_code_17) rfl (teq (show ix = lf from q2147)).2 ?_
        refine XS.bipush X0.here hx rfl (hb hby d_method_4_code_20) ?_
        exact retN X0 hx (t := .char) Bd.returns (by simp) (hb hby d_method_4_code_22) hr2148
      · show Q_exp ix lf f0 f1 m0 m1 h0 n0 _ s₁.heap _
        rw [e0]
        exact ⟨by rw [own_ex, if_neg q2143, if_pos q2147], N0, rfl⟩
    · skip
      by_cases q2149 : ix = (lf + (1 : Int32))
      · skip
        obtain ⟨fs2150, hr2150, hrun2150, hended2150, hW2150, hsame2150⟩ := X0.leave (v := some (vI 32)) (fun h => by rw [Bd.returns] at h; cases h)
        refine ⟨_, _, pre0 _ (P0 _ ?_), hrun2150, hended2150, _, _, rfl, ?_, ⟨⟨_, rfl⟩, hW2150, hsame2150.mono (oB rfl) (oB rfl)⟩⟩
        · refine XS.iloadN X0.here hx rfl (hb hby d_method_4_code_0) rfl ?_
          show Sq p e below (s₁.setTop (mkF m 1 #[sI ix, sI lf, sI f0, sI f1, sI m0, sI m1, sU] [(.int ix)])) _
          refine XS.iloadN X0.here hx rfl (hb hby d_method_4_code_1) rfl ?_
          refine XS.icmpYes X0.here hx rfl (pc0 := 2) (pc' := 15) rfl (hb hby d_method_4_code_2) rfl (flt (show ¬ (ix < lf) from q2143)).2.1 (by decide) (by decide) ?_
          refine XS.iloadN X0.here hx rfl (hb hby d_method_4_code_15) rfl ?_
          refine XS.iloadN X0.here hx rfl (hb hby d_method_4_code_16) rfl ?_
          refine XS.icmpYes X0.here hx rfl (pc0 := 17) (pc' := 23) rfl (hb hby d_method_4_code_17) rfl (feq (show ¬ (ix = lf) from q2147)).2 (by decide) (by decide) ?_
          refine XS.iloadN X0.here hx rfl (hb hby d_method_4_code_23) rfl ?_
          refine XS.iloadN X0.here hx rfl (hb hby d_method_4_code_24) rfl ?_
          refine XS.iconst X0.here hx rfl (hb hby d_method_4_code_25) ?_
          refine XS.iadd X0.here hx rfl (hb hby d_method_4_code_26) rfl ?_
          refine XS.icmpNo X0.here hx rfl (hb hby d_method_4_code_27) rfl (teq (show ix = (lf + (1 : Int32)) from q2149)).2 ?_
          refine XS.bipush X0.here hx rfl (hb hby d_method_4_code_30) ?_
          exact retN X0 hx (t := .char) Bd.returns (by simp) (hb hby d_method_4_code_32) hr2150
        · show Q_exp ix lf f0 f1 m0 m1 h0 n0 _ s₁.heap _
          rw [e0]
          exact ⟨by rw [own_ex, if_neg q2143, if_neg q2147, if_pos q2149], N0, rfl⟩
      · skip
        by_cases q2151 : ((ix - lf) - (2 : Int32)) = (0 : Int32)
        · skip
          obtain ⟨fs2152, hr2152, hrun2152, hended2152, hW2152, hsame2152⟩ := X0.leave (v := some (.int (nar .char m0))) (fun h => by rw [Bd.returns] at h; cases h)
          refine ⟨_, _, pre0 _ (P0 _ ?_), hrun2152, hended2152, _, _, rfl, ?_, ⟨⟨_, rfl⟩, hW2152, hsame2152.mono (oB rfl) (oB rfl)⟩⟩
          · refine XS.iloadN X0.here hx rfl (hb hby d_method_4_code_0) rfl ?_
            show Sq p e below (s₁.setTop (mkF m 1 #[sI ix, sI lf, sI f0, sI f1, sI m0, sI m1, sU] [(.int ix)])) _
            refine XS.iloadN X0.here hx rfl (hb hby d_method_4_code_1) rfl ?_
            refine XS.icmpYes X0.here hx rfl (pc0 := 2) (pc' := 15) rfl (hb hby d_method_4_code_2) rfl (flt (show ¬ (ix < lf) from q2143)).2.1 (by decide) (by decide) ?_
            refine XS.iloadN X0.here hx rfl (hb hby d_method_4_code_15) rfl ?_
            refine XS.iloadN X0.here hx rfl (hb hby d_method_4_code_16) rfl ?_
            refine XS.icmpYes X0.here hx rfl (pc0 := 17) (pc' := 23) rfl (hb hby d_method_4_code_17) rfl (feq (show ¬ (ix = lf) from q2147)).2 (by decide) (by decide) ?_
            refine XS.iloadN X0.here hx rfl (hb hby d_method_4_code_23) rfl ?_
            refine XS.iloadN X0.here hx rfl (hb hby d_method_4_code_24) rfl ?_
            refine XS.iconst X0.here hx rfl (hb hby d_method_4_code_25) ?_
            refine XS.iadd X0.here hx rfl (hb hby d_method_4_code_26) rfl ?_
            refine XS.icmpYes X0.here hx rfl (pc0 := 27) (pc' := 33) rfl (hb hby d_method_4_code_27) rfl (feq (show ¬ (ix = (lf + (1 : Int32))) from q2149)).2 (by decide) (by decide) ?_
            refine XS.iloadN X0.here hx rfl (hb hby d_method_4_code_33) rfl ?_
            refine XS.iloadN X0.here hx rfl (hb hby d_method_4_code_34) rfl ?_
            refine XS.isub X0.here hx rfl (hb hby d_method_4_code_35) rfl ?_
            refine XS.iconst X0.here hx rfl (hb hby d_method_4_code_36) ?_
            refine XS.isub X0.here hx rfl (hb hby d_method_4_code_37) rfl ?_
            refine XS.istore X0.here hx rfl (hb hby d_method_4_code_38) rfl (l' := #[sI ix, sI lf, sI f0, sI f1, sI m0, sI m1, .val (.int ((ix - lf) - (2 : Int32)))]) rfl ?_
            refine XS.iload X0.here hx rfl (hb hby d_method_4_code_40) rfl ?_
            refine XS.ifNo X0.here hx rfl (hb hby d_method_4_code_42) rfl ((if0 _ _).trans (teq (show ((ix - lf) - (2 : Int32)) = (0 : Int32) from q2151)).2) ?_
            refine XS.iload X0.here hx rfl (hb hby d_method_4_code_45) rfl ?_
            refine XS.goto X0.here hx rfl (pc0 := 47) (pc' := 52) rfl (hb hby d_method_4_code_47) (by decide) (by decide) ?_
            exact retN X0 hx (t := .char) Bd.returns (by simp) (hb hby d_method_4_code_52) hr2152
          · show Q_exp ix lf f0 f1 m0 m1 h0 n0 _ s₁.heap _
            rw [e0]
            exact ⟨by rw [own_ex, if_neg q2143, if_neg q2147, if_neg q2149, if_pos q2151, own_nar hm0], N0, rfl⟩
        · skip
          obtain ⟨fs2153, hr2153, hrun2153, hended2153, hW2153, hsame2153⟩ := X0.leave (v := some (.int (nar .char m1))) (fun h => by rw [Bd.returns] at h; cases h)
          refine ⟨_, _, pre0 _ (P0 _ ?_), hrun2153, hended2153, _, _, rfl, ?_, ⟨⟨_, rfl⟩, hW2153, hsame2153.mono (oB rfl) (oB rfl)⟩⟩
          · refine XS.iloadN X0.here hx rfl (hb hby d_method_4_code_0) rfl ?_
            show Sq p e below (s₁.setTop (mkF m 1 #[sI ix, sI lf, sI f0, sI f1, sI m0, sI m1, sU] [(.int ix)])) _
            refine XS.iloadN X0.here hx rfl (hb hby d_method_4_code_1) rfl ?_
            refine XS.icmpYes X0.here hx rfl (pc0 := 2) (pc' := 15) rfl (hb hby d_method_4_code_2) rfl (flt (show ¬ (ix < lf) from q2143)).2.1 (by decide) (by decide) ?_
            refine XS.iloadN X0.here hx rfl (hb hby d_method_4_code_15) rfl ?_
            refine XS.iloadN X0.here hx rfl (hb hby d_method_4_code_16) rfl ?_
            refine XS.icmpYes X0.here hx rfl (pc0 := 17) (pc' := 23) rfl (hb hby d_method_4_code_17) rfl (feq (show ¬ (ix = lf) from q2147)).2 (by decide) (by decide) ?_
            refine XS.iloadN X0.here hx rfl (hb hby d_method_4_code_23) rfl ?_
            refine XS.iloadN X0.here hx rfl (hb hby d_method_4_code_24) rfl ?_
            refine XS.iconst X0.here hx rfl (hb hby d_method_4_code_25) ?_
            refine XS.iadd X0.here hx rfl (hb hby d_method_4_code_26) rfl ?_
            refine XS.icmpYes X0.here hx rfl (pc0 := 27) (pc' := 33) rfl (hb hby d_method_4_code_27) rfl (feq (show ¬ (ix = (lf + (1 : Int32))) from q2149)).2 (by decide) (by decide) ?_
            refine XS.iloadN X0.here hx rfl (hb hby d_method_4_code_33) rfl ?_
            refine XS.iloadN X0.here hx rfl (hb hby d_method_4_code_34) rfl ?_
            refine XS.isub X0.here hx rfl (hb hby d_method_4_code_35) rfl ?_
            refine XS.iconst X0.here hx rfl (hb hby d_method_4_code_36) ?_
            refine XS.isub X0.here hx rfl (hb hby d_method_4_code_37) rfl ?_
            refine XS.istore X0.here hx rfl (hb hby d_method_4_code_38) rfl (l' := #[sI ix, sI lf, sI f0, sI f1, sI m0, sI m1, .val (.int ((ix - lf) - (2 : Int32)))]) rfl ?_
            refine XS.iload X0.here hx rfl (hb hby d_method_4_code_40) rfl ?_
            refine XS.ifYes X0.here hx rfl (pc0 := 42) (pc' := 50) rfl (hb hby d_method_4_code_42) rfl ((if0 _ _).trans (feq (show ¬ (((ix - lf) - (2 : Int32)) = (0 : Int32)) from q2151)).2) (by decide) (by decide) ?_
            refine XS.iload X0.here hx rfl (hb hby d_method_4_code_50) rfl ?_
            exact retN X0 hx (t := .char) Bd.returns (by simp) (hb hby d_method_4_code_52) hr2153
          · show Q_exp ix lf f0 f1 m0 m1 h0 n0 _ s₁.heap _
            rw [e0]
            exact ⟨by rw [own_ex, if_neg q2143, if_neg q2147, if_neg q2149, if_neg q2151, own_nar hm1], N0, rfl⟩
theorem d_method_5_code_0 : decode method_5_code 0 = .ok (.iload_n 1, 1) := by decide +kernel
theorem d_method_5_code_1 : decode method_5_code 1 = .ok (.iload_n 2, 1) := by decide +kernel
theorem d_method_5_code_2 : decode method_5_code 2 = .ok (.if_icmp .lt 5, 3) := by decide +kernel
theorem d_method_5_code_7 : decode method_5_code 7 = .ok (.aload_n 0, 1) := by decide +kernel
theorem d_method_5_code_8 : decode method_5_code 8 = .ok (.iload_n 1, 1) := by decide +kernel
theorem d_method_5_code_9 : decode method_5_code 9 = .ok (.invokevirtual 41, 3) := by decide +kernel
theorem pd39 : parseMethodDescriptor "(I)C" = some ⟨[.int], some .char⟩ := by decide +kernel
theorem d_method_5_code_12 : decode method_5_code 12 = .ok (.iload_n 1, 1) := by decide +kernel
theorem d_method_5_code_13 : decode method_5_code 13 = .ok (.iload_n 3, 1) := by decide +kernel
theorem d_method_5_code_14 : decode method_5_code 14 = .ok (.iload 4, 2) := by decide +kernel
theorem d_method_5_code_16 : decode method_5_code 16 = .ok (.iload 5, 2) := by decide +kernel
theorem d_method_5_code_18 : decode method_5_code 18 = .ok (.iload 6, 2) := by decide +kernel
theorem d_method_5_code_20 : decode method_5_code 20 = .ok (.iload 7, 2) := by decide +kernel
theorem d_method_5_code_22 : decode method_5_code 22 = .ok (.invokestatic 45, 3) := by decide +kernel
theorem pd40 : parseMethodDescriptor "(IICCCC)C" = some ⟨[.int, .int, .char, .char, .char, .char], some .char⟩ := by decide +kernel
theorem d_method_5_code_25 : decode method_5_code 25 = .ok (.if_icmp .ne 7, 3) := by decide +kernel
theorem d_method_5_code_28 : decode method_5_code 28 = .ok (.iconst 1, 1) := by decide +kernel
theorem d_method_5_code_29 : decode method_5_code 29 = .ok (.goto 4, 3) := by decide +kernel
theorem d_method_5_code_33 : decode method_5_code 33 = .ok (.ireturn, 1) := by decide +kernel
theorem d_method_5_code_5 : decode method_5_code 5 = .ok (.iconst 1, 1) := by decide +kernel
theorem d_method_5_code_6 : decode method_5_code 6 = .ok (.ireturn, 1) := by decide +kernel
theorem ef_okk (m : MethodId) (x0 : Addr) (x1 : Int32) (x2 : Int32) (x3 : Int32) (x4 : Int32) (x5 : Int32) (x6 : Int32) (x7 : Int32) : entryFrame m #[(.ref x0), (.int x1), (.int x2), (.int x3), (.int x4), (.int x5), (.int x6), (.int x7)] 8 = mkF m 0 #[sR x0, sI x1, sI x2, sI x3, sI x4, sI x5, sI x6, sI x7] [] := by (first | (simp [entryFrame, mkF, argsToLocals, Value.category]; done) | rfl)
def Q_okk  (h0 : Heap) (n0 : Nat) (v : Option Value) (h : Heap) (L : List Loc) : Prop := v = some (.int 1) ∧ Fr n0 L ∧ h = h0
theorem rm_okk (l : Launch) (Z : State) (a0 : Array Value) (hw : Tb a0 Z) (ws : List Jvm.Cond) (u : Bool) (s1 t1 : Addr) (kt : ClassId) (N : Int32) (cs : List Int32) (nk : Nat) (n lf f0 f1 m0 m1 : Int32) (G1 : Int32) (G2 : Value) (h0 : Heap) (n0 : Nat) (Z0 : n0 ≤ h0.size) (E_s1 : Exa Z h0 s1 nS) (V_s1 : Fld Z h0 s1 nS "value" "[B" (.ref t1)) (C_s1 : Fld Z h0 s1 nS "coder" "B" (.int (own_co u))) (A_s1 : Arv Z h0 t1 kt .byte N ((own_by u cs).map Value.int) (vI 0)) (N_s1 : N = Int32.ofNat (own_by u cs).length) (hc6 : cs.length ≤ 6) (hX : Int32.ofNat nk < n → cs[nk]? = some (own_ex (Int32.ofNat nk) lf f0 f1 m0 m1)) (hB : ∀ c ∈ cs, ¬ c < 0 ∧ ¬ (65535 : Int32) < c) (hL : u = false → ∀ c ∈ cs, ¬ c < 0 ∧ ¬ (255 : Int32) < c) (hf0 : ¬ f0 < 0 ∧ ¬ (65535 : Int32) < f0) (hf1 : ¬ f1 < 0 ∧ ¬ (65535 : Int32) < f1) (hm0 : ¬ m0 < 0 ∧ ¬ (65535 : Int32) < m0) (hm1 : ¬ m1 < 0 ∧ ¬ (65535 : Int32) < m1) (Sg : oSg Z G1) (P5 : ¬ (G1 = (0 : Int32))) (Sf : oSf Z G2) (hG2 : G2.isRef = true) (Sa : oSa Z) (Sh : oSh Z) (Sl : oSl Z) (Ol : Old Z n0 h0) :
    MF l Z h0 y_56 method_5_code 8 (some .boolean) ws (rM 5 0 0 66) #[(.ref s1), (.int (Int32.ofNat nk)), (.int n), (.int lf), (.int f0), (.int f1), (.int m0), (.int m1)] (Q_okk  h0 n0) := by
  refine MetFree.of_bodySF (plainFor_of_name pn_com_example_tallyline_tallyline_core_FieldErrorToStringPinLaw) hisR ?_
  intro p e s m args below meth c s₁ Bd hml hP hK
  obtain ⟨rfl, hZ, hh⟩ := hP
  have hx := Bd.exec
  have hby := Bd.bytes
  have hown : s.vm.findClass "com/example/tallyline/tallyline/core/FieldErrorToStringPinLaw" = some m.cls := findClass_of_methodNamed Bd.named
  have X0 : Stand p l e (rM 5 0 0 66) s m #[(.ref s1), (.int (Int32.ofNat nk)), (.int n), (.int lf), (.int f0), (.int f1), (.int m0), (.int m1)] below meth c s₁ [] 0 0 := Stand.of_body Bd
  have e0 : s₁.heap = h0 := by rw [← hh, Bd.state]; rfl
  have N0 := Fr.nil n0
  obtain ⟨B0, pre0, P0⟩ : ∃ B, Rg p e below B (s₁.setTop (entryFrame m #[(.ref s1), (.int (Int32.ofNat nk)), (.int n), (.int lf), (.int f0), (.int f1), (.int m0), (.int m1)] 8)) ∧ Rg p e below (s₁.setTop (mkF m 0 #[sR s1, .val (.int (Int32.ofNat nk)), sI n, sI lf, sI f0, sI f1, sI m0, sI m1] [])) B := ⟨_, fun t k => castTop (ef_okk m s1 (Int32.ofNat nk) n lf f0 f1 m0 m1) k, fun t k => k⟩
  by_cases q2154 : (Int32.ofNat nk) < n
  · skip
    have hk9 := hX q2154
    obtain ⟨cq2155, kq2155, q2155a, q2155b, q2155c⟩ := isOf hZ e0 E_s1
    obtain ⟨_, _, ⟨T2155, L2155, k2155, n2155⟩, -, X2155, ⟨Lc2155, hQ2155, l2155, y2155, z2155⟩, st2155⟩ := X0.virtualBack hx (y := y_39) (z := y_39) hown (mvT hZ (oH hw 175 rfl)) (mvT hZ (oH hw 176 rfl)) (notFace_of_selects (args := #[]) (mvT hZ (oH hw 178 rfl))) (mvT hZ (oH hw 178 rfl)) (mvT hZ (oH hw 177 rfl)) (by decide) (backOf (W := 0) (rm_sca l Z a0 hw [] u s1 t1 kt N cs nk (own_ex (Int32.ofNat nk) lf f0 f1 m0 m1) G1 G2 h0 n0 Z0 E_s1 V_s1 C_s1 A_s1 N_s1 hc6 hk9 (hB _ (List.mem_of_getElem? hk9)) hL Sg P5 Sf hG2 Sa Sh Sl Ol) hZ (oH hw 179 rfl) (oH hw 8 rfl) (by decide) (by decide)) q2155a q2155c (g := (mkF m 9 #[sR s1, .val (.int (Int32.ofNat nk)), sI n, sI lf, sI f0, sI f1, sI m0, sI m1] [(.int (Int32.ofNat nk)), (.ref s1)])) rfl (by rw [hml]; rfl) (Steps.refl _) (argsL := [(.int (Int32.ofNat nk))]) (rest := []) (lenOf pd39 rfl) rfl (oW rfl) (hb hby d_method_5_code_9) (fun _ _ => ⟨rfl, e0, (oB rfl : 0 + 0 ≤ _), (oB rfl : 0 + 0 ≤ _)⟩)
    dsimp only [Pt.U, Pt.locs, Pt.cells, Pt.slots] at X2155 l2155 y2155 z2155 st2155 hQ2155
    subst l2155 y2155 z2155
    obtain ⟨rfl, Nq2155, e2155⟩ := hQ2155
    have N2156 := Fr.app N0 Nq2155
    have P2157 : Rg p e below (T2155.setTop (mkF m 12 #[sR s1, .val (.int (Int32.ofNat nk)), sI n, sI lf, sI f0, sI f1, sI m0, sI m1] [(.int (own_ex (Int32.ofNat nk) lf f0 f1 m0 m1))])) B0 := fun t k => P0 t (by
      refine XS.iloadN X0.here hx rfl (hb hby d_method_5_code_0) rfl ?_
      refine XS.iloadN X0.here hx rfl (hb hby d_method_5_code_1) rfl ?_
      refine XS.icmpYes X0.here hx rfl (pc0 := 2) (pc' := 7) rfl (hb hby d_method_5_code_2) rfl (tlt (show (Int32.ofNat nk) < n from q2154)).1 (by decide) (by decide) ?_
      refine XS.aloadN X0.here hx rfl (hb hby d_method_5_code_7) rfl rfl ?_
      refine XS.iloadN X0.here hx rfl (hb hby d_method_5_code_8) rfl ?_
      exact st2155.trans k)
    obtain ⟨_, _, ⟨T2158, L2158, k2158, n2158⟩, -, X2158, ⟨Lc2158, hQ2158, l2158, y2158, z2158⟩, st2158⟩ := Jvm.LawKit.callS X2155 hx (y := y_55) hown (mvT hZ (oH hw 197 rfl)) (mvT hZ (oH hw 198 rfl)) (mvT hZ (oH hw 4 rfl)) (mvT hZ (oH hw 199 rfl)) (by decide) (backOf (W := 1) (rm_exp l Z a0 hw [] (Int32.ofNat nk) lf f0 f1 m0 m1 h0 n0 Z0 hf0 hf1 hm0 hm1) hZ (oH hw 199 rfl) (oH hw 4 rfl) (by decide) (by decide)) (g := (mkF m 22 #[sR s1, .val (.int (Int32.ofNat nk)), sI n, sI lf, sI f0, sI f1, sI m0, sI m1] [(.int m1), (.int m0), (.int f1), (.int f0), (.int lf), (.int (Int32.ofNat nk)), (.int (own_ex (Int32.ofNat nk) lf f0 f1 m0 m1))])) rfl (by rw [hml]; rfl) (argsL := [(.int (Int32.ofNat nk)), (.int lf), (.int f0), (.int f1), (.int m0), (.int m1)]) (rest := [(.int (own_ex (Int32.ofNat nk) lf f0 f1 m0 m1))]) (lenOf pd40 rfl) rfl (oW rfl) (hb hby d_method_5_code_22) (fun _ _ => ⟨rfl, e2155, (oB rfl : 0 + 0 ≤ _), (oB rfl : 0 + 0 ≤ _)⟩)
    dsimp only [Pt.U, Pt.locs, Pt.cells, Pt.slots] at X2158 l2158 y2158 z2158 st2158 hQ2158
    subst l2158 y2158 z2158
    obtain ⟨rfl, Nq2158, e2158⟩ := hQ2158
    have N2159 := Fr.app N2156 Nq2158
    have P2160 : Rg p e below (T2158.setTop (mkF m 25 #[sR s1, .val (.int (Int32.ofNat nk)), sI n, sI lf, sI f0, sI f1, sI m0, sI m1] [(.int (own_ex (Int32.ofNat nk) lf f0 f1 m0 m1)), (.int (own_ex (Int32.ofNat nk) lf f0 f1 m0 m1))])) B0 := fun t k => P2157 t (by
      refine XS.iloadN X2155.here hx rfl (hb hby d_method_5_code_12) rfl ?_
      refine XS.iloadN X2155.here hx rfl (hb hby d_method_5_code_13) rfl ?_
      refine XS.iload X2155.here hx rfl (hb hby d_method_5_code_14) rfl ?_
      refine XS.iload X2155.here hx rfl (hb hby d_method_5_code_16) rfl ?_
      refine XS.iload X2155.here hx rfl (hb hby d_method_5_code_18) rfl ?_
      refine XS.iload X2155.here hx rfl (hb hby d_method_5_code_20) rfl ?_
      exact st2158 _ k)
    obtain ⟨fs2161, hr2161, hrun2161, hended2161, hW2161, hsame2161⟩ := X2158.leave (v := some (vI 1)) (fun h => by rw [Bd.returns] at h; cases h)
    refine ⟨_, _, pre0 _ (P2160 _ ?_), hrun2161, hended2161, _, _, rfl, ?_, ⟨⟨_, rfl⟩, hW2161, hsame2161.mono (oB rfl) (oB rfl)⟩⟩
    · show Sq p e below (T2158.setTop (mkF m 25 #[sR s1, .val (.int (Int32.ofNat nk)), sI n, sI lf, sI f0, sI f1, sI m0, sI m1] [(.int (own_ex (Int32.ofNat nk) lf f0 f1 m0 m1)), (.int (own_ex (Int32.ofNat nk) lf f0 f1 m0 m1))])) _
      refine XS.icmpNo X2158.here hx rfl (hb hby d_method_5_code_25) rfl (teq (show (own_ex (Int32.ofNat nk) lf f0 f1 m0 m1) = (own_ex (Int32.ofNat nk) lf f0 f1 m0 m1) from (rfl : (own_ex (Int32.ofNat nk) lf f0 f1 m0 m1) = (own_ex (Int32.ofNat nk) lf f0 f1 m0 m1)))).2 ?_
      refine XS.iconst X2158.here hx rfl (hb hby d_method_5_code_28) ?_
      refine XS.goto X2158.here hx rfl (pc0 := 29) (pc' := 33) rfl (hb hby d_method_5_code_29) (by decide) (by decide) ?_
      exact retN X2158 hx (t := .boolean) Bd.returns (by simp) (hb hby d_method_5_code_33) hr2161
    · show Q_okk  h0 n0 _ T2158.heap _
      rw [e2158]
      exact ⟨rfl, N2159, rfl⟩
  · skip
    obtain ⟨fs2162, hr2162, hrun2162, hended2162, hW2162, hsame2162⟩ := X0.leave (v := some (vI 1)) (fun h => by rw [Bd.returns] at h; cases h)
    refine ⟨_, _, pre0 _ (P0 _ ?_), hrun2162, hended2162, _, _, rfl, ?_, ⟨⟨_, rfl⟩, hW2162, hsame2162.mono (oB rfl) (oB rfl)⟩⟩
    · refine XS.iloadN X0.here hx rfl (hb hby d_method_5_code_0) rfl ?_
      show Sq p e below (s₁.setTop (mkF m 1 #[sR s1, .val (.int (Int32.ofNat nk)), sI n, sI lf, sI f0, sI f1, sI m0, sI m1] [(.int (Int32.ofNat nk))])) _
      refine XS.iloadN X0.here hx rfl (hb hby d_method_5_code_1) rfl ?_
      refine XS.icmpNo X0.here hx rfl (hb hby d_method_5_code_2) rfl (flt (show ¬ ((Int32.ofNat nk) < n) from q2154)).1 ?_
      refine XS.iconst X0.here hx rfl (hb hby d_method_5_code_5) ?_
      exact retN X0 hx (t := .boolean) Bd.returns (by simp) (hb hby d_method_5_code_6) hr2162
    · show Q_okk  h0 n0 _ s₁.heap _
      rw [e0]
      exact ⟨rfl, N0, rfl⟩
theorem pd41 : parseMethodDescriptor "(ICC)Ljava/lang/String;" = some ⟨[.int, .char, .char], some (.object nS)⟩ := by decide +kernel
theorem pd42 : parseMethodDescriptor "(Ljava/lang/String;Ljava/lang/String;)V" = some ⟨[(.object nS), (.object nS)], none⟩ := by decide +kernel
theorem pd43 : parseMethodDescriptor "(Ljava/lang/String;IIICCCC)Z" = some ⟨[(.object nS), .int, .int, .int, .char, .char, .char, .char], some .boolean⟩ := by decide +kernel
theorem ef_law (m : MethodId) (x0 : Int32) (x1 : Int32) (x2 : Int32) : entryFrame m #[(.int x0), (.int x1), (.int x2)] maxLocals = mkF m 0 #[sI x0, sI x1, sI x2, sU, sU, sU, sU, sU, sU, sU, sU, sU, sU] [] := by (first | (simp [entryFrame, mkF, argsToLocals, Value.category, maxLocals]; done) | rfl)
def Q_law  (h0 : Heap) (n0 : Nat) (v : Option Value) (h : Heap) (L : List Loc) : Prop := v = some (.int 1) ∧ Fr n0 L
theorem rm_law (l : Launch) (Z : State) (a0 : Array Value) (hw : Tb a0 Z) (ws : List Jvm.Cond) (p0 p1 p2 : Int32) (G1 : Int32) (G2 : Value) (h0 : Heap) (n0 : Nat) (Z0 : n0 ≤ h0.size) (Sg : oSg Z G1) (P5 : ¬ (G1 = (0 : Int32))) (Sf : oSf Z G2) (hG2 : G2.isRef = true) (Sa : oSa Z) (Sh : oSh Z) (Sl : oSl Z) (Ol : Old Z n0 h0) :
    MetFree l x (head1 (Jvm.Cond.code x code maxLocals ret :: ws) room_1) (fun a U => a = #[(.int p0), (.int p1), (.int p2)] ∧ Z.Warmed39 U.vm ∧ U.heap = h0 ∧ CHv Z own_EL U.vm h0) (fun _ _ _ _ _ => True) (fun _ U o U' => ∃ v L, o = .returned v ∧ Q_law  h0 n0 v U'.heap L ∧ CHr Z own_EL U.vm U.heap U'.vm U'.heap ∧ ReturnedEndW U o U' L 40 2368) := by
  refine MetFree.of_bodySF (plainFor_of_name pn_com_example_tallyline_tallyline_core_FieldErrorToStringPinLaw) hisR ?_
  intro p e s m args below meth c s₁ Bd hml hP hK
  obtain ⟨rfl, hZ, hh, hCH0⟩ := hP
  have hx := Bd.exec
  have hby := Bd.bytes
  have hown : s.vm.findClass "com/example/tallyline/tallyline/core/FieldErrorToStringPinLaw" = some m.cls := findClass_of_methodNamed Bd.named
  have X0 : Stand p l e room_1 (s.setVm s.vm) m #[(.int p0), (.int p1), (.int p2)] below meth c s₁ [] 0 0 := Stand.of_body Bd
  have e0 : s₁.heap = h0 := by rw [← hh, Bd.state]; rfl
  have N0 := Fr.nil n0
  obtain ⟨B0, pre0, P0⟩ : ∃ B, Rg p e below B (s₁.setTop (entryFrame m #[(.int p0), (.int p1), (.int p2)] maxLocals)) ∧ Rg p e below (s₁.setTop (mkF m 0 #[sI p0, sI p1, sI p2, sU, sU, sU, sU, sU, sU, sU, sU, sU, sU] [])) B := ⟨_, fun t k => castTop (ef_law m p0 p1 p2) k, fun t k => k⟩
  have hS0 : s.Since s.vm h0.size := (State.WarmedH.refl s).since _
  have hCR0 : CHr Z own_EL s.vm h0 s.vm h0 := CHr.refl hCH0
  have P2163 : Rg p e below (s₁.setTop (mkF m 42 #[sI p0, sI p1, sI p2, .val (.int ((p0 &&& (65535 : Int32)).toUInt32.toUInt16.toUInt32.toInt32)), .val (.int (((p0.toUInt32 >>> ((16 : Int32) &&& 31).toUInt32).toInt32).toUInt32.toUInt16.toUInt32.toInt32)), .val (.int ((p1 &&& (65535 : Int32)).toUInt32.toUInt16.toUInt32.toInt32)), .val (.int (((p1.toUInt32 >>> ((16 : Int32) &&& 31).toUInt32).toInt32).toUInt32.toUInt16.toUInt32.toInt32)), .val (.int ((p2 &&& (2147483647 : Int32)) % (3 : Int32))), .val (.int (((p2.toUInt32 >>> ((2 : Int32) &&& 31).toUInt32).toInt32) % (3 : Int32))), sU, sU, sU, sU] [])) B0 := fun t k => P0 t (by
    refine XS.iloadN X0.here hx rfl (hb hby at_0) rfl ?_
    show Sq p e below (s₁.setTop (mkF m 1 #[sI p0, sI p1, sI p2, sU, sU, sU, sU, sU, sU, sU, sU, sU, sU] [(.int p0)])) _
    refine X0.ldcInt hx hown (mvT hZ (oH hw 0 rfl)) (g := (mkF m 1 #[sI p0, sI p1, sI p2, sU, sU, sU, sU, sU, sU, sU, sU, sU, sU] [(.int p0)])) rfl (hb hby at_1) _ ?_
    show Sq p e below (s₁.setTop (mkF m 3 #[sI p0, sI p1, sI p2, sU, sU, sU, sU, sU, sU, sU, sU, sU, sU] [(vI 65535), (.int p0)])) _
    refine XS.iand X0.here hx rfl (hb hby at_3) rfl ?_
    refine XS.i2c X0.here hx rfl (hb hby at_4) rfl ?_
    refine XS.istoreN X0.here hx rfl (hb hby at_5) rfl (l' := #[sI p0, sI p1, sI p2, .val (.int ((p0 &&& (65535 : Int32)).toUInt32.toUInt16.toUInt32.toInt32)), sU, sU, sU, sU, sU, sU, sU, sU, sU]) rfl ?_
    refine XS.iloadN X0.here hx rfl (hb hby at_6) rfl ?_
    refine XS.bipush X0.here hx rfl (hb hby at_7) ?_
    refine XS.iushr X0.here hx rfl (hb hby at_9) rfl ?_
    refine XS.i2c X0.here hx rfl (hb hby at_10) rfl ?_
    refine XS.istore X0.here hx rfl (hb hby at_11) rfl (l' := #[sI p0, sI p1, sI p2, .val (.int ((p0 &&& (65535 : Int32)).toUInt32.toUInt16.toUInt32.toInt32)), .val (.int (((p0.toUInt32 >>> ((16 : Int32) &&& 31).toUInt32).toInt32).toUInt32.toUInt16.toUInt32.toInt32)), sU, sU, sU, sU, sU, sU, sU, sU]) rfl ?_
    refine XS.iloadN X0.here hx rfl (hb hby at_13) rfl ?_
    show Sq p e below (s₁.setTop (mkF m 14 #[sI p0, sI p1, sI p2, .val (.int ((p0 &&& (65535 : Int32)).toUInt32.toUInt16.toUInt32.toInt32)), .val (.int (((p0.toUInt32 >>> ((16 : Int32) &&& 31).toUInt32).toInt32).toUInt32.toUInt16.toUInt32.toInt32)), sU, sU, sU, sU, sU, sU, sU, sU] [(.int p1)])) _
    refine X0.ldcInt hx hown (mvT hZ (oH hw 0 rfl)) (g := (mkF m 14 #[sI p0, sI p1, sI p2, .val (.int ((p0 &&& (65535 : Int32)).toUInt32.toUInt16.toUInt32.toInt32)), .val (.int (((p0.toUInt32 >>> ((16 : Int32) &&& 31).toUInt32).toInt32).toUInt32.toUInt16.toUInt32.toInt32)), sU, sU, sU, sU, sU, sU, sU, sU] [(.int p1)])) rfl (hb hby at_14) _ ?_
    show Sq p e below (s₁.setTop (mkF m 16 #[sI p0, sI p1, sI p2, .val (.int ((p0 &&& (65535 : Int32)).toUInt32.toUInt16.toUInt32.toInt32)), .val (.int (((p0.toUInt32 >>> ((16 : Int32) &&& 31).toUInt32).toInt32).toUInt32.toUInt16.toUInt32.toInt32)), sU, sU, sU, sU, sU, sU, sU, sU] [(vI 65535), (.int p1)])) _
    refine XS.iand X0.here hx rfl (hb hby at_16) rfl ?_
    refine XS.i2c X0.here hx rfl (hb hby at_17) rfl ?_
    refine XS.istore X0.here hx rfl (hb hby at_18) rfl (l' := #[sI p0, sI p1, sI p2, .val (.int ((p0 &&& (65535 : Int32)).toUInt32.toUInt16.toUInt32.toInt32)), .val (.int (((p0.toUInt32 >>> ((16 : Int32) &&& 31).toUInt32).toInt32).toUInt32.toUInt16.toUInt32.toInt32)), .val (.int ((p1 &&& (65535 : Int32)).toUInt32.toUInt16.toUInt32.toInt32)), sU, sU, sU, sU, sU, sU, sU]) rfl ?_
    refine XS.iloadN X0.here hx rfl (hb hby at_20) rfl ?_
    refine XS.bipush X0.here hx rfl (hb hby at_21) ?_
    refine XS.iushr X0.here hx rfl (hb hby at_23) rfl ?_
    refine XS.i2c X0.here hx rfl (hb hby at_24) rfl ?_
    refine XS.istore X0.here hx rfl (hb hby at_25) rfl (l' := #[sI p0, sI p1, sI p2, .val (.int ((p0 &&& (65535 : Int32)).toUInt32.toUInt16.toUInt32.toInt32)), .val (.int (((p0.toUInt32 >>> ((16 : Int32) &&& 31).toUInt32).toInt32).toUInt32.toUInt16.toUInt32.toInt32)), .val (.int ((p1 &&& (65535 : Int32)).toUInt32.toUInt16.toUInt32.toInt32)), .val (.int (((p1.toUInt32 >>> ((16 : Int32) &&& 31).toUInt32).toInt32).toUInt32.toUInt16.toUInt32.toInt32)), sU, sU, sU, sU, sU, sU]) rfl ?_
    refine XS.iloadN X0.here hx rfl (hb hby at_27) rfl ?_
    show Sq p e below (s₁.setTop (mkF m 28 #[sI p0, sI p1, sI p2, .val (.int ((p0 &&& (65535 : Int32)).toUInt32.toUInt16.toUInt32.toInt32)), .val (.int (((p0.toUInt32 >>> ((16 : Int32) &&& 31).toUInt32).toInt32).toUInt32.toUInt16.toUInt32.toInt32)), .val (.int ((p1 &&& (65535 : Int32)).toUInt32.toUInt16.toUInt32.toInt32)), .val (.int (((p1.toUInt32 >>> ((16 : Int32) &&& 31).toUInt32).toInt32).toUInt32.toUInt16.toUInt32.toInt32)), sU, sU, sU, sU, sU, sU] [(.int p2)])) _
    refine X0.ldcInt hx hown (mvT hZ (oH hw 1 rfl)) (g := (mkF m 28 #[sI p0, sI p1, sI p2, .val (.int ((p0 &&& (65535 : Int32)).toUInt32.toUInt16.toUInt32.toInt32)), .val (.int (((p0.toUInt32 >>> ((16 : Int32) &&& 31).toUInt32).toInt32).toUInt32.toUInt16.toUInt32.toInt32)), .val (.int ((p1 &&& (65535 : Int32)).toUInt32.toUInt16.toUInt32.toInt32)), .val (.int (((p1.toUInt32 >>> ((16 : Int32) &&& 31).toUInt32).toInt32).toUInt32.toUInt16.toUInt32.toInt32)), sU, sU, sU, sU, sU, sU] [(.int p2)])) rfl (hb hby at_28) _ ?_
    show Sq p e below (s₁.setTop (mkF m 30 #[sI p0, sI p1, sI p2, .val (.int ((p0 &&& (65535 : Int32)).toUInt32.toUInt16.toUInt32.toInt32)), .val (.int (((p0.toUInt32 >>> ((16 : Int32) &&& 31).toUInt32).toInt32).toUInt32.toUInt16.toUInt32.toInt32)), .val (.int ((p1 &&& (65535 : Int32)).toUInt32.toUInt16.toUInt32.toInt32)), .val (.int (((p1.toUInt32 >>> ((16 : Int32) &&& 31).toUInt32).toInt32).toUInt32.toUInt16.toUInt32.toInt32)), sU, sU, sU, sU, sU, sU] [(vI 2147483647), (.int p2)])) _
    refine XS.iand X0.here hx rfl (hb hby at_30) rfl ?_
    refine XS.iconst X0.here hx rfl (hb hby at_31) ?_
    show Sq p e below (s₁.setTop (mkF m 32 #[sI p0, sI p1, sI p2, .val (.int ((p0 &&& (65535 : Int32)).toUInt32.toUInt16.toUInt32.toInt32)), .val (.int (((p0.toUInt32 >>> ((16 : Int32) &&& 31).toUInt32).toInt32).toUInt32.toUInt16.toUInt32.toInt32)), .val (.int ((p1 &&& (65535 : Int32)).toUInt32.toUInt16.toUInt32.toInt32)), .val (.int (((p1.toUInt32 >>> ((16 : Int32) &&& 31).toUInt32).toInt32).toUInt32.toUInt16.toUInt32.toInt32)), sU, sU, sU, sU, sU, sU] [(vI 3), (.int (p2 &&& (2147483647 : Int32)))])) _
    refine iremM X0 hx rfl (hb hby at_32) rfl (by decide) ?_
    show Sq p e below (s₁.setTop (mkF m 33 #[sI p0, sI p1, sI p2, .val (.int ((p0 &&& (65535 : Int32)).toUInt32.toUInt16.toUInt32.toInt32)), .val (.int (((p0.toUInt32 >>> ((16 : Int32) &&& 31).toUInt32).toInt32).toUInt32.toUInt16.toUInt32.toInt32)), .val (.int ((p1 &&& (65535 : Int32)).toUInt32.toUInt16.toUInt32.toInt32)), .val (.int (((p1.toUInt32 >>> ((16 : Int32) &&& 31).toUInt32).toInt32).toUInt32.toUInt16.toUInt32.toInt32)), sU, sU, sU, sU, sU, sU] [(.int ((p2 &&& (2147483647 : Int32)) % (3 : Int32)))])) _
    refine XS.istore X0.here hx rfl (hb hby at_33) rfl (l' := #[sI p0, sI p1, sI p2, .val (.int ((p0 &&& (65535 : Int32)).toUInt32.toUInt16.toUInt32.toInt32)), .val (.int (((p0.toUInt32 >>> ((16 : Int32) &&& 31).toUInt32).toInt32).toUInt32.toUInt16.toUInt32.toInt32)), .val (.int ((p1 &&& (65535 : Int32)).toUInt32.toUInt16.toUInt32.toInt32)), .val (.int (((p1.toUInt32 >>> ((16 : Int32) &&& 31).toUInt32).toInt32).toUInt32.toUInt16.toUInt32.toInt32)), .val (.int ((p2 &&& (2147483647 : Int32)) % (3 : Int32))), sU, sU, sU, sU, sU]) rfl ?_
    refine XS.iloadN X0.here hx rfl (hb hby at_35) rfl ?_
    refine XS.iconst X0.here hx rfl (hb hby at_36) ?_
    refine XS.iushr X0.here hx rfl (hb hby at_37) rfl ?_
    refine XS.iconst X0.here hx rfl (hb hby at_38) ?_
    show Sq p e below (s₁.setTop (mkF m 39 #[sI p0, sI p1, sI p2, .val (.int ((p0 &&& (65535 : Int32)).toUInt32.toUInt16.toUInt32.toInt32)), .val (.int (((p0.toUInt32 >>> ((16 : Int32) &&& 31).toUInt32).toInt32).toUInt32.toUInt16.toUInt32.toInt32)), .val (.int ((p1 &&& (65535 : Int32)).toUInt32.toUInt16.toUInt32.toInt32)), .val (.int (((p1.toUInt32 >>> ((16 : Int32) &&& 31).toUInt32).toInt32).toUInt32.toUInt16.toUInt32.toInt32)), .val (.int ((p2 &&& (2147483647 : Int32)) % (3 : Int32))), sU, sU, sU, sU, sU] [(vI 3), (.int ((p2.toUInt32 >>> ((2 : Int32) &&& 31).toUInt32).toInt32))])) _
    refine iremM X0 hx rfl (hb hby at_39) rfl (by decide) ?_
    show Sq p e below (s₁.setTop (mkF m 40 #[sI p0, sI p1, sI p2, .val (.int ((p0 &&& (65535 : Int32)).toUInt32.toUInt16.toUInt32.toInt32)), .val (.int (((p0.toUInt32 >>> ((16 : Int32) &&& 31).toUInt32).toInt32).toUInt32.toUInt16.toUInt32.toInt32)), .val (.int ((p1 &&& (65535 : Int32)).toUInt32.toUInt16.toUInt32.toInt32)), .val (.int (((p1.toUInt32 >>> ((16 : Int32) &&& 31).toUInt32).toInt32).toUInt32.toUInt16.toUInt32.toInt32)), .val (.int ((p2 &&& (2147483647 : Int32)) % (3 : Int32))), sU, sU, sU, sU, sU] [(.int (((p2.toUInt32 >>> ((2 : Int32) &&& 31).toUInt32).toInt32) % (3 : Int32)))])) _
    refine XS.istore X0.here hx rfl (hb hby at_40) rfl (l' := #[sI p0, sI p1, sI p2, .val (.int ((p0 &&& (65535 : Int32)).toUInt32.toUInt16.toUInt32.toInt32)), .val (.int (((p0.toUInt32 >>> ((16 : Int32) &&& 31).toUInt32).toInt32).toUInt32.toUInt16.toUInt32.toInt32)), .val (.int ((p1 &&& (65535 : Int32)).toUInt32.toUInt16.toUInt32.toInt32)), .val (.int (((p1.toUInt32 >>> ((16 : Int32) &&& 31).toUInt32).toInt32).toUInt32.toUInt16.toUInt32.toInt32)), .val (.int ((p2 &&& (2147483647 : Int32)) % (3 : Int32))), .val (.int (((p2.toUInt32 >>> ((2 : Int32) &&& 31).toUInt32).toInt32) % (3 : Int32))), sU, sU, sU, sU]) rfl ?_
    show Sq p e below (s₁.setTop (mkF m 42 #[sI p0, sI p1, sI p2, .val (.int ((p0 &&& (65535 : Int32)).toUInt32.toUInt16.toUInt32.toInt32)), .val (.int (((p0.toUInt32 >>> ((16 : Int32) &&& 31).toUInt32).toInt32).toUInt32.toUInt16.toUInt32.toInt32)), .val (.int ((p1 &&& (65535 : Int32)).toUInt32.toUInt16.toUInt32.toInt32)), .val (.int (((p1.toUInt32 >>> ((16 : Int32) &&& 31).toUInt32).toInt32).toUInt32.toUInt16.toUInt32.toInt32)), .val (.int ((p2 &&& (2147483647 : Int32)) % (3 : Int32))), .val (.int (((p2.toUInt32 >>> ((2 : Int32) &&& 31).toUInt32).toInt32) % (3 : Int32))), sU, sU, sU, sU] [])) _
    exact k)
  obtain ⟨c0, ec0, hc0⟩ : ∃ z : Int32, z = ((p0 &&& (65535 : Int32)).toUInt32.toUInt16.toUInt32.toInt32) ∧ (¬ z < 0 ∧ ¬ (65535 : Int32) < z) := ⟨_, rfl, own_chB _⟩
  have P2164 : Rg p e below (s₁.setTop (mkF m 42 #[sI p0, sI p1, sI p2, sI c0, .val (.int (((p0.toUInt32 >>> ((16 : Int32) &&& 31).toUInt32).toInt32).toUInt32.toUInt16.toUInt32.toInt32)), .val (.int ((p1 &&& (65535 : Int32)).toUInt32.toUInt16.toUInt32.toInt32)), .val (.int (((p1.toUInt32 >>> ((16 : Int32) &&& 31).toUInt32).toInt32).toUInt32.toUInt16.toUInt32.toInt32)), .val (.int ((p2 &&& (2147483647 : Int32)) % (3 : Int32))), .val (.int (((p2.toUInt32 >>> ((2 : Int32) &&& 31).toUInt32).toInt32) % (3 : Int32))), sU, sU, sU, sU] [])) B0 := fun t k => P2163 t (by rw [ec0] at k; exact k)
  obtain ⟨c1, ec1, hc1⟩ : ∃ z : Int32, z = (((p0.toUInt32 >>> ((16 : Int32) &&& 31).toUInt32).toInt32).toUInt32.toUInt16.toUInt32.toInt32) ∧ (¬ z < 0 ∧ ¬ (65535 : Int32) < z) := ⟨_, rfl, own_chB _⟩
  have P2165 : Rg p e below (s₁.setTop (mkF m 42 #[sI p0, sI p1, sI p2, sI c0, sI c1, .val (.int ((p1 &&& (65535 : Int32)).toUInt32.toUInt16.toUInt32.toInt32)), .val (.int (((p1.toUInt32 >>> ((16 : Int32) &&& 31).toUInt32).toInt32).toUInt32.toUInt16.toUInt32.toInt32)), .val (.int ((p2 &&& (2147483647 : Int32)) % (3 : Int32))), .val (.int (((p2.toUInt32 >>> ((2 : Int32) &&& 31).toUInt32).toInt32) % (3 : Int32))), sU, sU, sU, sU] [])) B0 := fun t k => P2164 t (by rw [ec1] at k; exact k)
  obtain ⟨d0, ed0, hd0⟩ : ∃ z : Int32, z = ((p1 &&& (65535 : Int32)).toUInt32.toUInt16.toUInt32.toInt32) ∧ (¬ z < 0 ∧ ¬ (65535 : Int32) < z) := ⟨_, rfl, own_chB _⟩
  have P2166 : Rg p e below (s₁.setTop (mkF m 42 #[sI p0, sI p1, sI p2, sI c0, sI c1, sI d0, .val (.int (((p1.toUInt32 >>> ((16 : Int32) &&& 31).toUInt32).toInt32).toUInt32.toUInt16.toUInt32.toInt32)), .val (.int ((p2 &&& (2147483647 : Int32)) % (3 : Int32))), .val (.int (((p2.toUInt32 >>> ((2 : Int32) &&& 31).toUInt32).toInt32) % (3 : Int32))), sU, sU, sU, sU] [])) B0 := fun t k => P2165 t (by rw [ed0] at k; exact k)
  obtain ⟨d1, ed1, hd1⟩ : ∃ z : Int32, z = (((p1.toUInt32 >>> ((16 : Int32) &&& 31).toUInt32).toInt32).toUInt32.toUInt16.toUInt32.toInt32) ∧ (¬ z < 0 ∧ ¬ (65535 : Int32) < z) := ⟨_, rfl, own_chB _⟩
  have P2167 : Rg p e below (s₁.setTop (mkF m 42 #[sI p0, sI p1, sI p2, sI c0, sI c1, sI d0, sI d1, .val (.int ((p2 &&& (2147483647 : Int32)) % (3 : Int32))), .val (.int (((p2.toUInt32 >>> ((2 : Int32) &&& 31).toUInt32).toInt32) % (3 : Int32))), sU, sU, sU, sU] [])) B0 := fun t k => P2166 t (by rw [ed1] at k; exact k)
  obtain ⟨na, hna, ena⟩ := own_lf p2
  have P2168 : Rg p e below (s₁.setTop (mkF m 42 #[sI p0, sI p1, sI p2, sI c0, sI c1, sI d0, sI d1, .val (.int (Int32.ofNat na)), .val (.int (((p2.toUInt32 >>> ((2 : Int32) &&& 31).toUInt32).toInt32) % (3 : Int32))), sU, sU, sU, sU] [])) B0 := fun t k => P2167 t (by rw [ena] at k; exact k)
  obtain ⟨nb, hnb, enb⟩ := own_lm p2
  have P2169 : Rg p e below (s₁.setTop (mkF m 42 #[sI p0, sI p1, sI p2, sI c0, sI c1, sI d0, sI d1, .val (.int (Int32.ofNat na)), .val (.int (Int32.ofNat nb)), sU, sU, sU, sU] [])) B0 := fun t k => P2168 t (by rw [enb] at k; exact k)
  obtain ⟨_, _, ⟨T2170, L2170, k2170, n2170⟩, -, X2170, hs2170, hg2170, ⟨Lc2170, hQ2170, l2170, y2170, z2170, cr2170⟩, st2170⟩ := callSS X0 hx (y := y_51) hown (mvT hZ (oH hw 2 rfl)) (mvT hZ (oH hw 3 rfl)) (mvT hZ (oH hw 4 rfl)) (mvT hZ (oH hw 5 rfl)) (by decide) (backOfSH (W := 0) (rm_mak l Z a0 hw [] na c0 c1 G1 G2 h0 n0 Z0 hna hc0 hc1 Sg P5 Sf hG2 Sa Sh Sl Ol) hZ (oH hw 5 rfl) (oH hw 4 rfl) (by decide) (by decide) (own_EW hw) hCH0) (g := (mkF m 47 #[sI p0, sI p1, sI p2, sI c0, sI c1, sI d0, sI d1, .val (.int (Int32.ofNat na)), .val (.int (Int32.ofNat nb)), sU, sU, sU, sU] [(.int c1), (.int c0), (.int (Int32.ofNat na))])) rfl (by rw [hml]; rfl) (argsL := [(.int (Int32.ofNat na)), (.int c0), (.int c1)]) (rest := []) (lenOf pd41 rfl) rfl (oW rfl) (hb hby at_47) (fun _ _ => ⟨rfl, e0, (oB rfl : 0 + 6 ≤ _), (oB rfl : 0 + 12 ≤ _)⟩)
  dsimp only [Pt.U, Pt.locs, Pt.cells, Pt.slots] at X2170 l2170 y2170 z2170 st2170 hQ2170 hs2170 hg2170 cr2170
  subst l2170 y2170 z2170
  obtain ⟨u2170, s2170, t2170, k2170, N2170_, cs2170, rfl, Nq2170, K2170, E2170, Fc2170, Fv2170, A2170, hN2170, hcs2170, hL2170⟩ := hQ2170
  obtain ⟨Xr2170, hSr2170, hZr2170, ho2170⟩ := rebS hS0 (by rw [e0]; exact (Nat.le_refl _)) X2170 hs2170 hg2170 hZ hown
  have N2171 := Fr.app N0 Nq2170
  have P2172 : Rg p e below (T2170.setTop (mkF m 50 #[sI p0, sI p1, sI p2, sI c0, sI c1, sI d0, sI d1, .val (.int (Int32.ofNat na)), .val (.int (Int32.ofNat nb)), sU, sU, sU, sU] [(.ref s2170)])) B0 := fun t k => P2169 t (by
    refine XS.iload X0.here hx rfl (hb hby at_42) rfl ?_
    refine XS.iloadN X0.here hx rfl (hb hby at_44) rfl ?_
    refine XS.iload X0.here hx rfl (hb hby at_45) rfl ?_
    show Sq p e below (s₁.setTop (mkF m 47 #[sI p0, sI p1, sI p2, sI c0, sI c1, sI d0, sI d1, .val (.int (Int32.ofNat na)), .val (.int (Int32.ofNat nb)), sU, sU, sU, sU] [(.int c1), (.int c0), (.int (Int32.ofNat na))])) _
    exact st2170.trans k)
  have Z2173 : n0 ≤ T2170.heap.size := Nat.le_trans Z0 K2170.1
  have K2174 : Keep h0 T2170.heap [] := (Keep.refl h0 []).trans K2170 (all0)
  have O2175 : Old Z n0 T2170.heap := Ol.keep K2170 all0
  have R2176 : CHr Z own_EL s.vm h0 T2170.vm T2170.heap := hCR0.trans cr2170
  obtain ⟨_, _, ⟨T2177, L2177, k2177, n2177⟩, -, X2177, hs2177, hg2177, ⟨Lc2177, hQ2177, l2177, y2177, z2177, cr2177⟩, st2177⟩ := callSS Xr2170 hx (y := y_51) ho2170 (mvT hZr2170 (oH hw 2 rfl)) (mvT hZr2170 (oH hw 3 rfl)) (mvT hZr2170 (oH hw 4 rfl)) (mvT hZr2170 (oH hw 5 rfl)) (by decide) (backOfSH (W := 0) (rm_mak l Z a0 hw [] nb d0 d1 G1 G2 T2170.heap n0 Z2173 hnb hd0 hd1 Sg P5 Sf hG2 Sa Sh Sl O2175) hZr2170 (oH hw 5 rfl) (oH hw 4 rfl) (by decide) (by decide) (own_EW hw) cr2170.1) (g := (mkF m 58 #[sI p0, sI p1, sI p2, sI c0, sI c1, sI d0, sI d1, .val (.int (Int32.ofNat na)), .val (.int (Int32.ofNat nb)), sR s2170, sU, sU, sU] [(.int d1), (.int d0), (.int (Int32.ofNat nb))])) rfl (by rw [hml]; rfl) (argsL := [(.int (Int32.ofNat nb)), (.int d0), (.int d1)]) (rest := []) (lenOf pd41 rfl) rfl (oW rfl) (hb hby at_58) (fun _ _ => ⟨rfl, rfl, (oB rfl : 6 + 6 ≤ _), (oB rfl : 12 + 12 ≤ _)⟩)
  dsimp only [Pt.U, Pt.locs, Pt.cells, Pt.slots] at X2177 l2177 y2177 z2177 st2177 hQ2177 hs2177 hg2177 cr2177
  subst l2177 y2177 z2177
  obtain ⟨u2177, s2177, t2177, k2177, N2177_, cs2177, rfl, Nq2177, K2177, E2177, Fc2177, Fv2177, A2177, hN2177, hcs2177, hL2177⟩ := hQ2177
  obtain ⟨Xr2177, hSr2177, hZr2177, ho2177⟩ := rebS hSr2170 (Nat.le_refl _) X2177 hs2177 hg2177 hZr2170 ho2170
  have N2178 := Fr.app N2171 Nq2177
  have P2179 : Rg p e below (T2177.setTop (mkF m 61 #[sI p0, sI p1, sI p2, sI c0, sI c1, sI d0, sI d1, .val (.int (Int32.ofNat na)), .val (.int (Int32.ofNat nb)), sR s2170, sU, sU, sU] [(.ref s2177)])) B0 := fun t k => P2172 t (by
    refine XS.astore Xr2170.here hx rfl (hb hby at_50) rfl rfl (l' := #[sI p0, sI p1, sI p2, sI c0, sI c1, sI d0, sI d1, .val (.int (Int32.ofNat na)), .val (.int (Int32.ofNat nb)), sR s2170, sU, sU, sU]) rfl ?_
    refine XS.iload Xr2170.here hx rfl (hb hby at_52) rfl ?_
    refine XS.iload Xr2170.here hx rfl (hb hby at_54) rfl ?_
    refine XS.iload Xr2170.here hx rfl (hb hby at_56) rfl ?_
    show Sq p e below (T2170.setTop (mkF m 58 #[sI p0, sI p1, sI p2, sI c0, sI c1, sI d0, sI d1, .val (.int (Int32.ofNat na)), .val (.int (Int32.ofNat nb)), sR s2170, sU, sU, sU] [(.int d1), (.int d0), (.int (Int32.ofNat nb))])) _
    exact st2177.trans k)
  have Z2180 : n0 ≤ T2177.heap.size := Nat.le_trans Z2173 K2177.1
  have K2181 : Keep h0 T2177.heap [] := K2174.trans K2177 (all0)
  have O2182 : Old Z n0 T2177.heap := O2175.keep K2177 all0
  have R2183 : CHr Z own_EL s.vm h0 T2177.vm T2177.heap := R2176.trans cr2177
  obtain ⟨T2184, h2184, X2184, e2184, E2184, A2184, D2184, -, st2184⟩ := newO Xr2177 hx hZr2177 ho2177 (oH hw 39 rfl) (oH hw 40 rfl) (oH hw 41 rfl) rfl (g := (mkF m 63 #[sI p0, sI p1, sI p2, sI c0, sI c1, sI d0, sI d1, .val (.int (Int32.ofNat na)), .val (.int (Int32.ofNat nb)), sR s2170, sR s2177, sU, sU] [])) rfl (hb hby at_63) (by decide) (by decide)
  obtain ⟨b2184, g2184⟩ : ∃ z, z = T2177.heap.size := ⟨_, rfl⟩
  rw [← g2184] at A2184 D2184 st2184
  have g_b2184 : n0 ≤ b2184 := Nat.le_trans Z2180 (Nat.le_of_eq g2184.symm)
  have sz_b2184 : h0.size ≤ b2184 := Nat.le_trans K2181.1 (Nat.le_of_eq g2184.symm)
  have P2185 : Rg p e below (T2184.setTop (mkF m 66 #[sI p0, sI p1, sI p2, sI c0, sI c1, sI d0, sI d1, .val (.int (Int32.ofNat na)), .val (.int (Int32.ofNat nb)), sR s2170, sR s2177, sU, sU] [(.ref b2184)])) B0 := fun t k => P2179 t (by
    refine XS.astore Xr2177.here hx rfl (hb hby at_61) rfl rfl (l' := #[sI p0, sI p1, sI p2, sI c0, sI c1, sI d0, sI d1, .val (.int (Int32.ofNat na)), .val (.int (Int32.ofNat nb)), sR s2170, sR s2177, sU, sU]) rfl ?_
    show Sq p e below (T2177.setTop (mkF m 63 #[sI p0, sI p1, sI p2, sI c0, sI c1, sI d0, sI d1, .val (.int (Int32.ofNat na)), .val (.int (Int32.ofNat nb)), sR s2170, sR s2177, sU, sU] [])) _
    exact st2184 _ k)
  have Z2186 : n0 ≤ h2184.size := Nat.le_trans Z2180 E2184.1
  have K2187 : Keep h0 h2184 [] := K2181.ext E2184
  have O2188 : Old Z n0 h2184 := O2182.ext E2184
  have hk2189 : T2177.heap.size ≤ h2184.size := Nat.le_trans (Nat.le_refl _) E2184.1
  have C2190 : CHr Z own_EL T2177.vm T2177.heap T2177.vm h2184 := CHr.ext E2184 cr2177.1
  have R2191 : CHr Z own_EL s.vm h0 T2177.vm h2184 := R2183.trans C2190
  have sf_b2184 : Safe Z own_EL T2177.vm h2184 b2184 := Safe.ext E2184 cr2177.1 (Safe.new (Nat.le_of_eq g2184.symm))
  have f2192 : Fld Z h2184 b2184 "com/example/tallyline/tallyline/core/FieldError" "field" "Ljava/lang/String;" .null := D2184 (Or.inr (oH hw 52 rfl)) (ty := (.object nS)) (by decide)
  have f2193 : Fld Z h2184 b2184 "com/example/tallyline/tallyline/core/FieldError" "message" "Ljava/lang/String;" .null := D2184 (Or.inr (oH hw 54 rfl)) (ty := (.object nS)) (by decide)
  have f2194 := ((E2170.keep K2177).ext E2184)
  have f2195 := (E2177.ext E2184)
  obtain ⟨_, _, ⟨T2196, L2196, k2196, n2196⟩, -, X2196, ⟨Lc2196, hQ2196, l2196, y2196, z2196⟩, st2196⟩ := X2184.specialBack hx (y := y_53) rfl ho2177 (mvT hZr2177 (oH hw 42 rfl)) (mvT hZr2177 (oH hw 43 rfl)) (mvT hZr2177 (oH hw 44 rfl)) (by decide) (backOf (W := 1) (rm_fei l Z a0 hw [] b2184 s2170 s2177 h2184 n0 Z2186 g_b2184 A2184 f2194 f2195 f2192 f2193) hZr2177 (oH hw 44 rfl) (oH hw 41 rfl) (by decide) (by decide)) (g := (mkF m 71 #[sI p0, sI p1, sI p2, sI c0, sI c1, sI d0, sI d1, .val (.int (Int32.ofNat na)), .val (.int (Int32.ofNat nb)), sR s2170, sR s2177, sU, sU] [(.ref s2177), (.ref s2170), (.ref b2184), (.ref b2184)])) rfl (by rw [hml]; rfl) (Steps.refl _) (a := b2184) (argsL := [(.ref s2170), (.ref s2177)]) (rest := [(.ref b2184)]) (lenOf pd42 rfl) rfl (oW rfl) (hb hby at_71) (fun _ _ => ⟨rfl, e2184, (oB rfl : 13 + 0 ≤ _), (oB rfl : 26 + 0 ≤ _)⟩)
  dsimp only [Pt.U, Pt.locs, Pt.cells, Pt.slots] at X2196 l2196 y2196 z2196 st2196 hQ2196
  subst l2196 y2196 z2196
  obtain ⟨rfl, Nq2196, K2196, E2196, F12196, F22196⟩ := hQ2196
  have N2197 := Fr.app N2178 Nq2196
  have P2198 : Rg p e below (T2196.setTop (mkF m 74 #[sI p0, sI p1, sI p2, sI c0, sI c1, sI d0, sI d1, .val (.int (Int32.ofNat na)), .val (.int (Int32.ofNat nb)), sR s2170, sR s2177, sU, sU] [(.ref b2184)])) B0 := fun t k => P2185 t (by
    refine XS.dup X2184.here hx rfl (hb hby at_66) rfl rfl ?_
    refine XS.aload X2184.here hx rfl (hb hby at_67) rfl rfl ?_
    refine XS.aload X2184.here hx rfl (hb hby at_69) rfl rfl ?_
    show Sq p e below (T2184.setTop (mkF m 71 #[sI p0, sI p1, sI p2, sI c0, sI c1, sI d0, sI d1, .val (.int (Int32.ofNat na)), .val (.int (Int32.ofNat nb)), sR s2170, sR s2177, sU, sU] [(.ref s2177), (.ref s2170), (.ref b2184), (.ref b2184)])) _
    exact st2196.trans k)
  have Z2199 : n0 ≤ T2196.heap.size := Nat.le_trans Z2186 K2196.1
  have K2200 : Keep h0 T2196.heap [] := K2187.trans K2196 ((allS (Or.inr sz_b2184) all0))
  have O2201 : Old Z n0 T2196.heap := O2188.keep K2196 (allS g_b2184 all0)
  have hk2202 : T2177.heap.size ≤ T2196.heap.size := Nat.le_trans hk2189 K2196.1
  have C2203 : CHr Z own_EL T2177.vm h2184 T2177.vm T2196.heap := CHr.keep K2196 (sfS (Safe.exa hZr2177.alike A2184 (by decide) (by decide)) sf0) C2190.1
  have R2204 : CHr Z own_EL s.vm h0 T2177.vm T2196.heap := R2191.trans C2203
  have hl2170 : cs2170.length ≤ 2 := by rw [hcs2170, own_mkL hna]; exact hna
  have hl2177 : cs2177.length ≤ 2 := by rw [hcs2177, own_mkL hnb]; exact hnb
  have f2205 := (f2194.keep K2196)
  have f2206 := (((Fv2170.keep K2177 nin0).ext E2184).keep K2196 (ninS (Nat.ne_of_lt (Nat.lt_of_lt_of_le (Fv2170.keep K2177 nin0).lt (Nat.le_of_eq g2184.symm))) nin0))
  have f2207 := (((Fc2170.keep K2177 nin0).ext E2184).keep K2196 (ninS (Nat.ne_of_lt (Nat.lt_of_lt_of_le (Fv2170.keep K2177 nin0).lt (Nat.le_of_eq g2184.symm))) nin0))
  have f2208 := (((A2170.keep K2177 nin0).ext E2184).keep K2196 (ninS (Nat.ne_of_lt (Nat.lt_of_lt_of_le (A2170.keep K2177 nin0).lt (Nat.le_of_eq g2184.symm))) nin0))
  have f2209 := (f2195.keep K2196)
  have f2210 := ((Fv2177.ext E2184).keep K2196 (ninS (Nat.ne_of_lt (Nat.lt_of_lt_of_le Fv2177.lt (Nat.le_of_eq g2184.symm))) nin0))
  have f2211 := ((Fc2177.ext E2184).keep K2196 (ninS (Nat.ne_of_lt (Nat.lt_of_lt_of_le Fv2177.lt (Nat.le_of_eq g2184.symm))) nin0))
  have f2212 := ((A2177.ext E2184).keep K2196 (ninS (Nat.ne_of_lt (Nat.lt_of_lt_of_le A2177.lt (Nat.le_of_eq g2184.symm))) nin0))
  obtain ⟨cq2213, kq2213, q2213a, q2213b, q2213c⟩ := isOf hZr2177 rfl E2196
  obtain ⟨_, _, ⟨T2213, L2213, k2213, n2213⟩, -, X2213, hs2213, hg2213, ⟨Lc2213, hQ2213, l2213, y2213, z2213, cr2213⟩, st2213⟩ := X2196.virtualBackS hx (y := y_54) (z := y_54) ho2177 (mvT hZr2177 (oH hw 55 rfl)) (mvT hZr2177 (oH hw 56 rfl)) (notFace_of_selects (args := #[]) (mvT hZr2177 (oH hw 58 rfl))) (mvT hZr2177 (oH hw 58 rfl)) (mvT hZr2177 (oH hw 57 rfl)) (by decide) (backOfSH (W := 0) (rm_tos l Z a0 hw [] u2170 u2177 b2184 s2170 t2170 k2170 N2170_ cs2170 s2177 t2177 k2177 N2177_ cs2177 G1 G2 T2196.heap n0 Z2199 F12196 F22196 f2205 f2206 f2207 f2208 hN2170 f2209 f2210 f2211 f2212 hN2177 hl2170 hl2177 hL2170 hL2177 Sg P5 Sf hG2 Sa Sh Sl O2201) hZr2177 (oH hw 59 rfl) (oH hw 41 rfl) (by decide) (by decide) (own_EW hw) C2203.1) q2213a q2213c (g := (mkF m 74 #[sI p0, sI p1, sI p2, sI c0, sI c1, sI d0, sI d1, .val (.int (Int32.ofNat na)), .val (.int (Int32.ofNat nb)), sR s2170, sR s2177, sU, sU] [(.ref b2184)])) rfl (by rw [hml]; rfl) (Steps.refl _) (argsL := []) (rest := []) (lenOf pd38 rfl) rfl (oW rfl) (hb hby at_74) (fun _ _ => ⟨rfl, rfl, (oB rfl : 13 + 7 ≤ _), (oB rfl : 26 + 80 ≤ _)⟩)
  dsimp only [Pt.U, Pt.locs, Pt.cells, Pt.slots] at X2213 l2213 y2213 z2213 st2213 hQ2213 hs2213 hg2213 cr2213
  subst l2213 y2213 z2213
  obtain ⟨x2213, rfl, Nq2213, K2213, Es2213, Fc2213, t2213, k2213, N2213_, Fv2213, A2213, hN2213⟩ := hQ2213
  obtain ⟨Xr2213, hSr2213, hZr2213, ho2213⟩ := rebS hSr2177 hk2202 X2213 hs2213 hg2213 hZr2177 ho2177
  have N2214 := Fr.app N2197 Nq2213
  have P2215 : Rg p e below (T2213.setTop (mkF m 77 #[sI p0, sI p1, sI p2, sI c0, sI c1, sI d0, sI d1, .val (.int (Int32.ofNat na)), .val (.int (Int32.ofNat nb)), sR s2170, sR s2177, sU, sU] [(.ref x2213)])) B0 := fun t k => P2198 t (by
    exact st2213.trans k)
  have Z2216 : n0 ≤ T2213.heap.size := Nat.le_trans Z2199 K2213.1
  have K2217 : Keep h0 T2213.heap [] := K2200.trans K2213 (all0)
  have O2218 : Old Z n0 T2213.heap := O2201.keep K2213 all0
  have R2219 : CHr Z own_EL s.vm h0 T2213.vm T2213.heap := R2204.trans cr2213
  have hcc : (((([] : List Int32) ++ cs2170) ++ [(58 : Int32), (32 : Int32)]) ++ cs2177) = (own_all na nb c0 c1 d0 d1) := by unfold own_all; rw [hcs2170, hcs2177]
  rw [hcc] at A2213 hN2213
  have h6 : (own_all na nb c0 c1 d0 d1).length ≤ 6 := by rw [own_allL hna hnb]; omega
  have hB9 : ∀ c ∈ (own_all na nb c0 c1 d0 d1), ¬ c < 0 ∧ ¬ (65535 : Int32) < c := own_allM (P := fun c => ¬ c < 0 ∧ ¬ (65535 : Int32) < c) hc0 hc1 hd0 hd1 (by decide) (by decide)
  have hL9 : (u2170 || u2177) = false → ∀ c ∈ (own_all na nb c0 c1 d0 d1), ¬ c < 0 ∧ ¬ (255 : Int32) < c := fun q => by
    have q2 := Bool.or_eq_false_iff.mp q
    have qf := hL2170 q2.1
    have qm := hL2177 q2.2
    rw [hcs2170] at qf
    rw [hcs2177] at qm
    exact own_allC qf qm
  obtain ⟨cq2220, kq2220, q2220a, q2220b, q2220c⟩ := isOf hZr2213 rfl Es2213
  obtain ⟨_, _, ⟨T2220, L2220, k2220, n2220⟩, -, X2220, ⟨Lc2220, hQ2220, l2220, y2220, z2220⟩, st2220⟩ := Xr2213.virtualBack hx (y := y_14) (z := y_14) ho2213 (mvT hZr2213 (oH hw 171 rfl)) (mvT hZr2213 (oH hw 89 rfl)) (notFace_of_selects (args := #[]) (mvT hZr2213 (oH hw 91 rfl))) (mvT hZr2213 (oH hw 91 rfl)) (mvT hZr2213 (oH hw 90 rfl)) (by decide) (backOf (W := 0) (rm_slg l Z a0 hw [] (u2170 || u2177) x2213 t2213 k2213 N2213_ (own_all na nb c0 c1 d0 d1) G1 G2 T2213.heap n0 Z2216 Es2213 Fv2213 Fc2213 A2213 hN2213 h6 Sg P5 Sf hG2 Sa Sh Sl O2218) hZr2213 (oH hw 92 rfl) (oH hw 8 rfl) (by decide) (by decide)) q2220a q2220c (g := (mkF m 97 #[sI p0, sI p1, sI p2, sI c0, sI c1, sI d0, sI d1, .val (.int (Int32.ofNat na)), .val (.int (Int32.ofNat nb)), sR s2170, sR s2177, sR x2213, .val (.int (((Int32.ofNat na) + (2 : Int32)) + (Int32.ofNat nb)))] [(.ref x2213)])) rfl (by rw [hml]; rfl) (Steps.refl _) (argsL := []) (rest := []) (lenOf pd16 rfl) rfl (oW rfl) (hb hby at_97) (fun _ _ => ⟨rfl, rfl, (oB rfl : 20 + 0 ≤ _), (oB rfl : 106 + 0 ≤ _)⟩)
  dsimp only [Pt.U, Pt.locs, Pt.cells, Pt.slots] at X2220 l2220 y2220 z2220 st2220 hQ2220
  subst l2220 y2220 z2220
  obtain ⟨rfl, Nq2220, e2220⟩ := hQ2220
  have N2221 := Fr.app N2214 Nq2220
  have P2222 : Rg p e below (T2220.setTop (mkF m 100 #[sI p0, sI p1, sI p2, sI c0, sI c1, sI d0, sI d1, .val (.int (Int32.ofNat na)), .val (.int (Int32.ofNat nb)), sR s2170, sR s2177, sR x2213, .val (.int (((Int32.ofNat na) + (2 : Int32)) + (Int32.ofNat nb)))] [(.int (Int32.ofNat (own_all na nb c0 c1 d0 d1).length))])) B0 := fun t k => P2215 t (by
    refine XS.astore Xr2213.here hx rfl (hb hby at_77) rfl rfl (l' := #[sI p0, sI p1, sI p2, sI c0, sI c1, sI d0, sI d1, .val (.int (Int32.ofNat na)), .val (.int (Int32.ofNat nb)), sR s2170, sR s2177, sR x2213, sU]) rfl ?_
    refine XS.aload Xr2213.here hx rfl (hb hby at_79) rfl rfl ?_
    refine XS.ifnonnullYes Xr2213.here hx rfl (pc0 := 81) (pc' := 86) rfl (hb hby at_81) rfl (by decide) (by decide) ?_
    refine XS.iload Xr2213.here hx rfl (hb hby at_86) rfl ?_
    refine XS.iconst Xr2213.here hx rfl (hb hby at_88) ?_
    refine XS.iadd Xr2213.here hx rfl (hb hby at_89) rfl ?_
    refine XS.iload Xr2213.here hx rfl (hb hby at_90) rfl ?_
    refine XS.iadd Xr2213.here hx rfl (hb hby at_92) rfl ?_
    refine XS.istore Xr2213.here hx rfl (hb hby at_93) rfl (l' := #[sI p0, sI p1, sI p2, sI c0, sI c1, sI d0, sI d1, .val (.int (Int32.ofNat na)), .val (.int (Int32.ofNat nb)), sR s2170, sR s2177, sR x2213, .val (.int (((Int32.ofNat na) + (2 : Int32)) + (Int32.ofNat nb)))]) rfl ?_
    refine XS.aload Xr2213.here hx rfl (hb hby at_95) rfl rfl ?_
    show Sq p e below (T2213.setTop (mkF m 97 #[sI p0, sI p1, sI p2, sI c0, sI c1, sI d0, sI d1, .val (.int (Int32.ofNat na)), .val (.int (Int32.ofNat nb)), sR s2170, sR s2177, sR x2213, .val (.int (((Int32.ofNat na) + (2 : Int32)) + (Int32.ofNat nb)))] [(.ref x2213)])) _
    exact st2220.trans k)
  have hn9 : Int32.ofNat (own_all na nb c0 c1 d0 d1).length = (((Int32.ofNat na) + (2 : Int32)) + (Int32.ofNat nb)) := own_allN hna hnb c0 c1 d0 d1
  obtain ⟨_, _, ⟨T2223, L2223, k2223, n2223⟩, -, X2223, ⟨Lc2223, hQ2223, l2223, y2223, z2223⟩, st2223⟩ := Jvm.LawKit.callS X2220 hx (y := y_56) ho2213 (mvT hZr2213 (oH hw 172 rfl)) (mvT hZr2213 (oH hw 173 rfl)) (mvT hZr2213 (oH hw 4 rfl)) (mvT hZr2213 (oH hw 174 rfl)) (by decide) (backOf (W := 0) (rm_okk l Z a0 hw [] (u2170 || u2177) x2213 t2213 k2213 N2213_ (own_all na nb c0 c1 d0 d1) 0 (((Int32.ofNat na) + (2 : Int32)) + (Int32.ofNat nb)) (Int32.ofNat na) c0 c1 d0 d1 G1 G2 T2213.heap n0 Z2216 Es2213 Fv2213 Fc2213 A2213 hN2213 h6 (fun q => own_allX hna hnb (by decide) c0 c1 d0 d1 q) hB9 hL9 hc0 hc1 hd0 hd1 Sg P5 Sf hG2 Sa Sh Sl O2218) hZr2213 (oH hw 174 rfl) (oH hw 4 rfl) (by decide) (by decide)) (g := (mkF m 121 #[sI p0, sI p1, sI p2, sI c0, sI c1, sI d0, sI d1, .val (.int (Int32.ofNat na)), .val (.int (Int32.ofNat nb)), sR s2170, sR s2177, sR x2213, .val (.int (((Int32.ofNat na) + (2 : Int32)) + (Int32.ofNat nb)))] [(.int d1), (.int d0), (.int c1), (.int c0), (.int (Int32.ofNat na)), (.int (((Int32.ofNat na) + (2 : Int32)) + (Int32.ofNat nb))), (vI 0), (.ref x2213)])) rfl (by rw [hml]; rfl) (argsL := [(.ref x2213), (vI 0), (.int (((Int32.ofNat na) + (2 : Int32)) + (Int32.ofNat nb))), (.int (Int32.ofNat na)), (.int c0), (.int c1), (.int d0), (.int d1)]) (rest := []) (lenOf pd43 rfl) rfl (oW rfl) (hb hby at_121) (fun _ _ => ⟨rfl, e2220, (oB rfl : 20 + 0 ≤ _), (oB rfl : 106 + 0 ≤ _)⟩)
  dsimp only [Pt.U, Pt.locs, Pt.cells, Pt.slots] at X2223 l2223 y2223 z2223 st2223 hQ2223
  subst l2223 y2223 z2223
  obtain ⟨rfl, Nq2223, e2223⟩ := hQ2223
  have N2224 := Fr.app N2221 Nq2223
  have P2225 : Rg p e below (T2223.setTop (mkF m 124 #[sI p0, sI p1, sI p2, sI c0, sI c1, sI d0, sI d1, .val (.int (Int32.ofNat na)), .val (.int (Int32.ofNat nb)), sR s2170, sR s2177, sR x2213, .val (.int (((Int32.ofNat na) + (2 : Int32)) + (Int32.ofNat nb)))] [(vI 1)])) B0 := fun t k => P2222 t (by
    refine XS.iload X2220.here hx rfl (hb hby at_100) rfl ?_
    refine XS.icmpYes X2220.here hx rfl (pc0 := 102) (pc' := 107) rfl (hb hby at_102) rfl (teq (show (Int32.ofNat (own_all na nb c0 c1 d0 d1).length) = (((Int32.ofNat na) + (2 : Int32)) + (Int32.ofNat nb)) from hn9)).1 (by decide) (by decide) ?_
    refine XS.aload X2220.here hx rfl (hb hby at_107) rfl rfl ?_
    refine XS.iconst X2220.here hx rfl (hb hby at_109) ?_
    refine XS.iload X2220.here hx rfl (hb hby at_110) rfl ?_
    refine XS.iload X2220.here hx rfl (hb hby at_112) rfl ?_
    refine XS.iloadN X2220.here hx rfl (hb hby at_114) rfl ?_
    refine XS.iload X2220.here hx rfl (hb hby at_115) rfl ?_
    refine XS.iload X2220.here hx rfl (hb hby at_117) rfl ?_
    refine XS.iload X2220.here hx rfl (hb hby at_119) rfl ?_
    show Sq p e below (T2220.setTop (mkF m 121 #[sI p0, sI p1, sI p2, sI c0, sI c1, sI d0, sI d1, .val (.int (Int32.ofNat na)), .val (.int (Int32.ofNat nb)), sR s2170, sR s2177, sR x2213, .val (.int (((Int32.ofNat na) + (2 : Int32)) + (Int32.ofNat nb)))] [(.int d1), (.int d0), (.int c1), (.int c0), (.int (Int32.ofNat na)), (.int (((Int32.ofNat na) + (2 : Int32)) + (Int32.ofNat nb))), (vI 0), (.ref x2213)])) _
    exact st2223 _ k)
  obtain ⟨_, _, ⟨T2226, L2226, k2226, n2226⟩, -, X2226, ⟨Lc2226, hQ2226, l2226, y2226, z2226⟩, st2226⟩ := Jvm.LawKit.callS X2223 hx (y := y_56) ho2213 (mvT hZr2213 (oH hw 172 rfl)) (mvT hZr2213 (oH hw 173 rfl)) (mvT hZr2213 (oH hw 4 rfl)) (mvT hZr2213 (oH hw 174 rfl)) (by decide) (backOf (W := 0) (rm_okk l Z a0 hw [] (u2170 || u2177) x2213 t2213 k2213 N2213_ (own_all na nb c0 c1 d0 d1) 1 (((Int32.ofNat na) + (2 : Int32)) + (Int32.ofNat nb)) (Int32.ofNat na) c0 c1 d0 d1 G1 G2 T2213.heap n0 Z2216 Es2213 Fv2213 Fc2213 A2213 hN2213 h6 (fun q => own_allX hna hnb (by decide) c0 c1 d0 d1 q) hB9 hL9 hc0 hc1 hd0 hd1 Sg P5 Sf hG2 Sa Sh Sl O2218) hZr2213 (oH hw 174 rfl) (oH hw 4 rfl) (by decide) (by decide)) (g := (mkF m 141 #[sI p0, sI p1, sI p2, sI c0, sI c1, sI d0, sI d1, .val (.int (Int32.ofNat na)), .val (.int (Int32.ofNat nb)), sR s2170, sR s2177, sR x2213, .val (.int (((Int32.ofNat na) + (2 : Int32)) + (Int32.ofNat nb)))] [(.int d1), (.int d0), (.int c1), (.int c0), (.int (Int32.ofNat na)), (.int (((Int32.ofNat na) + (2 : Int32)) + (Int32.ofNat nb))), (vI 1), (.ref x2213)])) rfl (by rw [hml]; rfl) (argsL := [(.ref x2213), (vI 1), (.int (((Int32.ofNat na) + (2 : Int32)) + (Int32.ofNat nb))), (.int (Int32.ofNat na)), (.int c0), (.int c1), (.int d0), (.int d1)]) (rest := []) (lenOf pd43 rfl) rfl (oW rfl) (hb hby at_141) (fun _ _ => ⟨rfl, e2223, (oB rfl : 20 + 0 ≤ _), (oB rfl : 106 + 0 ≤ _)⟩)
  dsimp only [Pt.U, Pt.locs, Pt.cells, Pt.slots] at X2226 l2226 y2226 z2226 st2226 hQ2226
  subst l2226 y2226 z2226
  obtain ⟨rfl, Nq2226, e2226⟩ := hQ2226
  have N2227 := Fr.app N2224 Nq2226
  have P2228 : Rg p e below (T2226.setTop (mkF m 144 #[sI p0, sI p1, sI p2, sI c0, sI c1, sI d0, sI d1, .val (.int (Int32.ofNat na)), .val (.int (Int32.ofNat nb)), sR s2170, sR s2177, sR x2213, .val (.int (((Int32.ofNat na) + (2 : Int32)) + (Int32.ofNat nb)))] [(vI 1)])) B0 := fun t k => P2225 t (by
    refine XS.ifNo X2223.here hx rfl (hb hby at_124) rfl ((if0 _ _).trans (feq (show ¬ ((1 : Int32) = (0 : Int32)) from (by decide))).1) ?_
    refine XS.aload X2223.here hx rfl (hb hby at_127) rfl rfl ?_
    refine XS.iconst X2223.here hx rfl (hb hby at_129) ?_
    refine XS.iload X2223.here hx rfl (hb hby at_130) rfl ?_
    refine XS.iload X2223.here hx rfl (hb hby at_132) rfl ?_
    refine XS.iloadN X2223.here hx rfl (hb hby at_134) rfl ?_
    refine XS.iload X2223.here hx rfl (hb hby at_135) rfl ?_
    refine XS.iload X2223.here hx rfl (hb hby at_137) rfl ?_
    refine XS.iload X2223.here hx rfl (hb hby at_139) rfl ?_
    show Sq p e below (T2223.setTop (mkF m 141 #[sI p0, sI p1, sI p2, sI c0, sI c1, sI d0, sI d1, .val (.int (Int32.ofNat na)), .val (.int (Int32.ofNat nb)), sR s2170, sR s2177, sR x2213, .val (.int (((Int32.ofNat na) + (2 : Int32)) + (Int32.ofNat nb)))] [(.int d1), (.int d0), (.int c1), (.int c0), (.int (Int32.ofNat na)), (.int (((Int32.ofNat na) + (2 : Int32)) + (Int32.ofNat nb))), (vI 1), (.ref x2213)])) _
    exact st2226 _ k)
  obtain ⟨_, _, ⟨T2229, L2229, k2229, n2229⟩, -, X2229, ⟨Lc2229, hQ2229, l2229, y2229, z2229⟩, st2229⟩ := Jvm.LawKit.callS X2226 hx (y := y_56) ho2213 (mvT hZr2213 (oH hw 172 rfl)) (mvT hZr2213 (oH hw 173 rfl)) (mvT hZr2213 (oH hw 4 rfl)) (mvT hZr2213 (oH hw 174 rfl)) (by decide) (backOf (W := 0) (rm_okk l Z a0 hw [] (u2170 || u2177) x2213 t2213 k2213 N2213_ (own_all na nb c0 c1 d0 d1) 2 (((Int32.ofNat na) + (2 : Int32)) + (Int32.ofNat nb)) (Int32.ofNat na) c0 c1 d0 d1 G1 G2 T2213.heap n0 Z2216 Es2213 Fv2213 Fc2213 A2213 hN2213 h6 (fun q => own_allX hna hnb (by decide) c0 c1 d0 d1 q) hB9 hL9 hc0 hc1 hd0 hd1 Sg P5 Sf hG2 Sa Sh Sl O2218) hZr2213 (oH hw 174 rfl) (oH hw 4 rfl) (by decide) (by decide)) (g := (mkF m 161 #[sI p0, sI p1, sI p2, sI c0, sI c1, sI d0, sI d1, .val (.int (Int32.ofNat na)), .val (.int (Int32.ofNat nb)), sR s2170, sR s2177, sR x2213, .val (.int (((Int32.ofNat na) + (2 : Int32)) + (Int32.ofNat nb)))] [(.int d1), (.int d0), (.int c1), (.int c0), (.int (Int32.ofNat na)), (.int (((Int32.ofNat na) + (2 : Int32)) + (Int32.ofNat nb))), (vI 2), (.ref x2213)])) rfl (by rw [hml]; rfl) (argsL := [(.ref x2213), (vI 2), (.int (((Int32.ofNat na) + (2 : Int32)) + (Int32.ofNat nb))), (.int (Int32.ofNat na)), (.int c0), (.int c1), (.int d0), (.int d1)]) (rest := []) (lenOf pd43 rfl) rfl (oW rfl) (hb hby at_161) (fun _ _ => ⟨rfl, e2226, (oB rfl : 20 + 0 ≤ _), (oB rfl : 106 + 0 ≤ _)⟩)
  dsimp only [Pt.U, Pt.locs, Pt.cells, Pt.slots] at X2229 l2229 y2229 z2229 st2229 hQ2229
  subst l2229 y2229 z2229
  obtain ⟨rfl, Nq2229, e2229⟩ := hQ2229
  have N2230 := Fr.app N2227 Nq2229
  have P2231 : Rg p e below (T2229.setTop (mkF m 164 #[sI p0, sI p1, sI p2, sI c0, sI c1, sI d0, sI d1, .val (.int (Int32.ofNat na)), .val (.int (Int32.ofNat nb)), sR s2170, sR s2177, sR x2213, .val (.int (((Int32.ofNat na) + (2 : Int32)) + (Int32.ofNat nb)))] [(vI 1)])) B0 := fun t k => P2228 t (by
    refine XS.ifNo X2226.here hx rfl (hb hby at_144) rfl ((if0 _ _).trans (feq (show ¬ ((1 : Int32) = (0 : Int32)) from (by decide))).1) ?_
    refine XS.aload X2226.here hx rfl (hb hby at_147) rfl rfl ?_
    refine XS.iconst X2226.here hx rfl (hb hby at_149) ?_
    refine XS.iload X2226.here hx rfl (hb hby at_150) rfl ?_
    refine XS.iload X2226.here hx rfl (hb hby at_152) rfl ?_
    refine XS.iloadN X2226.here hx rfl (hb hby at_154) rfl ?_
    refine XS.iload X2226.here hx rfl (hb hby at_155) rfl ?_
    refine XS.iload X2226.here hx rfl (hb hby at_157) rfl ?_
    refine XS.iload X2226.here hx rfl (hb hby at_159) rfl ?_
    show Sq p e below (T2226.setTop (mkF m 161 #[sI p0, sI p1, sI p2, sI c0, sI c1, sI d0, sI d1, .val (.int (Int32.ofNat na)), .val (.int (Int32.ofNat nb)), sR s2170, sR s2177, sR x2213, .val (.int (((Int32.ofNat na) + (2 : Int32)) + (Int32.ofNat nb)))] [(.int d1), (.int d0), (.int c1), (.int c0), (.int (Int32.ofNat na)), (.int (((Int32.ofNat na) + (2 : Int32)) + (Int32.ofNat nb))), (vI 2), (.ref x2213)])) _
    exact st2229 _ k)
  obtain ⟨_, _, ⟨T2232, L2232, k2232, n2232⟩, -, X2232, ⟨Lc2232, hQ2232, l2232, y2232, z2232⟩, st2232⟩ := Jvm.LawKit.callS X2229 hx (y := y_56) ho2213 (mvT hZr2213 (oH hw 172 rfl)) (mvT hZr2213 (oH hw 173 rfl)) (mvT hZr2213 (oH hw 4 rfl)) (mvT hZr2213 (oH hw 174 rfl)) (by decide) (backOf (W := 0) (rm_okk l Z a0 hw [] (u2170 || u2177) x2213 t2213 k2213 N2213_ (own_all na nb c0 c1 d0 d1) 3 (((Int32.ofNat na) + (2 : Int32)) + (Int32.ofNat nb)) (Int32.ofNat na) c0 c1 d0 d1 G1 G2 T2213.heap n0 Z2216 Es2213 Fv2213 Fc2213 A2213 hN2213 h6 (fun q => own_allX hna hnb (by decide) c0 c1 d0 d1 q) hB9 hL9 hc0 hc1 hd0 hd1 Sg P5 Sf hG2 Sa Sh Sl O2218) hZr2213 (oH hw 174 rfl) (oH hw 4 rfl) (by decide) (by decide)) (g := (mkF m 181 #[sI p0, sI p1, sI p2, sI c0, sI c1, sI d0, sI d1, .val (.int (Int32.ofNat na)), .val (.int (Int32.ofNat nb)), sR s2170, sR s2177, sR x2213, .val (.int (((Int32.ofNat na) + (2 : Int32)) + (Int32.ofNat nb)))] [(.int d1), (.int d0), (.int c1), (.int c0), (.int (Int32.ofNat na)), (.int (((Int32.ofNat na) + (2 : Int32)) + (Int32.ofNat nb))), (vI 3), (.ref x2213)])) rfl (by rw [hml]; rfl) (argsL := [(.ref x2213), (vI 3), (.int (((Int32.ofNat na) + (2 : Int32)) + (Int32.ofNat nb))), (.int (Int32.ofNat na)), (.int c0), (.int c1), (.int d0), (.int d1)]) (rest := []) (lenOf pd43 rfl) rfl (oW rfl) (hb hby at_181) (fun _ _ => ⟨rfl, e2229, (oB rfl : 20 + 0 ≤ _), (oB rfl : 106 + 0 ≤ _)⟩)
  dsimp only [Pt.U, Pt.locs, Pt.cells, Pt.slots] at X2232 l2232 y2232 z2232 st2232 hQ2232
  subst l2232 y2232 z2232
  obtain ⟨rfl, Nq2232, e2232⟩ := hQ2232
  have N2233 := Fr.app N2230 Nq2232
  have P2234 : Rg p e below (T2232.setTop (mkF m 184 #[sI p0, sI p1, sI p2, sI c0, sI c1, sI d0, sI d1, .val (.int (Int32.ofNat na)), .val (.int (Int32.ofNat nb)), sR s2170, sR s2177, sR x2213, .val (.int (((Int32.ofNat na) + (2 : Int32)) + (Int32.ofNat nb)))] [(vI 1)])) B0 := fun t k => P2231 t (by
    refine XS.ifNo X2229.here hx rfl (hb hby at_164) rfl ((if0 _ _).trans (feq (show ¬ ((1 : Int32) = (0 : Int32)) from (by decide))).1) ?_
    refine XS.aload X2229.here hx rfl (hb hby at_167) rfl rfl ?_
    refine XS.iconst X2229.here hx rfl (hb hby at_169) ?_
    refine XS.iload X2229.here hx rfl (hb hby at_170) rfl ?_
    refine XS.iload X2229.here hx rfl (hb hby at_172) rfl ?_
    refine XS.iloadN X2229.here hx rfl (hb hby at_174) rfl ?_
    refine XS.iload X2229.here hx rfl (hb hby at_175) rfl ?_
    refine XS.iload X2229.here hx rfl (hb hby at_177) rfl ?_
    refine XS.iload X2229.here hx rfl (hb hby at_179) rfl ?_
    show Sq p e below (T2229.setTop (mkF m 181 #[sI p0, sI p1, sI p2, sI c0, sI c1, sI d0, sI d1, .val (.int (Int32.ofNat na)), .val (.int (Int32.ofNat nb)), sR s2170, sR s2177, sR x2213, .val (.int (((Int32.ofNat na) + (2 : Int32)) + (Int32.ofNat nb)))] [(.int d1), (.int d0), (.int c1), (.int c0), (.int (Int32.ofNat na)), (.int (((Int32.ofNat na) + (2 : Int32)) + (Int32.ofNat nb))), (vI 3), (.ref x2213)])) _
    exact st2232 _ k)
  obtain ⟨_, _, ⟨T2235, L2235, k2235, n2235⟩, -, X2235, ⟨Lc2235, hQ2235, l2235, y2235, z2235⟩, st2235⟩ := Jvm.LawKit.callS X2232 hx (y := y_56) ho2213 (mvT hZr2213 (oH hw 172 rfl)) (mvT hZr2213 (oH hw 173 rfl)) (mvT hZr2213 (oH hw 4 rfl)) (mvT hZr2213 (oH hw 174 rfl)) (by decide) (backOf (W := 0) (rm_okk l Z a0 hw [] (u2170 || u2177) x2213 t2213 k2213 N2213_ (own_all na nb c0 c1 d0 d1) 4 (((Int32.ofNat na) + (2 : Int32)) + (Int32.ofNat nb)) (Int32.ofNat na) c0 c1 d0 d1 G1 G2 T2213.heap n0 Z2216 Es2213 Fv2213 Fc2213 A2213 hN2213 h6 (fun q => own_allX hna hnb (by decide) c0 c1 d0 d1 q) hB9 hL9 hc0 hc1 hd0 hd1 Sg P5 Sf hG2 Sa Sh Sl O2218) hZr2213 (oH hw 174 rfl) (oH hw 4 rfl) (by decide) (by decide)) (g := (mkF m 201 #[sI p0, sI p1, sI p2, sI c0, sI c1, sI d0, sI d1, .val (.int (Int32.ofNat na)), .val (.int (Int32.ofNat nb)), sR s2170, sR s2177, sR x2213, .val (.int (((Int32.ofNat na) + (2 : Int32)) + (Int32.ofNat nb)))] [(.int d1), (.int d0), (.int c1), (.int c0), (.int (Int32.ofNat na)), (.int (((Int32.ofNat na) + (2 : Int32)) + (Int32.ofNat nb))), (vI 4), (.ref x2213)])) rfl (by rw [hml]; rfl) (argsL := [(.ref x2213), (vI 4), (.int (((Int32.ofNat na) + (2 : Int32)) + (Int32.ofNat nb))), (.int (Int32.ofNat na)), (.int c0), (.int c1), (.int d0), (.int d1)]) (rest := []) (lenOf pd43 rfl) rfl (oW rfl) (hb hby at_201) (fun _ _ => ⟨rfl, e2232, (oB rfl : 20 + 0 ≤ _), (oB rfl : 106 + 0 ≤ _)⟩)
  dsimp only [Pt.U, Pt.locs, Pt.cells, Pt.slots] at X2235 l2235 y2235 z2235 st2235 hQ2235
  subst l2235 y2235 z2235
  obtain ⟨rfl, Nq2235, e2235⟩ := hQ2235
  have N2236 := Fr.app N2233 Nq2235
  have P2237 : Rg p e below (T2235.setTop (mkF m 204 #[sI p0, sI p1, sI p2, sI c0, sI c1, sI d0, sI d1, .val (.int (Int32.ofNat na)), .val (.int (Int32.ofNat nb)), sR s2170, sR s2177, sR x2213, .val (.int (((Int32.ofNat na) + (2 : Int32)) + (Int32.ofNat nb)))] [(vI 1)])) B0 := fun t k => P2234 t (by
    refine XS.ifNo X2232.here hx rfl (hb hby at_184) rfl ((if0 _ _).trans (feq (show ¬ ((1 : Int32) = (0 : Int32)) from (by decide))).1) ?_
    refine XS.aload X2232.here hx rfl (hb hby at_187) rfl rfl ?_
    refine XS.iconst X2232.here hx rfl (hb hby at_189) ?_
    refine XS.iload X2232.here hx rfl (hb hby at_190) rfl ?_
    refine XS.iload X2232.here hx rfl (hb hby at_192) rfl ?_
    refine XS.iloadN X2232.here hx rfl (hb hby at_194) rfl ?_
    refine XS.iload X2232.here hx rfl (hb hby at_195) rfl ?_
    refine XS.iload X2232.here hx rfl (hb hby at_197) rfl ?_
    refine XS.iload X2232.here hx rfl (hb hby at_199) rfl ?_
    show Sq p e below (T2232.setTop (mkF m 201 #[sI p0, sI p1, sI p2, sI c0, sI c1, sI d0, sI d1, .val (.int (Int32.ofNat na)), .val (.int (Int32.ofNat nb)), sR s2170, sR s2177, sR x2213, .val (.int (((Int32.ofNat na) + (2 : Int32)) + (Int32.ofNat nb)))] [(.int d1), (.int d0), (.int c1), (.int c0), (.int (Int32.ofNat na)), (.int (((Int32.ofNat na) + (2 : Int32)) + (Int32.ofNat nb))), (vI 4), (.ref x2213)])) _
    exact st2235 _ k)
  obtain ⟨_, _, ⟨T2238, L2238, k2238, n2238⟩, -, X2238, ⟨Lc2238, hQ2238, l2238, y2238, z2238⟩, st2238⟩ := Jvm.LawKit.callS X2235 hx (y := y_56) ho2213 (mvT hZr2213 (oH hw 172 rfl)) (mvT hZr2213 (oH hw 173 rfl)) (mvT hZr2213 (oH hw 4 rfl)) (mvT hZr2213 (oH hw 174 rfl)) (by decide) (backOf (W := 0) (rm_okk l Z a0 hw [] (u2170 || u2177) x2213 t2213 k2213 N2213_ (own_all na nb c0 c1 d0 d1) 5 (((Int32.ofNat na) + (2 : Int32)) + (Int32.ofNat nb)) (Int32.ofNat na) c0 c1 d0 d1 G1 G2 T2213.heap n0 Z2216 Es2213 Fv2213 Fc2213 A2213 hN2213 h6 (fun q => own_allX hna hnb (by decide) c0 c1 d0 d1 q) hB9 hL9 hc0 hc1 hd0 hd1 Sg P5 Sf hG2 Sa Sh Sl O2218) hZr2213 (oH hw 174 rfl) (oH hw 4 rfl) (by decide) (by decide)) (g := (mkF m 221 #[sI p0, sI p1, sI p2, sI c0, sI c1, sI d0, sI d1, .val (.int (Int32.ofNat na)), .val (.int (Int32.ofNat nb)), sR s2170, sR s2177, sR x2213, .val (.int (((Int32.ofNat na) + (2 : Int32)) + (Int32.ofNat nb)))] [(.int d1), (.int d0), (.int c1), (.int c0), (.int (Int32.ofNat na)), (.int (((Int32.ofNat na) + (2 : Int32)) + (Int32.ofNat nb))), (vI 5), (.ref x2213)])) rfl (by rw [hml]; rfl) (argsL := [(.ref x2213), (vI 5), (.int (((Int32.ofNat na) + (2 : Int32)) + (Int32.ofNat nb))), (.int (Int32.ofNat na)), (.int c0), (.int c1), (.int d0), (.int d1)]) (rest := []) (lenOf pd43 rfl) rfl (oW rfl) (hb hby at_221) (fun _ _ => ⟨rfl, e2235, (oB rfl : 20 + 0 ≤ _), (oB rfl : 106 + 0 ≤ _)⟩)
  dsimp only [Pt.U, Pt.locs, Pt.cells, Pt.slots] at X2238 l2238 y2238 z2238 st2238 hQ2238
  subst l2238 y2238 z2238
  obtain ⟨rfl, Nq2238, e2238⟩ := hQ2238
  have N2239 := Fr.app N2236 Nq2238
  have P2240 : Rg p e below (T2238.setTop (mkF m 224 #[sI p0, sI p1, sI p2, sI c0, sI c1, sI d0, sI d1, .val (.int (Int32.ofNat na)), .val (.int (Int32.ofNat nb)), sR s2170, sR s2177, sR x2213, .val (.int (((Int32.ofNat na) + (2 : Int32)) + (Int32.ofNat nb)))] [(vI 1)])) B0 := fun t k => P2237 t (by
    refine XS.ifNo X2235.here hx rfl (hb hby at_204) rfl ((if0 _ _).trans (feq (show ¬ ((1 : Int32) = (0 : Int32)) from (by decide))).1) ?_
    refine XS.aload X2235.here hx rfl (hb hby at_207) rfl rfl ?_
    refine XS.iconst X2235.here hx rfl (hb hby at_209) ?_
    refine XS.iload X2235.here hx rfl (hb hby at_210) rfl ?_
    refine XS.iload X2235.here hx rfl (hb hby at_212) rfl ?_
    refine XS.iloadN X2235.here hx rfl (hb hby at_214) rfl ?_
    refine XS.iload X2235.here hx rfl (hb hby at_215) rfl ?_
    refine XS.iload X2235.here hx rfl (hb hby at_217) rfl ?_
    refine XS.iload X2235.here hx rfl (hb hby at_219) rfl ?_
    show Sq p e below (T2235.setTop (mkF m 221 #[sI p0, sI p1, sI p2, sI c0, sI c1, sI d0, sI d1, .val (.int (Int32.ofNat na)), .val (.int (Int32.ofNat nb)), sR s2170, sR s2177, sR x2213, .val (.int (((Int32.ofNat na) + (2 : Int32)) + (Int32.ofNat nb)))] [(.int d1), (.int d0), (.int c1), (.int c0), (.int (Int32.ofNat na)), (.int (((Int32.ofNat na) + (2 : Int32)) + (Int32.ofNat nb))), (vI 5), (.ref x2213)])) _
    exact st2238 _ k)
  obtain ⟨fs2241, hr2241, hrun2241, hended2241, hRW2241⟩ := X2238.leaveW (v := some (vI 1)) hSr2213 (by rw [e2238]; exact (Nat.le_refl _)) (fun h => by rw [Bd.returns] at h; cases h)
  have hce2241 : CHr Z own_EL s.vm s.heap T2238.vm T2238.heap := by
    rw [hh, e2238]
    exact R2219.trans (CHv.at X2238 hZr2213 (own_EW hw) cr2213.1)
  refine ⟨_, _, pre0 _ (P2240 _ ?_), hrun2241, hended2241, _, _, rfl, ?_, hce2241, ⟨hRW2241.1, hRW2241.2.1, hRW2241.2.2.1, hRW2241.2.2.2.mono (oB rfl) (oB rfl)⟩⟩
  · show Sq p e below (T2238.setTop (mkF m 224 #[sI p0, sI p1, sI p2, sI c0, sI c1, sI d0, sI d1, .val (.int (Int32.ofNat na)), .val (.int (Int32.ofNat nb)), sR s2170, sR s2177, sR x2213, .val (.int (((Int32.ofNat na) + (2 : Int32)) + (Int32.ofNat nb)))] [(vI 1)])) _
    refine XS.ifNo X2238.here hx rfl (hb hby at_224) rfl ((if0 _ _).trans (feq (show ¬ ((1 : Int32) = (0 : Int32)) from (by decide))).1) ?_
    refine XS.iconst X2238.here hx rfl (hb hby at_227) ?_
    refine XS.goto X2238.here hx rfl (pc0 := 228) (pc' := 232) rfl (hb hby at_228) (by decide) (by decide) ?_
    exact retN X2238 hx (t := .boolean) Bd.returns (by simp) (hb hby at_232) hr2241
  · show Q_law  h0 n0 _ T2238.heap _
    rw [e2238]
    exact ⟨rfl, N2239⟩
set_option maxRecDepth 65536 in
set_option maxHeartbeats 40000000 in
theorem comes_1 {Post : Tables → Env → Array Value → State → Outcome → State → Prop} (hpost : ∀ tb e args s v u, (limb_1_1.after args s (.returned v) u = true ∧ limb_1_2.after args s (.returned v) u = true ∧ True) → ReturnedEndW s (.returned v) u (Jvm.fieldLocs frame_1_writes args s ++ Jvm.arrayLocs frame_1_arrays args s ++ Jvm.staticLocs frame_1_statics s) 40 2368 → Post tb e args s (.returned v) u) :
    ArmFor flags0 classFile x code maxLocals ret World_1 tables_1 room_1 Calls_1 rest_1 Pre_1 Post := by
  intro l hfl _ _ p e ha hc hk s m args below hf hA hF happ hP
  obtain ⟨hcalls, hrest, hpre⟩ := hP
  obtain ⟨-, -, -, hnamed, -, -, -, hat⟩ := (Spec.applies_iff hf).mp happ
  obtain ⟨hg, hn⟩ := and_e (Cond.before_iff.mp (show (Jvm.Cond.and given_1 narrow_1).before args s = true from hpre))
  obtain ⟨hcnt, hg0⟩ := and_e hg
  obtain ⟨ga0, hg1⟩ := and_e hg0
  obtain ⟨ga1, hg2⟩ := and_e hg1
  obtain ⟨w0, w1, w2, rfl⟩ : ∃ w0 w1 w2 : Value, args = #[w0, w1, w2] := by
    have hs : args.size = 3 := by simpa [Cond.value, given_1] using hcnt
    obtain ⟨L⟩ := args
    match L, hs with
    | [w0, w1, w2], _ => exact ⟨w0, w1, w2, rfl⟩
  have hw := fun d (hd : d ∈ tables_1) => atoms_spec (ws := Jvm.Cond.code x code maxLocals ret :: tables_1) hat d (List.mem_cons_of_mem _ hd)
  have hfit : Fit s := fun {y c} hc i hi => by
    obtain ⟨ha, rfl⟩ := Array.getElem?_eq_some_iff.mp hc
    have q := List.all_eq_true.mp ((Array.all_eq_true_iff_forall_mem.mp hF) _ (Array.getElem_mem ha)) i (List.mem_range.mpr hi)
    simpa [Array.getElem?_eq_getElem hi] using q
  obtain ⟨i0, ei0⟩ := is_v ga0
  obtain rfl : w0 = (.int i0) := Option.some.inj ei0
  obtain ⟨i1, ei1⟩ := is_v ga1
  obtain rfl : w1 = (.int i1) := Option.some.inj ei1
  obtain ⟨i2, ei2⟩ := is_v hg2
  obtain rfl : w2 = (.int i2) := Option.some.inj ei2
  obtain ⟨hsets, hown0⟩ := atoms_of _ (rest_1_c_eq ▸ (show rest_1_c.before _ s = true from hrest))
  obtain ⟨G1, eG1⟩ := is_v (Cond.before_iff.mp (hsets _ (List.mem_of_getElem? (i := 1) rfl)))
  have Sg : Sta s s.heap "java/lang/String" "COMPACT_STRINGS" "Z" (.int G1) := Sta.start eG1 (Or.inl (hsets _ (List.mem_of_getElem? (i := 0) rfl)))
  have P5 : ¬ (G1 = (0 : Int32)) := gotF (Cond.eq_ints eG1 (Term.int_eval (0))) (not_v (Cond.before_iff.mp (hsets _ (List.mem_of_getElem? (i := 2) rfl))))
  obtain ⟨G2, eG2, hG2⟩ := isR_v (Cond.before_iff.mp (hsets _ (List.mem_of_getElem? (i := 8) rfl)))
  have Sf : oSf s G2 := Sta.start eG2 (Or.inl (hsets _ (List.mem_of_getElem? (i := 7) rfl)))
  have Sa : oSa s := Sta.start (eqv_i (Term.int_eval (1)) (Cond.before_iff.mp (hsets _ (List.mem_of_getElem? (i := 12) rfl)))) (Or.inl (hsets _ (List.mem_of_getElem? (i := 11) rfl)))
  have Sh : oSh s := Sta.start (eqv_i (Term.int_eval (0)) (Cond.before_iff.mp (hsets _ (List.mem_of_getElem? (i := 15) rfl)))) (Or.inl (hsets _ (List.mem_of_getElem? (i := 14) rfl)))
  have Sl : oSl s := Sta.start (eqv_i (Term.int_eval (8)) (Cond.before_iff.mp (hsets _ (List.mem_of_getElem? (i := 18) rfl)))) (Or.inl (hsets _ (List.mem_of_getElem? (i := 17) rfl)))
  have hCH : CHv s own_EL s.vm s.heap := CHv.start (own_EW hw) (fun p hp => hcalls.1 p hp) (hsets _ (List.mem_of_getElem? (i := 2) rfl)) (hw _ (List.mem_of_getElem? (i := 25) rfl)) (hw _ (List.mem_of_getElem? (i := 7) rfl))
  obtain ⟨n, o, h1, h2, h3, _, L, rfl, ⟨rfl, N⟩, hcr, hq⟩ := rm_law l s _ hw tables_1 i0 i1 i2 G1 G2  s.heap s.heap.size (Nat.le_refl _) Sg P5 Sf hG2 Sa Sh Sl (Old.start s)  p e ha hc hk s m _ below hf ((Spec.applies_iff_loose hf).mp happ).1 ⟨rfl, State.Warmed39.refl s, rfl, hCH⟩ trivial
  refine ⟨n, _, h1, h2, h3, hpost _ _ _ _ _ _ ⟨Cond.after_iff.mpr rfl, Cond.after_iff.mpr (eq_i res_at (Term.int_eval (1)) rfl), trivial⟩ ⟨hq.1, hq.2.1, hq.2.2.1, (hq.2.2.2.sift fun y hy => Or.inr (N y hy)).mono (Nat.le_of_ble_eq_true rfl) (Nat.le_of_ble_eq_true rfl)⟩⟩
theorem main_1_1 : Claimed_1_1 := comes_1 fun _ _ _ _ _ _ h hF => ⟨h.1, hF⟩
theorem main_1_2 : Claimed_1_2 := comes_1 fun _ _ _ _ _ _ h hF => ⟨h.2.1, hF⟩
end Jvm.Pilot.@@N@@
namespace Jvm.Pilot.@@N@@
open Jvm Jvm.ClassFile Sem Op Lib Jvm.Free Jvm.Stand Jvm.Pilot.@@N@@.Jvm.D
/-! MADE BY PROGRAM (witnessworld.py) out of the Statement's table words and the real class files: 27 classes; the members and pool entries that the words name. The judged class is class 1, her method 1. -/
namespace start1
open Jvm.ClassFile
def u (s : String) : CpInfo := .utf8 (stringToUtf16 s)
/-- a pool by its gaps: so many unusable entries, then the entry; so many at the end -/
def gap : Nat → List CpInfo → List CpInfo
  | 0, r => r
  | n + 1, r => .unusable :: gap n r
def poolList (es : List (Nat × CpInfo)) (last : Nat) : List CpInfo := es.foldr (fun e r => gap e.1 (e.2 :: r)) (gap last [])
def pool (es : List (Nat × CpInfo)) (last : Nat) : Array CpInfo := ⟨poolList es last⟩
def fileOf (pool : Array CpInfo) (this : Nat) (attrs : Array Attribute := #[]) (ms : Array MethodInfo := #[]) (fl : Nat := 33) (sup : Nat := 0) (ifs : Array Nat := #[]) (fds : Array FieldInfo := #[]) : ClassFile where
  minorVersion := 0
  majorVersion := 65
  constantPool := pool
  accessFlags := fl
  thisClass := this
  superClass := sup
  interfaces := ifs
  fields := fds
  methods := ms
  attributes := attrs
def plain (name : String) (sup : Option ClassId) : Class where
  name := name
  kind := .ordinary
  loader := none
  accessFlags := 33
  super := sup
  interfaces := #[]
  cf := none
  fields := #[]
  methods := #[]
  instanceTypes := #[]
  staticTypes := #[]
  resolved := #[]
  callSites := []
  init := .initialized
  statics := none
  mirror := none

def pool0 : Array CpInfo := pool [(5, u "<init>"), (0, u "()V"), (1, .class_ 10), (1, u "java/lang/Object")] 113

def k0c0 : Code := { maxStack := 0, maxLocals := 1, code := object_method_1_code, exceptionTable := #[], attributes := #[] }
def k0m0 : Method := { name := "<init>", desc := "()V", sig := { parameters := [], returnType := none }, accessFlags := 1, code := some k0c0 }
/-- java/lang/Object -/
def k0 : Class := { plain "java/lang/Object" none with
  accessFlags := 33
  interfaces := #[]
  cf := some (fileOf pool0 8 #[] #[{ accessFlags := 1, nameIndex := 5, descriptorIndex := 6, attributes := #[] }] 33 0 #[] #[])
  fields := #[]
  methods := #[k0m0]
  instanceTypes := #[]
  staticTypes := #[]
  resolved := Array.replicate 124 none
  statics := none }

def pool1 : Array CpInfo := pool [(2, .class_ 4), (1, u "java/lang/Object"), (0, u "<init>"), (0, u "()V"), (0, .integer 65535), (0, .integer 2147483647), (0, .methodref 10 11), (0, .class_ 12), (0, .nameAndType 13 14), (0, u "com/example/tallyline/tallyline/core/FieldErrorToStringPinLaw"), (0, u "make"), (0, u "(ICC)Ljava/lang/String;"), (0, .class_ 16), (0, u "com/example/tallyline/tallyline/core/FieldError"), (0, .methodref 15 18), (0, .nameAndType 5 19), (0, u "(Ljava/lang/String;Ljava/lang/String;)V"), (0, .methodref 15 21), (0, .nameAndType 22 23), (0, u "toString"), (0, u "()Ljava/lang/String;"), (0, .methodref 25 26), (0, .class_ 27), (0, .nameAndType 28 29), (0, u "java/lang/String"), (0, u "length"), (0, u "()I"), (0, .methodref 10 31), (0, .nameAndType 32 33), (0, u "ok"), (0, u "(Ljava/lang/String;IIICCCC)Z"), (0, .methodref 25 35), (0, .nameAndType 5 36), (0, u "([C)V"), (0, .methodref 25 38), (0, .nameAndType 39 40), (0, u "valueOf"), (0, u "(C)Ljava/lang/String;"), (0, .methodref 25 42), (0, .nameAndType 43 44), (0, u "charAt"), (0, u "(I)C"), (0, .methodref 10 46), (0, .nameAndType 47 48), (0, u "expect"), (0, u "(IICCCC)C"), (2, u "law"), (0, u "(III)Z")] 3

def k1m0 : Method := { name := "<init>", desc := "()V", sig := { parameters := [], returnType := none }, accessFlags := 1, code := none }
def k1c1 : Code := { maxStack := 8, maxLocals := 13, code := code, exceptionTable := #[], attributes := #[] }
def k1m1 : Method := { name := "law", desc := "(III)Z", sig := { parameters := [.int, .int, .int], returnType := some .boolean }, accessFlags := 9, code := some k1c1 }
def k1c2 : Code := { maxStack := 6, maxLocals := 3, code := method_3_code, exceptionTable := #[], attributes := #[] }
def k1m2 : Method := { name := "make", desc := "(ICC)Ljava/lang/String;", sig := { parameters := [.int, .char, .char], returnType := some (.object "java/lang/String") }, accessFlags := 10, code := some k1c2 }
def k1c3 : Code := { maxStack := 3, maxLocals := 7, code := method_4_code, exceptionTable := #[], attributes := #[] }
def k1m3 : Method := { name := "expect", desc := "(IICCCC)C", sig := { parameters := [.int, .int, .char, .char, .char, .char], returnType := some .char }, accessFlags := 10, code := some k1c3 }
def k1c4 : Code := { maxStack := 7, maxLocals := 8, code := method_5_code, exceptionTable := #[], attributes := #[] }
def k1m4 : Method := { name := "ok", desc := "(Ljava/lang/String;IIICCCC)Z", sig := { parameters := [(.object "java/lang/String"), .int, .int, .int, .char, .char, .char, .char], returnType := some .boolean }, accessFlags := 10, code := some k1c4 }
/-- com/example/tallyline/tallyline/core/FieldErrorToStringPinLaw -/
def k1 : Class := { plain "com/example/tallyline/tallyline/core/FieldErrorToStringPinLaw" (some 0) with
  accessFlags := 49
  interfaces := #[]
  cf := some (fileOf pool1 10 #[] #[{ accessFlags := 1, nameIndex := 5, descriptorIndex := 6, attributes := #[] }, { accessFlags := 9, nameIndex := 51, descriptorIndex := 52, attributes := #[] }, { accessFlags := 10, nameIndex := 13, descriptorIndex := 14, attributes := #[] }, { accessFlags := 10, nameIndex := 47, descriptorIndex := 48, attributes := #[] }, { accessFlags := 10, nameIndex := 32, descriptorIndex := 33, attributes := #[] }] 49 2 #[] #[])
  fields := #[]
  methods := #[k1m0, k1m1, k1m2, k1m3, k1m4]
  instanceTypes := #[]
  staticTypes := #[]
  resolved := Array.replicate 56 none
  statics := none }

def pool2 : Array CpInfo := pool [(1, .class_ 2), (0, u "java/io/Serializable"), (0, .class_ 4), (0, u "java/lang/Object")] 2

/-- java/io/Serializable -/
def k2 : Class := { plain "java/io/Serializable" (some 0) with
  accessFlags := 1537
  interfaces := #[]
  cf := some (fileOf pool2 1 #[] #[] 1537 3 #[] #[])
  fields := #[]
  methods := #[]
  instanceTypes := #[]
  staticTypes := #[]
  resolved := Array.replicate 7 none
  statics := none }

def pool3 : Array CpInfo := pool [(1, .class_ 2), (0, u "java/lang/Comparable"), (0, .class_ 4), (0, u "java/lang/Object")] 7

/-- java/lang/Comparable -/
def k3 : Class := { plain "java/lang/Comparable" (some 0) with
  accessFlags := 1537
  interfaces := #[]
  cf := some (fileOf pool3 1 #[] #[] 1537 3 #[] #[])
  fields := #[]
  methods := #[]
  instanceTypes := #[]
  staticTypes := #[]
  resolved := Array.replicate 12 none
  statics := none }

def pool4 : Array CpInfo := pool [(2, .class_ 4), (1, u "java/lang/CharSequence"), (42, .class_ 48), (0, u "java/lang/CharSequence$1CodePointIterator"), (10, .class_ 60), (0, u "java/lang/CharSequence$1CharIterator"), (5, .class_ 67), (0, u "java/lang/Object")] 63

/-- java/lang/CharSequence -/
def k4 : Class := { plain "java/lang/CharSequence" (some 0) with
  accessFlags := 1537
  interfaces := #[]
  cf := some (fileOf pool4 2 #[.nestMembers #[47, 59]] #[] 1537 66 #[] #[])
  fields := #[]
  methods := #[]
  instanceTypes := #[]
  staticTypes := #[]
  resolved := Array.replicate 131 none
  statics := none }

def pool5 : Array CpInfo := pool [(1, .class_ 2), (0, u "java/lang/constant/Constable"), (0, .class_ 4), (0, u "java/lang/Object")] 6

/-- java/lang/constant/Constable -/
def k5 : Class := { plain "java/lang/constant/Constable" (some 0) with
  accessFlags := 1537
  interfaces := #[]
  cf := some (fileOf pool5 1 #[] #[] 1537 3 #[] #[])
  fields := #[]
  methods := #[]
  instanceTypes := #[]
  staticTypes := #[]
  resolved := Array.replicate 11 none
  statics := none }

def pool6 : Array CpInfo := pool [(1, .class_ 2), (0, u "java/lang/constant/ConstantDesc"), (0, .class_ 4), (0, u "java/lang/Object")] 32

/-- java/lang/constant/ConstantDesc -/
def k6 : Class := { plain "java/lang/constant/ConstantDesc" (some 0) with
  accessFlags := 1537
  interfaces := #[]
  cf := some (fileOf pool6 1 #[] #[] 1537 3 #[] #[])
  fields := #[]
  methods := #[]
  instanceTypes := #[]
  staticTypes := #[]
  resolved := Array.replicate 37 none
  statics := none }

def pool7 : Array CpInfo := pool [(1, .methodref 2 3), (0, .class_ 4), (0, .nameAndType 5 6), (0, u "java/lang/Object"), (0, u "<init>"), (0, u "()V"), (0, .string 8), (0, u ""), (0, .fieldref 10 11), (0, .class_ 12), (0, .nameAndType 13 14), (0, u "java/lang/String"), (0, u "value"), (0, u "[B"), (0, .fieldref 10 16), (0, .nameAndType 17 18), (0, u "coder"), (0, u "B"), (2, u "hash"), (0, u "I"), (2, u "hashIsZero"), (0, u "Z"), (0, .methodref 10 28), (0, .nameAndType 5 29), (0, u "([CIILjava/lang/Void;)V"), (6, u "checkBoundsOffCount"), (0, u "(III)I"), (0, .fieldref 10 39), (0, .nameAndType 40 26), (0, u "COMPACT_STRINGS"), (1, .class_ 44), (1, u "java/lang/StringUTF16"), (0, u "compress"), (1, .methodref 42 48), (0, .nameAndType 49 50), (0, u "coderFromArrayLen"), (0, u "([BI)B"), (2, u "toBytes"), (0, .methodref 55 56), (0, .class_ 57), (0, .nameAndType 58 59), (0, u "java/util/Arrays"), (0, u "copyOfRange"), (0, u "([BII)[B"), (46, .methodref 107 108), (0, .class_ 109), (0, .nameAndType 110 111), (0, u "java/lang/StringLatin1"), (0, u "inflate"), (0, u "([BI[BII)V"), (30, u "()Z"), (34, .methodref 42 178), (0, .nameAndType 45 179), (0, u "([CII)[B"), (13, .class_ 195), (1, u "java/lang/System"), (13, .methodref 10 210), (0, .nameAndType 5 211), (0, u "([BB)V"), (0, .methodref 193 213), (0, .nameAndType 214 215), (0, u "arraycopy"), (0, u "(Ljava/lang/Object;ILjava/lang/Object;II)V"), (118, u "()I"), (0, .methodref 10 336), (0, .nameAndType 17 337), (0, u "()B"), (2, u "()[B"), (22, u "([BI)C"), (5, u "(C)Z"), (21, u "(II)V"), (35, u "(I)C"), (61, .methodref 10 490), (0, .nameAndType 5 491), (0, u "(Ljava/lang/AbstractStringBuilder;Ljava/lang/Void;)V"), (0, .methodref 10 493), (0, .nameAndType 494 142), (0, u "isLatin1"), (0, .methodref 107 496), (0, .nameAndType 497 363), (0, u "charAt"), (0, .methodref 42 496), (2, u "checkIndex"), (4, .nameAndType 507 334), (0, u "length"), (24, u "getBytes"), (16, .methodref 550 506), (0, .class_ 551), (0, u "java/lang/AbstractStringBuilder"), (0, .methodref 550 553), (0, .nameAndType 554 340), (0, u "getValue"), (20, .class_ 576), (0, u "java/lang/CharSequence"), (22, u "CASE_INSENSITIVE_ORDER"), (0, u "Ljava/util/Comparator;"), (181, u "valueOf"), (0, u "(C)Ljava/lang/String;"), (37, u "([BIB)V"), (188, u "([C)V"), (4, .methodref 107 1016), (0, .nameAndType 1017 369), (0, u "canEncode"), (0, .methodref 107 1019), (0, .nameAndType 53 1020), (0, u "(C)[B"), (0, .methodref 42 1019), (25, .methodref 550 493), (0, .fieldref 550 1049), (0, .nameAndType 1050 26), (0, u "maybeLatin1"), (2, .fieldref 1054 1055), (0, .class_ 1056), (0, .nameAndType 1057 1058), (0, u "jdk/internal/util/Preconditions"), (0, u "SIOOBE_FORMATTER"), (0, u "Ljava/util/function/BiFunction;"), (0, .methodref 1054 1060), (0, .nameAndType 501 1061), (0, u "(IILjava/util/function/BiFunction;)I"), (2, u "(IIILjava/util/function/BiFunction;)I"), (0, .methodref 1054 1066), (0, .nameAndType 1067 1064), (0, u "checkFromIndexSize"), (33, u "serialPersistentFields"), (0, u "[Ljava/io/ObjectStreamField;"), (0, .class_ 1104), (0, u "java/lang/String$CaseInsensitiveComparator"), (1, .class_ 1107), (0, u "java/io/Serializable"), (0, .class_ 1109), (0, u "java/lang/Comparable"), (0, .class_ 1111), (0, u "java/lang/constant/Constable"), (0, .class_ 1113), (0, u "java/lang/constant/ConstantDesc"), (2, u "serialVersionUID"), (0, u "J"), (3, u "REPL"), (0, u "C"), (2, u "LATIN1"), (1, u "UTF16"), (105, u "(Ljava/lang/StringBuilder;)V")] 217

def k7m0 : Method := { name := "<init>", desc := "()V", sig := { parameters := [], returnType := none }, accessFlags := 1, code := none }
def k7c1 : Code := { maxStack := 5, maxLocals := 2, code := jdk_42_method_3_code, exceptionTable := #[], attributes := #[] }
def k7m1 : Method := { name := "<init>", desc := "([C)V", sig := { parameters := [(.array .char)], returnType := none }, accessFlags := 1, code := some k7c1 }
def k7c2 : Code := { maxStack := 3, maxLocals := 2, code := jdk_42_method_53_code, exceptionTable := #[], attributes := #[] }
def k7m2 : Method := { name := "<init>", desc := "(Ljava/lang/StringBuilder;)V", sig := { parameters := [(.object "java/lang/StringBuilder")], returnType := none }, accessFlags := 1, code := some k7c2 }
def k7c3 : Code := { maxStack := 2, maxLocals := 1, code := jdk_42_method_54_code, exceptionTable := #[], attributes := #[] }
def k7m3 : Method := { name := "length", desc := "()I", sig := { parameters := [], returnType := some .int }, accessFlags := 1, code := some k7c3 }
def k7c4 : Code := { maxStack := 2, maxLocals := 2, code := jdk_42_method_56_code, exceptionTable := #[], attributes := #[] }
def k7m4 : Method := { name := "charAt", desc := "(I)C", sig := { parameters := [.int], returnType := some .char }, accessFlags := 1, code := some k7c4 }
def k7c5 : Code := { maxStack := 4, maxLocals := 1, code := jdk_42_method_139_code, exceptionTable := #[], attributes := #[] }
def k7m5 : Method := { name := "valueOf", desc := "(C)Ljava/lang/String;", sig := { parameters := [.char], returnType := some (.object "java/lang/String") }, accessFlags := 9, code := some k7c5 }
def k7c6 : Code := { maxStack := 5, maxLocals := 4, code := jdk_42_method_147_code, exceptionTable := #[], attributes := #[] }
def k7m6 : Method := { name := "getBytes", desc := "([BIB)V", sig := { parameters := [(.array .byte), .int, .byte], returnType := none }, accessFlags := 0, code := some k7c6 }
def k7c7 : Code := { maxStack := 4, maxLocals := 6, code := jdk_42_method_149_code, exceptionTable := #[], attributes := #[] }
def k7m7 : Method := { name := "<init>", desc := "([CIILjava/lang/Void;)V", sig := { parameters := [(.array .char), .int, .int, (.object "java/lang/Void")], returnType := none }, accessFlags := 2, code := some k7c7 }
def k7c8 : Code := { maxStack := 5, maxLocals := 5, code := jdk_42_method_150_code, exceptionTable := #[], attributes := #[] }
def k7m8 : Method := { name := "<init>", desc := "(Ljava/lang/AbstractStringBuilder;Ljava/lang/Void;)V", sig := { parameters := [(.object "java/lang/AbstractStringBuilder"), (.object "java/lang/Void")], returnType := none }, accessFlags := 0, code := some k7c8 }
def k7c9 : Code := { maxStack := 2, maxLocals := 3, code := jdk_42_method_151_code, exceptionTable := #[], attributes := #[] }
def k7m9 : Method := { name := "<init>", desc := "([BB)V", sig := { parameters := [(.array .byte), .byte], returnType := none }, accessFlags := 0, code := some k7c9 }
def k7c10 : Code := { maxStack := 1, maxLocals := 1, code := jdk_42_method_152_code, exceptionTable := #[], attributes := #[] }
def k7m10 : Method := { name := "coder", desc := "()B", sig := { parameters := [], returnType := some .byte }, accessFlags := 0, code := some k7c10 }
def k7c11 : Code := { maxStack := 1, maxLocals := 1, code := jdk_42_method_154_code, exceptionTable := #[], attributes := #[] }
def k7m11 : Method := { name := "isLatin1", desc := "()Z", sig := { parameters := [], returnType := some .boolean }, accessFlags := 0, code := some k7c11 }
def k7c12 : Code := { maxStack := 3, maxLocals := 2, code := jdk_42_method_155_code, exceptionTable := #[], attributes := #[] }
def k7m12 : Method := { name := "checkIndex", desc := "(II)V", sig := { parameters := [.int, .int], returnType := none }, accessFlags := 8, code := some k7c12 }
def k7c13 : Code := { maxStack := 4, maxLocals := 3, code := jdk_42_method_157_code, exceptionTable := #[], attributes := #[] }
def k7m13 : Method := { name := "checkBoundsOffCount", desc := "(III)I", sig := { parameters := [.int, .int, .int], returnType := some .int }, accessFlags := 8, code := some k7c13 }
/-- java/lang/String -/
def k7 : Class := { plain "java/lang/String" (some 0) with
  accessFlags := 49
  interfaces := #[2, 3, 4, 5, 6]
  cf := some (fileOf pool7 10 #[.nestMembers #[1103]] #[{ accessFlags := 1, nameIndex := 5, descriptorIndex := 6, attributes := #[] }, { accessFlags := 1, nameIndex := 5, descriptorIndex := 1010, attributes := #[] }, { accessFlags := 1, nameIndex := 5, descriptorIndex := 1233, attributes := #[] }, { accessFlags := 1, nameIndex := 507, descriptorIndex := 334, attributes := #[] }, { accessFlags := 1, nameIndex := 497, descriptorIndex := 427, attributes := #[] }, { accessFlags := 9, nameIndex := 782, descriptorIndex := 783, attributes := #[] }, { accessFlags := 0, nameIndex := 532, descriptorIndex := 821, attributes := #[] }, { accessFlags := 2, nameIndex := 5, descriptorIndex := 29, attributes := #[] }, { accessFlags := 0, nameIndex := 5, descriptorIndex := 491, attributes := #[] }, { accessFlags := 0, nameIndex := 5, descriptorIndex := 211, attributes := #[] }, { accessFlags := 0, nameIndex := 17, descriptorIndex := 337, attributes := #[] }, { accessFlags := 0, nameIndex := 494, descriptorIndex := 142, attributes := #[] }, { accessFlags := 8, nameIndex := 501, descriptorIndex := 391, attributes := #[] }, { accessFlags := 8, nameIndex := 36, descriptorIndex := 37, attributes := #[] }] 49 2 #[1106, 1108, 575, 1110, 1112] #[{ accessFlags := 18, nameIndex := 13, descriptorIndex := 14, attributes := #[] }, { accessFlags := 18, nameIndex := 17, descriptorIndex := 18, attributes := #[] }, { accessFlags := 2, nameIndex := 21, descriptorIndex := 22, attributes := #[] }, { accessFlags := 2, nameIndex := 25, descriptorIndex := 26, attributes := #[] }, { accessFlags := 26, nameIndex := 1116, descriptorIndex := 1117, attributes := #[] }, { accessFlags := 24, nameIndex := 40, descriptorIndex := 26, attributes := #[] }, { accessFlags := 26, nameIndex := 1101, descriptorIndex := 1102, attributes := #[] }, { accessFlags := 26, nameIndex := 1121, descriptorIndex := 1122, attributes := #[] }, { accessFlags := 25, nameIndex := 599, descriptorIndex := 600, attributes := #[] }, { accessFlags := 24, nameIndex := 1125, descriptorIndex := 18, attributes := #[] }, { accessFlags := 24, nameIndex := 1127, descriptorIndex := 18, attributes := #[] }])
  fields := #[{ name := "value", type := (.array .byte), accessFlags := 18, slot := 0, constantValue := 0 }, { name := "coder", type := .byte, accessFlags := 18, slot := 1, constantValue := 0 }, { name := "hash", type := .int, accessFlags := 2, slot := 2, constantValue := 0 }, { name := "hashIsZero", type := .boolean, accessFlags := 2, slot := 3, constantValue := 0 }, { name := "serialVersionUID", type := .long, accessFlags := 26, slot := 0, constantValue := 0 }, { name := "COMPACT_STRINGS", type := .boolean, accessFlags := 24, slot := 1, constantValue := 0 }, { name := "serialPersistentFields", type := (.array (.object "java/io/ObjectStreamField")), accessFlags := 26, slot := 2, constantValue := 0 }, { name := "REPL", type := .char, accessFlags := 26, slot := 3, constantValue := 0 }, { name := "CASE_INSENSITIVE_ORDER", type := (.object "java/util/Comparator"), accessFlags := 25, slot := 4, constantValue := 0 }, { name := "LATIN1", type := .byte, accessFlags := 24, slot := 5, constantValue := 0 }, { name := "UTF16", type := .byte, accessFlags := 24, slot := 6, constantValue := 0 }]
  methods := #[k7m0, k7m1, k7m2, k7m3, k7m4, k7m5, k7m6, k7m7, k7m8, k7m9, k7m10, k7m11, k7m12, k7m13]
  instanceTypes := #[(.array .byte), .byte, .int, .boolean]
  staticTypes := #[.long, .boolean, (.array (.object "java/io/ObjectStreamField")), .char, (.object "java/util/Comparator"), .byte, .byte]
  resolved := Array.replicate 1451 none
  statics := some 0 }

def pool8 : Array CpInfo := pool [(3, .class_ 4), (0, u "java/lang/String"), (1, .class_ 8), (1, u "java/lang/Object"), (0, u "<init>"), (0, u "()V"), (0, .methodref 12 13), (0, .class_ 14), (0, .nameAndType 15 16), (0, u "java/lang/StringUTF16"), (0, u "newBytesLength"), (0, u "(I)I"), (3, .integer 1073741823), (23, .fieldref 12 45), (0, .nameAndType 46 47), (0, u "$assertionsDisabled"), (0, u "Z"), (0, .methodref 12 49), (0, .nameAndType 50 51), (0, u "length"), (0, u "([B)I"), (7, .fieldref 12 60), (0, .nameAndType 61 62), (0, u "HI_BYTE_SHIFT"), (0, u "I"), (0, .fieldref 12 64), (0, .nameAndType 65 62), (0, u "LO_BYTE_SHIFT"), (1, .methodref 12 68), (0, .nameAndType 69 70), (0, u "checkIndex"), (0, u "(I[B)V"), (0, .methodref 12 72), (0, .nameAndType 73 74), (0, u "getChar"), (0, u "([BI)C"), (24, u "(II[B)V"), (7, .methodref 12 108), (0, .nameAndType 109 110), (0, u "newBytesFor"), (0, u "(I)[B"), (0, .methodref 12 112), (0, .nameAndType 113 114), (0, u "putChar"), (0, u "([BII)V"), (0, .methodref 12 116), (0, .nameAndType 117 118), (0, u "compress"), (0, u "([CI[BII)I"), (0, .methodref 12 120), (0, .nameAndType 121 122), (0, u "toBytes"), (0, u "([CII)[B"), (17, u "inflate"), (0, u "([BI[BII)V"), (31, .methodref 12 174), (0, .nameAndType 175 99), (0, u "checkBoundsOffCount"), (85, u "coderFromArrayLen"), (0, u "([BI)B"), (18, u "(III)I"), (87, .class_ 371), (1, u "java/lang/StringUTF16$LinesSpliterator"), (20, u "charAt"), (21, .methodref 3 415), (0, .nameAndType 69 416), (0, u "(II)V"), (2, .methodref 3 420), (0, .nameAndType 175 281), (9, u "MAX_LENGTH"), (44, u "(C)[B"), (151, .class_ 628), (0, u "java/lang/StringUTF16$CodePointsSpliterator"), (0, .class_ 630), (0, u "java/lang/StringUTF16$CharsSpliterator")] 4

def k8m0 : Method := { name := "<init>", desc := "()V", sig := { parameters := [], returnType := none }, accessFlags := 0, code := none }
def k8c1 : Code := { maxStack := 1, maxLocals := 1, code := jdk_52_method_2_code, exceptionTable := #[], attributes := #[] }
def k8m1 : Method := { name := "newBytesFor", desc := "(I)[B", sig := { parameters := [.int], returnType := some (.array .byte) }, accessFlags := 9, code := some k8c1 }
def k8c2 : Code := { maxStack := 4, maxLocals := 1, code := jdk_52_method_3_code, exceptionTable := #[], attributes := #[] }
def k8m2 : Method := { name := "newBytesLength", desc := "(I)I", sig := { parameters := [.int], returnType := some .int }, accessFlags := 9, code := some k8c2 }
def k8c3 : Code := { maxStack := 4, maxLocals := 3, code := jdk_52_method_4_code, exceptionTable := #[], attributes := #[] }
def k8m3 : Method := { name := "putChar", desc := "([BII)V", sig := { parameters := [(.array .byte), .int, .int], returnType := none }, accessFlags := 8, code := some k8c3 }
def k8c4 : Code := { maxStack := 3, maxLocals := 2, code := jdk_52_method_5_code, exceptionTable := #[], attributes := #[] }
def k8m4 : Method := { name := "getChar", desc := "([BI)C", sig := { parameters := [(.array .byte), .int], returnType := some .char }, accessFlags := 8, code := some k8c4 }
def k8c5 : Code := { maxStack := 2, maxLocals := 1, code := jdk_52_method_6_code, exceptionTable := #[], attributes := #[] }
def k8m5 : Method := { name := "length", desc := "([B)I", sig := { parameters := [(.array .byte)], returnType := some .int }, accessFlags := 9, code := some k8c5 }
def k8c6 : Code := { maxStack := 4, maxLocals := 5, code := jdk_52_method_14_code, exceptionTable := #[], attributes := #[] }
def k8m6 : Method := { name := "toBytes", desc := "([CII)[B", sig := { parameters := [(.array .char), .int, .int], returnType := some (.array .byte) }, accessFlags := 9, code := some k8c6 }
def k8c7 : Code := { maxStack := 2, maxLocals := 2, code := jdk_52_method_15_code, exceptionTable := #[], attributes := #[] }
def k8m7 : Method := { name := "coderFromArrayLen", desc := "([BI)B", sig := { parameters := [(.array .byte), .int], returnType := some .byte }, accessFlags := 8, code := some k8c7 }
def k8c8 : Code := { maxStack := 5, maxLocals := 6, code := jdk_52_method_16_code, exceptionTable := #[], attributes := #[] }
def k8m8 : Method := { name := "compress", desc := "([CII)[B", sig := { parameters := [(.array .char), .int, .int], returnType := some (.array .byte) }, accessFlags := 9, code := some k8c8 }
def k8c9 : Code := { maxStack := 3, maxLocals := 7, code := jdk_52_method_21_code, exceptionTable := #[], attributes := #[] }
def k8m9 : Method := { name := "compress", desc := "([CI[BII)I", sig := { parameters := [(.array .char), .int, (.array .byte), .int, .int], returnType := some .int }, accessFlags := 9, code := some k8c9 }
def k8c10 : Code := { maxStack := 3, maxLocals := 2, code := jdk_52_method_24_code, exceptionTable := #[], attributes := #[] }
def k8m10 : Method := { name := "toBytes", desc := "(C)[B", sig := { parameters := [.char], returnType := some (.array .byte) }, accessFlags := 9, code := some k8c10 }
def k8c11 : Code := { maxStack := 2, maxLocals := 2, code := jdk_52_method_83_code, exceptionTable := #[], attributes := #[] }
def k8m11 : Method := { name := "charAt", desc := "([BI)C", sig := { parameters := [(.array .byte), .int], returnType := some .char }, accessFlags := 9, code := some k8c11 }
def k8c12 : Code := { maxStack := 4, maxLocals := 6, code := jdk_52_method_86_code, exceptionTable := #[], attributes := #[] }
def k8m12 : Method := { name := "inflate", desc := "([BI[BII)V", sig := { parameters := [(.array .byte), .int, (.array .byte), .int, .int], returnType := none }, accessFlags := 9, code := some k8c12 }
def k8c13 : Code := { maxStack := 2, maxLocals := 2, code := jdk_52_method_91_code, exceptionTable := #[], attributes := #[] }
def k8m13 : Method := { name := "checkIndex", desc := "(I[B)V", sig := { parameters := [.int, (.array .byte)], returnType := none }, accessFlags := 9, code := some k8c13 }
def k8c14 : Code := { maxStack := 3, maxLocals := 3, code := jdk_52_method_94_code, exceptionTable := #[], attributes := #[] }
def k8m14 : Method := { name := "checkBoundsOffCount", desc := "(II[B)V", sig := { parameters := [.int, .int, (.array .byte)], returnType := none }, accessFlags := 9, code := some k8c14 }
/-- java/lang/StringUTF16 -/
def k8 : Class := { plain "java/lang/StringUTF16" (some 0) with
  accessFlags := 48
  interfaces := #[]
  cf := some (fileOf pool8 12 #[.nestMembers #[627, 629, 369]] #[{ accessFlags := 0, nameIndex := 9, descriptorIndex := 10, attributes := #[] }, { accessFlags := 9, nameIndex := 109, descriptorIndex := 110, attributes := #[] }, { accessFlags := 9, nameIndex := 15, descriptorIndex := 16, attributes := #[] }, { accessFlags := 8, nameIndex := 113, descriptorIndex := 114, attributes := #[] }, { accessFlags := 8, nameIndex := 73, descriptorIndex := 74, attributes := #[] }, { accessFlags := 9, nameIndex := 50, descriptorIndex := 51, attributes := #[] }, { accessFlags := 9, nameIndex := 121, descriptorIndex := 122, attributes := #[] }, { accessFlags := 8, nameIndex := 261, descriptorIndex := 262, attributes := #[] }, { accessFlags := 9, nameIndex := 117, descriptorIndex := 122, attributes := #[] }, { accessFlags := 9, nameIndex := 117, descriptorIndex := 118, attributes := #[] }, { accessFlags := 9, nameIndex := 121, descriptorIndex := 475, attributes := #[] }, { accessFlags := 9, nameIndex := 392, descriptorIndex := 74, attributes := #[] }, { accessFlags := 9, nameIndex := 140, descriptorIndex := 141, attributes := #[] }, { accessFlags := 9, nameIndex := 69, descriptorIndex := 70, attributes := #[] }, { accessFlags := 9, nameIndex := 175, descriptorIndex := 99, attributes := #[] }] 48 6 #[] #[{ accessFlags := 26, nameIndex := 61, descriptorIndex := 62, attributes := #[] }, { accessFlags := 26, nameIndex := 65, descriptorIndex := 62, attributes := #[] }, { accessFlags := 24, nameIndex := 430, descriptorIndex := 62, attributes := #[] }, { accessFlags := 4120, nameIndex := 46, descriptorIndex := 47, attributes := #[] }])
  fields := #[{ name := "HI_BYTE_SHIFT", type := .int, accessFlags := 26, slot := 0, constantValue := 0 }, { name := "LO_BYTE_SHIFT", type := .int, accessFlags := 26, slot := 1, constantValue := 0 }, { name := "MAX_LENGTH", type := .int, accessFlags := 24, slot := 2, constantValue := 0 }, { name := "$assertionsDisabled", type := .boolean, accessFlags := 4120, slot := 3, constantValue := 0 }]
  methods := #[k8m0, k8m1, k8m2, k8m3, k8m4, k8m5, k8m6, k8m7, k8m8, k8m9, k8m10, k8m11, k8m12, k8m13, k8m14]
  instanceTypes := #[]
  staticTypes := #[.int, .int, .int, .boolean]
  resolved := Array.replicate 635 none
  statics := some 1 }

def pool9 : Array CpInfo := pool [(1, .methodref 2 3), (0, .class_ 4), (0, .nameAndType 5 6), (0, u "java/lang/Object"), (0, u "<init>"), (0, u "()V"), (0, .methodref 8 9), (0, .class_ 10), (0, .nameAndType 11 12), (0, u "java/util/Objects"), (0, u "requireNonNull"), (0, u "(Ljava/lang/Object;)Ljava/lang/Object;"), (0, .class_ 14), (0, u "java/lang/String"), (0, .fieldref 16 17), (0, .class_ 18), (0, .nameAndType 19 20), (0, u "com/example/tallyline/tallyline/core/FieldError"), (0, u "field"), (0, u "Ljava/lang/String;"), (0, .fieldref 16 22), (0, .nameAndType 23 20), (0, u "message"), (0, .class_ 25), (0, u "java/lang/StringBuilder"), (0, .methodref 24 3), (0, .methodref 24 28), (0, .nameAndType 29 30), (0, u "append"), (0, u "(Ljava/lang/String;)Ljava/lang/StringBuilder;"), (0, .string 32), (0, u ": "), (0, .methodref 24 34), (0, .nameAndType 35 36), (0, u "toString"), (0, u "()Ljava/lang/String;"), (0, u "(Ljava/lang/String;Ljava/lang/String;)V")] 6

def k9c0 : Code := { maxStack := 2, maxLocals := 3, code := prog_7_method_1_code, exceptionTable := #[], attributes := #[] }
def k9m0 : Method := { name := "<init>", desc := "(Ljava/lang/String;Ljava/lang/String;)V", sig := { parameters := [(.object "java/lang/String"), (.object "java/lang/String")], returnType := none }, accessFlags := 1, code := some k9c0 }
def k9c1 : Code := { maxStack := 2, maxLocals := 1, code := prog_7_method_4_code, exceptionTable := #[], attributes := #[] }
def k9m1 : Method := { name := "toString", desc := "()Ljava/lang/String;", sig := { parameters := [], returnType := some (.object "java/lang/String") }, accessFlags := 1, code := some k9c1 }
/-- com/example/tallyline/tallyline/core/FieldError -/
def k9 : Class := { plain "com/example/tallyline/tallyline/core/FieldError" (some 0) with
  accessFlags := 49
  interfaces := #[]
  cf := some (fileOf pool9 16 #[] #[{ accessFlags := 1, nameIndex := 5, descriptorIndex := 37, attributes := #[] }, { accessFlags := 1, nameIndex := 35, descriptorIndex := 36, attributes := #[] }] 49 2 #[] #[{ accessFlags := 18, nameIndex := 19, descriptorIndex := 20, attributes := #[] }, { accessFlags := 18, nameIndex := 23, descriptorIndex := 20, attributes := #[] }])
  fields := #[{ name := "field", type := (.object "java/lang/String"), accessFlags := 18, slot := 0, constantValue := 0 }, { name := "message", type := (.object "java/lang/String"), accessFlags := 18, slot := 1, constantValue := 0 }]
  methods := #[k9m0, k9m1]
  instanceTypes := #[(.object "java/lang/String"), (.object "java/lang/String")]
  staticTypes := #[]
  resolved := Array.replicate 44 none
  statics := none }

def pool10 : Array CpInfo := pool [(2, .class_ 4), (1, u "java/lang/Object"), (0, u "<init>"), (0, u "()V"), (35, .class_ 44), (1, u "java/util/Objects"), (0, u "requireNonNull"), (0, u "(Ljava/lang/Object;)Ljava/lang/Object;")] 137

def k10m0 : Method := { name := "<init>", desc := "()V", sig := { parameters := [], returnType := none }, accessFlags := 2, code := none }
def k10c1 : Code := { maxStack := 2, maxLocals := 1, code := jdk_31_method_10_code, exceptionTable := #[], attributes := #[] }
def k10m1 : Method := { name := "requireNonNull", desc := "(Ljava/lang/Object;)Ljava/lang/Object;", sig := { parameters := [(.object "java/lang/Object")], returnType := some (.object "java/lang/Object") }, accessFlags := 9, code := some k10c1 }
/-- java/util/Objects -/
def k10 : Class := { plain "java/util/Objects" (some 0) with
  accessFlags := 49
  interfaces := #[]
  cf := some (fileOf pool10 42 #[] #[{ accessFlags := 2, nameIndex := 5, descriptorIndex := 6, attributes := #[] }, { accessFlags := 9, nameIndex := 45, descriptorIndex := 46, attributes := #[] }] 49 2 #[] #[])
  fields := #[]
  methods := #[k10m0, k10m1]
  instanceTypes := #[]
  staticTypes := #[]
  resolved := Array.replicate 184 none
  statics := none }

def pool11 : Array CpInfo := pool [(1, .class_ 2), (0, u "java/lang/Appendable"), (0, .class_ 4), (0, u "java/lang/Object")] 9

/-- java/lang/Appendable -/
def k11 : Class := { plain "java/lang/Appendable" (some 0) with
  accessFlags := 1537
  interfaces := #[]
  cf := some (fileOf pool11 1 #[] #[] 1537 3 #[] #[])
  fields := #[]
  methods := #[]
  instanceTypes := #[]
  staticTypes := #[]
  resolved := Array.replicate 14 none
  statics := none }

def pool12 : Array CpInfo := pool [(1, .class_ 2), (0, u "java/lang/String"), (0, .methodref 4 5), (0, .class_ 6), (0, .nameAndType 7 8), (0, u "java/lang/Object"), (0, u "<init>"), (0, u "()V"), (1, .class_ 12), (1, u "java/lang/AbstractStringBuilder"), (0, u "EMPTYVALUE"), (0, u "[B"), (0, .fieldref 10 16), (0, .nameAndType 17 14), (0, u "value"), (0, .fieldref 1 19), (0, .nameAndType 20 21), (0, u "COMPACT_STRINGS"), (0, u "Z"), (0, .fieldref 10 23), (0, .nameAndType 24 25), (0, u "coder"), (0, u "B"), (0, .methodref 27 28), (0, .class_ 29), (0, .nameAndType 30 31), (0, u "java/lang/StringUTF16"), (0, u "newBytesFor"), (0, u "(I)[B"), (0, .methodref 1 33), (0, .nameAndType 34 35), (0, u "length"), (0, u "()I"), (4, .methodref 1 41), (0, .nameAndType 24 42), (0, u "()B"), (2, u "append"), (0, u "(Ljava/lang/String;)Ljava/lang/AbstractStringBuilder;"), (1, .class_ 49), (0, u "java/lang/CharSequence"), (19, u "(Ljava/lang/String;)V"), (5, u "maybeLatin1"), (3, .fieldref 10 80), (0, .nameAndType 81 82), (0, u "count"), (0, u "I"), (0, .methodref 10 84), (0, .nameAndType 85 86), (0, u "isLatin1"), (0, u "()Z"), (1, .class_ 90), (1, u "java/lang/StringLatin1"), (9, .methodref 10 101), (0, .nameAndType 102 103), (0, u "ensureCapacityInternal"), (0, u "(I)V"), (21, .methodref 88 126), (0, .nameAndType 127 128), (0, u "inflate"), (0, u "([BI[BII)V"), (66, .methodref 10 196), (0, .nameAndType 127 8), (11, .methodref 10 209), (0, .nameAndType 210 211), (0, u "putStringAt"), (0, u "(ILjava/lang/String;)V"), (5, u "inflateIfNeededFor"), (2, .nameAndType 221 222), (0, u "getBytes"), (0, u "([BIB)V"), (174, .methodref 10 398), (0, .nameAndType 217 69), (0, .methodref 1 220), (3, u "()[B"), (40, .class_ 445), (0, u "java/lang/Appendable"), (106, u "getValue")] 56

def k12m0 : Method := { name := "<init>", desc := "()V", sig := { parameters := [], returnType := none }, accessFlags := 0, code := none }
def k12c1 : Code := { maxStack := 2, maxLocals := 2, code := jdk_68_method_2_code, exceptionTable := #[], attributes := #[] }
def k12m1 : Method := { name := "<init>", desc := "(I)V", sig := { parameters := [.int], returnType := none }, accessFlags := 0, code := some k12c1 }
def k12c2 : Code := { maxStack := 1, maxLocals := 1, code := jdk_68_method_6_code, exceptionTable := #[], attributes := #[] }
def k12m2 : Method := { name := "length", desc := "()I", sig := { parameters := [], returnType := some .int }, accessFlags := 1, code := some k12c2 }
def k12c3 : Code := { maxStack := 4, maxLocals := 3, code := jdk_68_method_9_code, exceptionTable := #[], attributes := #[] }
def k12m3 : Method := { name := "ensureCapacityInternal", desc := "(I)V", sig := { parameters := [.int], returnType := none }, accessFlags := 2, code := some k12c3 }
def k12c4 : Code := { maxStack := 5, maxLocals := 2, code := jdk_68_method_11_code, exceptionTable := #[], attributes := #[] }
def k12m4 : Method := { name := "inflate", desc := "()V", sig := { parameters := [], returnType := none }, accessFlags := 2, code := some k12c4 }
def k12c5 : Code := { maxStack := 3, maxLocals := 3, code := jdk_68_method_22_code, exceptionTable := #[], attributes := #[] }
def k12m5 : Method := { name := "append", desc := "(Ljava/lang/String;)Ljava/lang/AbstractStringBuilder;", sig := { parameters := [(.object "java/lang/String")], returnType := some (.object "java/lang/AbstractStringBuilder") }, accessFlags := 1, code := some k12c5 }
def k12c6 : Code := { maxStack := 1, maxLocals := 1, code := jdk_68_method_64_code, exceptionTable := #[], attributes := #[] }
def k12m6 : Method := { name := "getValue", desc := "()[B", sig := { parameters := [], returnType := some (.array .byte) }, accessFlags := 16, code := some k12c6 }
def k12c7 : Code := { maxStack := 1, maxLocals := 1, code := jdk_68_method_68_code, exceptionTable := #[], attributes := #[] }
def k12m7 : Method := { name := "isLatin1", desc := "()Z", sig := { parameters := [], returnType := some .boolean }, accessFlags := 16, code := some k12c7 }
def k12c8 : Code := { maxStack := 2, maxLocals := 2, code := jdk_68_method_71_code, exceptionTable := #[], attributes := #[] }
def k12m8 : Method := { name := "inflateIfNeededFor", desc := "(Ljava/lang/String;)V", sig := { parameters := [(.object "java/lang/String")], returnType := none }, accessFlags := 2, code := some k12c8 }
def k12c9 : Code := { maxStack := 4, maxLocals := 3, code := jdk_68_method_73_code, exceptionTable := #[], attributes := #[] }
def k12m9 : Method := { name := "putStringAt", desc := "(ILjava/lang/String;)V", sig := { parameters := [.int, (.object "java/lang/String")], returnType := none }, accessFlags := 2, code := some k12c9 }
/-- java/lang/AbstractStringBuilder -/
def k12 : Class := { plain "java/lang/AbstractStringBuilder" (some 0) with
  accessFlags := 1056
  interfaces := #[11, 4]
  cf := some (fileOf pool12 10 #[] #[{ accessFlags := 0, nameIndex := 7, descriptorIndex := 8, attributes := #[] }, { accessFlags := 0, nameIndex := 7, descriptorIndex := 103, attributes := #[] }, { accessFlags := 1, nameIndex := 34, descriptorIndex := 35, attributes := #[] }, { accessFlags := 2, nameIndex := 102, descriptorIndex := 103, attributes := #[] }, { accessFlags := 2, nameIndex := 127, descriptorIndex := 8, attributes := #[] }, { accessFlags := 1, nameIndex := 45, descriptorIndex := 46, attributes := #[] }, { accessFlags := 16, nameIndex := 552, descriptorIndex := 403, attributes := #[] }, { accessFlags := 16, nameIndex := 85, descriptorIndex := 86, attributes := #[] }, { accessFlags := 2, nameIndex := 217, descriptorIndex := 69, attributes := #[] }, { accessFlags := 2, nameIndex := 210, descriptorIndex := 211, attributes := #[] }] 1056 4 #[444, 48] #[{ accessFlags := 0, nameIndex := 17, descriptorIndex := 14, attributes := #[] }, { accessFlags := 0, nameIndex := 24, descriptorIndex := 25, attributes := #[] }, { accessFlags := 0, nameIndex := 75, descriptorIndex := 21, attributes := #[] }, { accessFlags := 0, nameIndex := 81, descriptorIndex := 82, attributes := #[] }, { accessFlags := 26, nameIndex := 13, descriptorIndex := 14, attributes := #[] }])
  fields := #[{ name := "value", type := (.array .byte), accessFlags := 0, slot := 0, constantValue := 0 }, { name := "coder", type := .byte, accessFlags := 0, slot := 1, constantValue := 0 }, { name := "maybeLatin1", type := .boolean, accessFlags := 0, slot := 2, constantValue := 0 }, { name := "count", type := .int, accessFlags := 0, slot := 3, constantValue := 0 }, { name := "EMPTYVALUE", type := (.array .byte), accessFlags := 26, slot := 0, constantValue := 0 }]
  methods := #[k12m0, k12m1, k12m2, k12m3, k12m4, k12m5, k12m6, k12m7, k12m8, k12m9]
  instanceTypes := #[(.array .byte), .byte, .boolean, .int]
  staticTypes := #[(.array .byte)]
  resolved := Array.replicate 609 none
  statics := none }

def pool13 : Array CpInfo := pool [(1, .methodref 2 3), (0, .class_ 4), (0, .nameAndType 5 6), (0, u "java/lang/AbstractStringBuilder"), (0, u "<init>"), (0, u "(I)V"), (11, .class_ 20), (1, u "java/lang/String"), (3, .class_ 26), (1, u "java/lang/StringBuilder"), (0, u "append"), (0, u "(Ljava/lang/String;)Ljava/lang/StringBuilder;"), (0, .methodref 2 30), (0, .nameAndType 27 31), (0, u "(Ljava/lang/String;)Ljava/lang/AbstractStringBuilder;"), (105, .methodref 18 138), (0, .nameAndType 5 139), (0, u "(Ljava/lang/StringBuilder;)V"), (5, u "()V"), (10, u "()I"), (186, .methodref 2 344), (0, .nameAndType 345 156), (0, u "length"), (3, .class_ 350), (0, u "java/lang/Appendable"), (0, .class_ 352), (0, u "java/io/Serializable"), (0, .class_ 354), (0, u "java/lang/Comparable"), (0, .class_ 356), (0, u "java/lang/CharSequence"), (0, u "serialVersionUID"), (0, u "J"), (40, u "toString"), (0, u "()Ljava/lang/String;")] 21

def k13c0 : Code := { maxStack := 2, maxLocals := 1, code := jdk_67_method_1_code, exceptionTable := #[], attributes := #[] }
def k13m0 : Method := { name := "<init>", desc := "()V", sig := { parameters := [], returnType := none }, accessFlags := 1, code := some k13c0 }
def k13c1 : Code := { maxStack := 2, maxLocals := 2, code := jdk_67_method_7_code, exceptionTable := #[], attributes := #[] }
def k13m1 : Method := { name := "append", desc := "(Ljava/lang/String;)Ljava/lang/StringBuilder;", sig := { parameters := [(.object "java/lang/String")], returnType := some (.object "java/lang/StringBuilder") }, accessFlags := 1, code := some k13c1 }
def k13c2 : Code := { maxStack := 3, maxLocals := 1, code := jdk_67_method_42_code, exceptionTable := #[], attributes := #[] }
def k13m2 : Method := { name := "toString", desc := "()Ljava/lang/String;", sig := { parameters := [], returnType := some (.object "java/lang/String") }, accessFlags := 1, code := some k13c2 }
def k13c3 : Code := { maxStack := 1, maxLocals := 1, code := jdk_67_method_93_code, exceptionTable := #[], attributes := #[] }
def k13m3 : Method := { name := "length", desc := "()I", sig := { parameters := [], returnType := some .int }, accessFlags := 4161, code := some k13c3 }
/-- java/lang/StringBuilder -/
def k13 : Class := { plain "java/lang/StringBuilder" (some 12) with
  accessFlags := 49
  interfaces := #[11, 2, 3, 4]
  cf := some (fileOf pool13 24 #[] #[{ accessFlags := 1, nameIndex := 5, descriptorIndex := 145, attributes := #[] }, { accessFlags := 1, nameIndex := 27, descriptorIndex := 28, attributes := #[] }, { accessFlags := 1, nameIndex := 399, descriptorIndex := 400, attributes := #[] }, { accessFlags := 4161, nameIndex := 345, descriptorIndex := 156, attributes := #[] }] 49 2 #[349, 351, 353, 355] #[{ accessFlags := 24, nameIndex := 357, descriptorIndex := 358, attributes := #[] }])
  fields := #[{ name := "serialVersionUID", type := .long, accessFlags := 24, slot := 0, constantValue := 0 }]
  methods := #[k13m0, k13m1, k13m2, k13m3]
  instanceTypes := #[(.array .byte), .byte, .boolean, .int]
  staticTypes := #[.long]
  resolved := Array.replicate 422 none
  statics := none }

def pool14 : Array CpInfo := pool [(2, .class_ 4), (1, u "java/lang/Object"), (0, u "<init>"), (0, u "()V"), (1, .class_ 10), (1, u "java/lang/System"), (0, u "allowSecurityManager"), (0, u "I"), (16, u "cons"), (0, u "Ljava/io/Console;"), (77, .class_ 110), (1, u "java/lang/System$CallersHolder"), (43, u "initialErrStream"), (0, u "Ljava/io/PrintStream;"), (19, u "security"), (0, u "Ljava/lang/SecurityManager;"), (31, .class_ 209), (0, u "java/lang/System$1"), (7, u "props"), (0, u "Ljava/util/Properties;"), (2, u "lineSeparator"), (0, u "Ljava/lang/String;"), (96, .class_ 321), (1, u "java/lang/System$LoggerFinder"), (5, .class_ 328), (0, u "java/lang/System$Logger"), (67, u "err"), (2, u "out"), (91, u "notSupportedJnuEncoding"), (15, u "in"), (17, u "initialIn"), (0, u "Ljava/io/InputStream;"), (35, u "bootLayer"), (0, u "Ljava/lang/ModuleLayer;"), (99, .class_ 664), (0, u "java/lang/System$2"), (9, u "NEVER"), (2, u "MAYBE"), (49, u "arraycopy"), (0, u "(Ljava/lang/Object;ILjava/lang/Object;II)V"), (72, .class_ 802), (0, u "java/lang/System$Logger$Level")] 31

def k14m0 : Method := { name := "<init>", desc := "()V", sig := { parameters := [], returnType := none }, accessFlags := 2, code := none }
def k14m1 : Method := { name := "arraycopy", desc := "(Ljava/lang/Object;ILjava/lang/Object;II)V", sig := { parameters := [(.object "java/lang/Object"), .int, (.object "java/lang/Object"), .int, .int], returnType := none }, accessFlags := 265, code := none }
/-- java/lang/System -/
def k14 : Class := { plain "java/lang/System" (some 0) with
  accessFlags := 49
  interfaces := #[]
  cf := some (fileOf pool14 8 #[.nestMembers #[319, 327, 801, 108, 663, 208]] #[{ accessFlags := 2, nameIndex := 5, descriptorIndex := 6, attributes := #[] }, { accessFlags := 265, nameIndex := 727, descriptorIndex := 728, attributes := #[] }] 49 2 #[] #[{ accessFlags := 25, nameIndex := 507, descriptorIndex := 526, attributes := #[] }, { accessFlags := 25, nameIndex := 399, descriptorIndex := 155, attributes := #[] }, { accessFlags := 25, nameIndex := 396, descriptorIndex := 155, attributes := #[] }, { accessFlags := 10, nameIndex := 525, descriptorIndex := 526, attributes := #[] }, { accessFlags := 26, nameIndex := 674, descriptorIndex := 12, attributes := #[] }, { accessFlags := 26, nameIndex := 677, descriptorIndex := 12, attributes := #[] }, { accessFlags := 10, nameIndex := 11, descriptorIndex := 12, attributes := #[] }, { accessFlags := 74, nameIndex := 175, descriptorIndex := 176, attributes := #[] }, { accessFlags := 10, nameIndex := 491, descriptorIndex := 222, attributes := #[] }, { accessFlags := 74, nameIndex := 29, descriptorIndex := 30, attributes := #[] }, { accessFlags := 74, nameIndex := 154, descriptorIndex := 155, attributes := #[] }, { accessFlags := 10, nameIndex := 217, descriptorIndex := 218, attributes := #[] }, { accessFlags := 10, nameIndex := 221, descriptorIndex := 222, attributes := #[] }, { accessFlags := 8, nameIndex := 562, descriptorIndex := 563, attributes := #[] }])
  fields := #[{ name := "in", type := (.object "java/io/InputStream"), accessFlags := 25, slot := 0, constantValue := 0 }, { name := "out", type := (.object "java/io/PrintStream"), accessFlags := 25, slot := 1, constantValue := 0 }, { name := "err", type := (.object "java/io/PrintStream"), accessFlags := 25, slot := 2, constantValue := 0 }, { name := "initialIn", type := (.object "java/io/InputStream"), accessFlags := 10, slot := 3, constantValue := 0 }, { name := "NEVER", type := .int, accessFlags := 26, slot := 4, constantValue := 0 }, { name := "MAYBE", type := .int, accessFlags := 26, slot := 5, constantValue := 0 }, { name := "allowSecurityManager", type := .int, accessFlags := 10, slot := 6, constantValue := 0 }, { name := "security", type := (.object "java/lang/SecurityManager"), accessFlags := 74, slot := 7, constantValue := 0 }, { name := "notSupportedJnuEncoding", type := (.object "java/lang/String"), accessFlags := 10, slot := 8, constantValue := 0 }, { name := "cons", type := (.object "java/io/Console"), accessFlags := 74, slot := 9, constantValue := 0 }, { name := "initialErrStream", type := (.object "java/io/PrintStream"), accessFlags := 74, slot := 10, constantValue := 0 }, { name := "props", type := (.object "java/util/Properties"), accessFlags := 10, slot := 11, constantValue := 0 }, { name := "lineSeparator", type := (.object "java/lang/String"), accessFlags := 10, slot := 12, constantValue := 0 }, { name := "bootLayer", type := (.object "java/lang/ModuleLayer"), accessFlags := 8, slot := 13, constantValue := 0 }]
  methods := #[k14m0, k14m1]
  instanceTypes := #[]
  staticTypes := #[(.object "java/io/InputStream"), (.object "java/io/PrintStream"), (.object "java/io/PrintStream"), (.object "java/io/InputStream"), .int, .int, .int, (.object "java/lang/SecurityManager"), (.object "java/lang/String"), (.object "java/io/Console"), (.object "java/io/PrintStream"), (.object "java/util/Properties"), (.object "java/lang/String"), (.object "java/lang/ModuleLayer")]
  resolved := Array.replicate 834 none
  statics := none }

def pool15 : Array CpInfo := pool [(2, .class_ 4), (1, u "java/lang/Object"), (0, u "<init>"), (0, u "()V"), (7, .class_ 16), (1, u "java/util/Arrays"), (57, .class_ 76), (1, u "java/util/Arrays$NaturalOrder"), (36, .class_ 115), (1, u "java/util/Arrays$LegacyMergeSort"), (1, u "Z"), (21, u "copyOfRange"), (10, .methodref 151 152), (0, .class_ 153), (0, .nameAndType 154 155), (0, u "java/lang/System"), (0, u "arraycopy"), (0, u "(Ljava/lang/Object;ILjava/lang/Object;II)V"), (148, .methodref 305 306), (0, .class_ 307), (0, .nameAndType 308 309), (0, u "java/lang/Math"), (0, u "min"), (0, u "(II)I"), (29, .methodref 14 340), (0, .nameAndType 341 342), (0, u "copyOfRangeByte"), (0, u "([BII)[B"), (0, .methodref 14 344), (0, .nameAndType 345 346), (0, u "checkLength"), (0, u "(II)V"), (28, .class_ 376), (0, u "java/util/Arrays$ArrayList"), (68, u "$assertionsDisabled"), (269, u "MIN_ARRAY_SORT_GRAN"), (0, u "I"), (2, u "INSERTIONSORT_THRESHOLD"), (255, .class_ 976), (0, u "java/util/Arrays$ArrayItr")] 52

def k15m0 : Method := { name := "<init>", desc := "()V", sig := { parameters := [], returnType := none }, accessFlags := 2, code := none }
def k15c1 : Code := { maxStack := 4, maxLocals := 2, code := jdk_65_method_131_code, exceptionTable := #[], attributes := #[] }
def k15m1 : Method := { name := "checkLength", desc := "(II)V", sig := { parameters := [.int, .int], returnType := none }, accessFlags := 10, code := some k15c1 }
def k15c2 : Code := { maxStack := 3, maxLocals := 3, code := jdk_65_method_132_code, exceptionTable := #[], attributes := #[] }
def k15m2 : Method := { name := "copyOfRange", desc := "([BII)[B", sig := { parameters := [(.array .byte), .int, .int], returnType := some (.array .byte) }, accessFlags := 9, code := some k15c2 }
def k15c3 : Code := { maxStack := 6, maxLocals := 5, code := jdk_65_method_133_code, exceptionTable := #[], attributes := #[] }
def k15m3 : Method := { name := "copyOfRangeByte", desc := "([BII)[B", sig := { parameters := [(.array .byte), .int, .int], returnType := some (.array .byte) }, accessFlags := 10, code := some k15c3 }
/-- java/util/Arrays -/
def k15 : Class := { plain "java/util/Arrays" (some 0) with
  accessFlags := 49
  interfaces := #[]
  cf := some (fileOf pool15 14 #[.nestMembers #[975, 375, 113, 74]] #[{ accessFlags := 2, nameIndex := 5, descriptorIndex := 6, attributes := #[] }, { accessFlags := 10, nameIndex := 345, descriptorIndex := 346, attributes := #[] }, { accessFlags := 9, nameIndex := 139, descriptorIndex := 342, attributes := #[] }, { accessFlags := 10, nameIndex := 341, descriptorIndex := 342, attributes := #[] }] 49 2 #[] #[{ accessFlags := 26, nameIndex := 715, descriptorIndex := 716, attributes := #[] }, { accessFlags := 26, nameIndex := 719, descriptorIndex := 716, attributes := #[] }, { accessFlags := 4120, nameIndex := 445, descriptorIndex := 117, attributes := #[] }])
  fields := #[{ name := "MIN_ARRAY_SORT_GRAN", type := .int, accessFlags := 26, slot := 0, constantValue := 0 }, { name := "INSERTIONSORT_THRESHOLD", type := .int, accessFlags := 26, slot := 1, constantValue := 0 }, { name := "$assertionsDisabled", type := .boolean, accessFlags := 4120, slot := 2, constantValue := 0 }]
  methods := #[k15m0, k15m1, k15m2, k15m3]
  instanceTypes := #[]
  staticTypes := #[.int, .int, .boolean]
  resolved := Array.replicate 1029 none
  statics := none }

def pool16 : Array CpInfo := pool [(1, .class_ 2), (0, u "java/lang/Math"), (1, .class_ 6), (1, u "java/lang/Object"), (0, u "<init>"), (0, u "()V"), (89, .class_ 100), (1, u "java/lang/Math$RandomNumberGeneratorHolder"), (71, u "negativeZeroFloatBits"), (0, u "J"), (2, u "negativeZeroDoubleBits"), (24, u "min"), (43, u "$assertionsDisabled"), (0, u "Z"), (88, u "(II)I"), (2, u "twoToTheDoubleScaleDown"), (0, u "D"), (4, u "twoToTheDoubleScaleUp"), (9, u "E"), (3, u "PI"), (2, u "TAU"), (2, u "DEGREES_TO_RADIANS"), (0, u "RADIANS_TO_DEGREES")] 94

def k16m0 : Method := { name := "<init>", desc := "()V", sig := { parameters := [], returnType := none }, accessFlags := 2, code := none }
def k16c1 : Code := { maxStack := 2, maxLocals := 2, code := jdk_29_method_69_code, exceptionTable := #[], attributes := #[] }
def k16m1 : Method := { name := "min", desc := "(II)I", sig := { parameters := [.int, .int], returnType := some .int }, accessFlags := 9, code := some k16c1 }
/-- java/lang/Math -/
def k16 : Class := { plain "java/lang/Math" (some 0) with
  accessFlags := 49
  interfaces := #[]
  cf := some (fileOf pool16 1 #[.nestMembers #[98]] #[{ accessFlags := 2, nameIndex := 7, descriptorIndex := 8, attributes := #[] }, { accessFlags := 9, nameIndex := 201, descriptorIndex := 335, attributes := #[] }] 49 4 #[] #[{ accessFlags := 25, nameIndex := 354, descriptorIndex := 339, attributes := #[] }, { accessFlags := 25, nameIndex := 358, descriptorIndex := 339, attributes := #[] }, { accessFlags := 25, nameIndex := 361, descriptorIndex := 339, attributes := #[] }, { accessFlags := 26, nameIndex := 364, descriptorIndex := 339, attributes := #[] }, { accessFlags := 26, nameIndex := 365, descriptorIndex := 339, attributes := #[] }, { accessFlags := 26, nameIndex := 172, descriptorIndex := 173, attributes := #[] }, { accessFlags := 26, nameIndex := 176, descriptorIndex := 173, attributes := #[] }, { accessFlags := 8, nameIndex := 344, descriptorIndex := 339, attributes := #[] }, { accessFlags := 8, nameIndex := 338, descriptorIndex := 339, attributes := #[] }, { accessFlags := 4120, nameIndex := 245, descriptorIndex := 246, attributes := #[] }])
  fields := #[{ name := "E", type := .double, accessFlags := 25, slot := 0, constantValue := 0 }, { name := "PI", type := .double, accessFlags := 25, slot := 1, constantValue := 0 }, { name := "TAU", type := .double, accessFlags := 25, slot := 2, constantValue := 0 }, { name := "DEGREES_TO_RADIANS", type := .double, accessFlags := 26, slot := 3, constantValue := 0 }, { name := "RADIANS_TO_DEGREES", type := .double, accessFlags := 26, slot := 4, constantValue := 0 }, { name := "negativeZeroFloatBits", type := .long, accessFlags := 26, slot := 5, constantValue := 0 }, { name := "negativeZeroDoubleBits", type := .long, accessFlags := 26, slot := 6, constantValue := 0 }, { name := "twoToTheDoubleScaleUp", type := .double, accessFlags := 8, slot := 7, constantValue := 0 }, { name := "twoToTheDoubleScaleDown", type := .double, accessFlags := 8, slot := 8, constantValue := 0 }, { name := "$assertionsDisabled", type := .boolean, accessFlags := 4120, slot := 9, constantValue := 0 }]
  methods := #[k16m0, k16m1]
  instanceTypes := #[]
  staticTypes := #[.double, .double, .double, .double, .double, .long, .long, .double, .double, .boolean]
  resolved := Array.replicate 460 none
  statics := none }

def pool17 : Array CpInfo := pool [(1, .class_ 2), (0, u "java/lang/String"), (1, .class_ 6), (1, u "java/lang/Object"), (0, u "<init>"), (0, u "()V"), (0, .methodref 1 10), (0, .nameAndType 11 12), (0, u "checkIndex"), (0, u "(II)V"), (1, .class_ 16), (1, u "java/lang/StringLatin1"), (0, u "inflate"), (2, .class_ 22), (1, u "java/lang/StringUTF16"), (3, .nameAndType 17 27), (0, u "([BI[BII)V"), (25, u "([BI)C"), (36, u "canEncode"), (14, u "(C)Z"), (15, u "$assertionsDisabled"), (0, u "Z"), (98, .class_ 223), (1, u "java/lang/StringLatin1$LinesSpliterator"), (16, .methodref 20 26), (11, u "charAt"), (127, u "toBytes"), (1, u "(C)[B"), (7, .class_ 391), (0, u "java/lang/StringLatin1$CharsSpliterator")] 3

def k17m0 : Method := { name := "<init>", desc := "()V", sig := { parameters := [], returnType := none }, accessFlags := 0, code := none }
def k17c1 : Code := { maxStack := 2, maxLocals := 2, code := jdk_43_method_2_code, exceptionTable := #[], attributes := #[] }
def k17m1 : Method := { name := "charAt", desc := "([BI)C", sig := { parameters := [(.array .byte), .int], returnType := some .char }, accessFlags := 9, code := some k17c1 }
def k17c2 : Code := { maxStack := 2, maxLocals := 1, code := jdk_43_method_3_code, exceptionTable := #[], attributes := #[] }
def k17m2 : Method := { name := "canEncode", desc := "(C)Z", sig := { parameters := [.char], returnType := some .boolean }, accessFlags := 9, code := some k17c2 }
def k17c3 : Code := { maxStack := 4, maxLocals := 1, code := jdk_43_method_46_code, exceptionTable := #[], attributes := #[] }
def k17m3 : Method := { name := "toBytes", desc := "(C)[B", sig := { parameters := [.char], returnType := some (.array .byte) }, accessFlags := 9, code := some k17c3 }
def k17c4 : Code := { maxStack := 5, maxLocals := 5, code := jdk_43_method_50_code, exceptionTable := #[], attributes := #[] }
def k17m4 : Method := { name := "inflate", desc := "([BI[BII)V", sig := { parameters := [(.array .byte), .int, (.array .byte), .int, .int], returnType := none }, accessFlags := 9, code := some k17c4 }
/-- java/lang/StringLatin1 -/
def k17 : Class := { plain "java/lang/StringLatin1" (some 0) with
  accessFlags := 48
  interfaces := #[]
  cf := some (fileOf pool17 14 #[.nestMembers #[390, 221]] #[{ accessFlags := 0, nameIndex := 7, descriptorIndex := 8, attributes := #[] }, { accessFlags := 9, nameIndex := 252, descriptorIndex := 53, attributes := #[] }, { accessFlags := 9, nameIndex := 90, descriptorIndex := 105, attributes := #[] }, { accessFlags := 9, nameIndex := 380, descriptorIndex := 382, attributes := #[] }, { accessFlags := 9, nameIndex := 17, descriptorIndex := 27, attributes := #[] }] 48 4 #[] #[{ accessFlags := 4120, nameIndex := 121, descriptorIndex := 122, attributes := #[] }])
  fields := #[{ name := "$assertionsDisabled", type := .boolean, accessFlags := 4120, slot := 0, constantValue := 0 }]
  methods := #[k17m0, k17m1, k17m2, k17m3, k17m4]
  instanceTypes := #[]
  staticTypes := #[.boolean]
  resolved := Array.replicate 395 none
  statics := none }

def pool18 : Array CpInfo := pool [(2, .class_ 4), (1, u "java/lang/Object"), (0, u "<init>"), (0, u "()V"), (17, .class_ 26), (1, u "jdk/internal/util/Preconditions"), (6, u "checkIndex"), (15, u "checkFromIndexSize"), (5, .class_ 56), (0, u "jdk/internal/util/Preconditions$4"), (57, .class_ 115), (0, u "jdk/internal/util/Preconditions$1"), (7, u "SIOOBE_FORMATTER"), (0, u "Ljava/util/function/BiFunction;"), (0, .class_ 126), (0, u "jdk/internal/util/Preconditions$2"), (3, u "AIOOBE_FORMATTER"), (0, .class_ 132), (0, u "jdk/internal/util/Preconditions$3"), (3, u "IOOBE_FORMATTER"), (41, u "(IILjava/util/function/BiFunction;)I"), (4, u "(IIILjava/util/function/BiFunction;)I")] 10

def k18m0 : Method := { name := "<init>", desc := "()V", sig := { parameters := [], returnType := none }, accessFlags := 1, code := none }
def k18c1 : Code := { maxStack := 3, maxLocals := 3, code := jdk_41_method_11_code, exceptionTable := #[], attributes := #[] }
def k18m1 : Method := { name := "checkIndex", desc := "(IILjava/util/function/BiFunction;)I", sig := { parameters := [.int, .int, (.object "java/util/function/BiFunction")], returnType := some .int }, accessFlags := 9, code := some k18c1 }
def k18c2 : Code := { maxStack := 4, maxLocals := 4, code := jdk_41_method_13_code, exceptionTable := #[], attributes := #[] }
def k18m2 : Method := { name := "checkFromIndexSize", desc := "(IIILjava/util/function/BiFunction;)I", sig := { parameters := [.int, .int, .int, (.object "java/util/function/BiFunction")], returnType := some .int }, accessFlags := 9, code := some k18c2 }
/-- jdk/internal/util/Preconditions -/
def k18 : Class := { plain "jdk/internal/util/Preconditions" (some 0) with
  accessFlags := 33
  interfaces := #[]
  cf := some (fileOf pool18 24 #[.nestMembers #[55, 131, 125, 114]] #[{ accessFlags := 1, nameIndex := 5, descriptorIndex := 6, attributes := #[] }, { accessFlags := 9, nameIndex := 33, descriptorIndex := 178, attributes := #[] }, { accessFlags := 9, nameIndex := 49, descriptorIndex := 183, attributes := #[] }] 33 2 #[] #[{ accessFlags := 25, nameIndex := 123, descriptorIndex := 124, attributes := #[] }, { accessFlags := 25, nameIndex := 130, descriptorIndex := 124, attributes := #[] }, { accessFlags := 25, nameIndex := 136, descriptorIndex := 124, attributes := #[] }])
  fields := #[{ name := "SIOOBE_FORMATTER", type := (.object "java/util/function/BiFunction"), accessFlags := 25, slot := 0, constantValue := 0 }, { name := "AIOOBE_FORMATTER", type := (.object "java/util/function/BiFunction"), accessFlags := 25, slot := 1, constantValue := 0 }, { name := "IOOBE_FORMATTER", type := (.object "java/util/function/BiFunction"), accessFlags := 25, slot := 2, constantValue := 0 }]
  methods := #[k18m0, k18m1, k18m2]
  instanceTypes := #[]
  staticTypes := #[(.object "java/util/function/BiFunction"), (.object "java/util/function/BiFunction"), (.object "java/util/function/BiFunction")]
  resolved := Array.replicate 194 none
  statics := some 2 }

def pool19 : Array CpInfo := pool [(9, u "<init>"), (6, .class_ 18), (1, u "java/lang/Object"), (0, u "()V"), (1, .class_ 23), (1, u "jdk/internal/util/ArraysSupport"), (0, u "LOG2_ARRAY_LONG_INDEX_SCALE"), (0, u "I"), (2, u "U"), (0, u "Ljdk/internal/misc/Unsafe;"), (8, u "BIG_ENDIAN"), (0, u "Z"), (8, u "LOG2_BYTE_BIT_SIZE"), (4, u "LOG2_ARRAY_INT_INDEX_SCALE"), (54, u "JLA"), (0, u "Ljdk/internal/access/JavaLangAccess;"), (11, u "LOG2_ARRAY_BOOLEAN_INDEX_SCALE"), (9, u "LOG2_ARRAY_BYTE_INDEX_SCALE"), (5, u "LOG2_ARRAY_CHAR_INDEX_SCALE"), (5, u "LOG2_ARRAY_SHORT_INDEX_SCALE"), (18, u "LOG2_ARRAY_FLOAT_INDEX_SCALE"), (24, u "LOG2_ARRAY_DOUBLE_INDEX_SCALE"), (89, u "T_BOOLEAN"), (2, u "T_CHAR"), (1, u "T_FLOAT"), (1, u "T_DOUBLE"), (1, u "T_BYTE"), (1, u "T_SHORT"), (1, u "T_INT"), (1, u "T_LONG"), (1, u "SOFT_MAX_ARRAY_LENGTH")] 83

def k19m0 : Method := { name := "<init>", desc := "()V", sig := { parameters := [], returnType := none }, accessFlags := 2, code := none }
/-- jdk/internal/util/ArraysSupport -/
def k19 : Class := { plain "jdk/internal/util/ArraysSupport" (some 0) with
  accessFlags := 33
  interfaces := #[]
  cf := some (fileOf pool19 21 #[] #[{ accessFlags := 2, nameIndex := 9, descriptorIndex := 19, attributes := #[] }] 33 16 #[] #[{ accessFlags := 24, nameIndex := 28, descriptorIndex := 29, attributes := #[] }, { accessFlags := 26, nameIndex := 38, descriptorIndex := 39, attributes := #[] }, { accessFlags := 25, nameIndex := 121, descriptorIndex := 25, attributes := #[] }, { accessFlags := 25, nameIndex := 131, descriptorIndex := 25, attributes := #[] }, { accessFlags := 25, nameIndex := 137, descriptorIndex := 25, attributes := #[] }, { accessFlags := 25, nameIndex := 143, descriptorIndex := 25, attributes := #[] }, { accessFlags := 25, nameIndex := 53, descriptorIndex := 25, attributes := #[] }, { accessFlags := 25, nameIndex := 24, descriptorIndex := 25, attributes := #[] }, { accessFlags := 25, nameIndex := 162, descriptorIndex := 25, attributes := #[] }, { accessFlags := 25, nameIndex := 187, descriptorIndex := 25, attributes := #[] }, { accessFlags := 26, nameIndex := 48, descriptorIndex := 25, attributes := #[] }, { accessFlags := 25, nameIndex := 277, descriptorIndex := 25, attributes := #[] }, { accessFlags := 25, nameIndex := 280, descriptorIndex := 25, attributes := #[] }, { accessFlags := 25, nameIndex := 282, descriptorIndex := 25, attributes := #[] }, { accessFlags := 25, nameIndex := 284, descriptorIndex := 25, attributes := #[] }, { accessFlags := 25, nameIndex := 286, descriptorIndex := 25, attributes := #[] }, { accessFlags := 25, nameIndex := 288, descriptorIndex := 25, attributes := #[] }, { accessFlags := 25, nameIndex := 290, descriptorIndex := 25, attributes := #[] }, { accessFlags := 25, nameIndex := 292, descriptorIndex := 25, attributes := #[] }, { accessFlags := 26, nameIndex := 108, descriptorIndex := 109, attributes := #[] }, { accessFlags := 25, nameIndex := 294, descriptorIndex := 25, attributes := #[] }])
  fields := #[{ name := "U", type := (.object "jdk/internal/misc/Unsafe"), accessFlags := 24, slot := 0, constantValue := 0 }, { name := "BIG_ENDIAN", type := .boolean, accessFlags := 26, slot := 1, constantValue := 0 }, { name := "LOG2_ARRAY_BOOLEAN_INDEX_SCALE", type := .int, accessFlags := 25, slot := 2, constantValue := 0 }, { name := "LOG2_ARRAY_BYTE_INDEX_SCALE", type := .int, accessFlags := 25, slot := 3, constantValue := 0 }, { name := "LOG2_ARRAY_CHAR_INDEX_SCALE", type := .int, accessFlags := 25, slot := 4, constantValue := 0 }, { name := "LOG2_ARRAY_SHORT_INDEX_SCALE", type := .int, accessFlags := 25, slot := 5, constantValue := 0 }, { name := "LOG2_ARRAY_INT_INDEX_SCALE", type := .int, accessFlags := 25, slot := 6, constantValue := 0 }, { name := "LOG2_ARRAY_LONG_INDEX_SCALE", type := .int, accessFlags := 25, slot := 7, constantValue := 0 }, { name := "LOG2_ARRAY_FLOAT_INDEX_SCALE", type := .int, accessFlags := 25, slot := 8, constantValue := 0 }, { name := "LOG2_ARRAY_DOUBLE_INDEX_SCALE", type := .int, accessFlags := 25, slot := 9, constantValue := 0 }, { name := "LOG2_BYTE_BIT_SIZE", type := .int, accessFlags := 26, slot := 10, constantValue := 0 }, { name := "T_BOOLEAN", type := .int, accessFlags := 25, slot := 11, constantValue := 0 }, { name := "T_CHAR", type := .int, accessFlags := 25, slot := 12, constantValue := 0 }, { name := "T_FLOAT", type := .int, accessFlags := 25, slot := 13, constantValue := 0 }, { name := "T_DOUBLE", type := .int, accessFlags := 25, slot := 14, constantValue := 0 }, { name := "T_BYTE", type := .int, accessFlags := 25, slot := 15, constantValue := 0 }, { name := "T_SHORT", type := .int, accessFlags := 25, slot := 16, constantValue := 0 }, { name := "T_INT", type := .int, accessFlags := 25, slot := 17, constantValue := 0 }, { name := "T_LONG", type := .int, accessFlags := 25, slot := 18, constantValue := 0 }, { name := "JLA", type := (.object "jdk/internal/access/JavaLangAccess"), accessFlags := 26, slot := 19, constantValue := 0 }, { name := "SOFT_MAX_ARRAY_LENGTH", type := .int, accessFlags := 25, slot := 20, constantValue := 0 }]
  methods := #[k19m0]
  instanceTypes := #[]
  staticTypes := #[(.object "jdk/internal/misc/Unsafe"), .boolean, .int, .int, .int, .int, .int, .int, .int, .int, .int, .int, .int, .int, .int, .int, .int, .int, .int, (.object "jdk/internal/access/JavaLangAccess"), .int]
  resolved := Array.replicate 378 none
  statics := none }

def pool20 : Array CpInfo := pool [(1, u "java/lang/Cloneable"), (0, .class_ 1), (0, u "java/lang/Object"), (0, .class_ 3)] 3

/-- java/lang/Cloneable -/
def k20 : Class := { plain "java/lang/Cloneable" (some 0) with
  accessFlags := 1537
  interfaces := #[]
  cf := some (fileOf pool20 2 #[] #[] 1537 4 #[] #[])
  fields := #[]
  methods := #[]
  instanceTypes := #[]
  staticTypes := #[]
  resolved := Array.replicate 8 none
  statics := none }

/-- the primitive byte -/
def k21 : Class := { plain "byte" none with kind := .primitive 'B', accessFlags := 0x411 }
/-- [B -/
def k22 : Class := { plain "[B" (some 0) with kind := .array 21 .byte, interfaces := #[20, 2], accessFlags := 1041 }

/-- the primitive char -/
def k23 : Class := { plain "char" none with kind := .primitive 'C', accessFlags := 0x411 }
/-- [C -/
def k24 : Class := { plain "[C" (some 0) with kind := .array 23 .char, interfaces := #[20, 2], accessFlags := 1041 }

/-- the primitive int -/
def k25 : Class := { plain "int" none with kind := .primitive 'I', accessFlags := 0x411 }
/-- [I -/
def k26 : Class := { plain "[I" (some 0) with kind := .array 25 .int, interfaces := #[20, 2], accessFlags := 1041 }

def heap : Heap := #[{ cls := 7, slots := #[.long 0, .int 1, .null, .int 0, .null, .int 0, .int 0], vm := .statics 7 },
  { cls := 8, slots := #[.int 0, .int 8, .int 0, .int 1], vm := .statics 8 },
  { cls := 18, slots := #[.null, .null, .null], vm := .statics 18 }]
def classes : Array Class := #[k0, k1, k2, k3, k4, k5, k6, k7, k8, k9, k10, k11, k12, k13, k14, k15, k16, k17, k18, k19, k20, k21, k22, k23, k24, k25, k26]
def interned : List (Array UInt16 × Addr) := []
def slotsUsed : Nat := 14
def theMethod : MethodId := ⟨1, 1⟩
def args0 : Array Value := #[.int 1, .int 2, .int 3]
def aboutOver (below : List Frame) : State where
  vm := { classes := classes, interned := interned.toArray }
  heap := heap
  slotsUsed := slotsUsed
  threads := #[{ frames := .invoking theMethod args0 :: below }]
def below0 : List Frame := [.native { method := ⟨0, 0⟩, args := #[] }]
def about1 : State := aboutOver below0
def p0 : Program := .bare "" "" ""
def e0 : Env := launch0.env 0 0 0
theorem w_frames : about1.frames = Frame.invoking theMethod args0 :: below0 := rfl
set_option maxRecDepth 65536 in
theorem w_args : argsFit about1.vm theMethod args0 = true := by decide +kernel
set_option maxRecDepth 65536 in
theorem w_heap : heapFits about1 = true := by decide +kernel
set_option maxRecDepth 65536 in
theorem w_runnable : about1.curStatus? = some .runnable := by decide +kernel
set_option maxRecDepth 65536 in
theorem w_alone : about1.alone = true := by decide +kernel
set_option maxRecDepth 65536 in
theorem w_named : about1.methodNamed? x = some theMethod := by decide +kernel
set_option maxRecDepth 65536 in
theorem w_hears : about1.hears theMethod below0 = true := by decide +kernel
set_option maxRecDepth 65536 in
theorem w_ripe : about1.ripe theMethod args0 below0 = true := by decide +kernel
theorem w_running : about1.status = .running := rfl
set_option maxRecDepth 65536 in
theorem w_room : about1.hasRoom e0.platform room_1 = true :=
  launch0.hasRoom_least _ room_1 (by decide +kernel) (by decide +kernel) (by decide +kernel) (by decide +kernel) (by decide +kernel) (by decide +kernel)
theorem allAtoms_all (ts : List Jvm.Cond) (a : Array Jvm.Value) (st : Jvm.State) : (allAtoms ts).before a st = ts.all (fun c => c.before a st) := by
  induction ts with
  | nil => rfl
  | cons c t ih =>
    show (Jvm.Cond.and c (allAtoms t)).before a st = _
    rw [Jvm.Cond.before_and, ih, List.all_cons]
def words1 : List Jvm.Cond := Jvm.Cond.code x code maxLocals ret :: tables_1
/-- a 'code' word, met by the world's own term for the bytes: nothing is compared byte by byte -/
theorem code_word {y : MethodName} {bytes : ByteArray} {mx : Nat} {rt : Option FieldType} {a : Array Value} {s : State} {m : MethodId} {meth : Method} {c : Code} (h1 : s.methodNamed? y = some m) (h2 : s.vm.method? m = some meth) (h3 : meth.code = some c) (h4 : c.code = bytes)
    (h5 : (c.maxLocals == mx && c.exceptionTable.isEmpty && decide (c.maxStack ≤ mostOperands) && decide (meth.sig.returnType = rt) && !meth.locks && decide (parseMethodDescriptor y.desc = some meth.sig)) = true) : (Jvm.Cond.code y bytes mx rt).before a s = true := by
  simp only [Bool.and_eq_true, beq_iff_eq, Bool.not_eq_true', decide_eq_true_eq] at h5
  obtain ⟨⟨⟨⟨⟨g1, g2⟩, g3⟩, g4⟩, g5⟩, g6⟩ := h5
  simp [Cond.before, Cond.holds, Cond.value, h1, h2, h3, h4, g1, g2, g3, g4, g5, g6]
def isCode : Jvm.Cond → Bool
  | .code _ _ _ _ => true
  | _ => false
theorem all_split {L : List Jvm.Cond} {P : Jvm.Cond → Bool} (h1 : L.all (fun c => isCode c || P c) = true) (h2 : ∀ c ∈ L.filter isCode, P c = true) : L.all P = true := by
  refine List.all_eq_true.mpr fun c hc => ?_
  have h := List.all_eq_true.mp h1 c hc
  rcases Bool.eq_false_or_eq_true (isCode c) with hi | hi
  · exact h2 c (List.mem_filter.mpr ⟨hc, hi⟩)
  · simpa [hi] using h
set_option maxRecDepth 65536 in
theorem w_c0 : (Jvm.Cond.code x code maxLocals ret).before args0 about1 = true := code_word (m := ⟨1, 1⟩) (meth := k1m1) (c := k1c1) (by decide +kernel) rfl rfl rfl (by decide +kernel)
set_option maxRecDepth 65536 in
theorem w_c1 : (Jvm.Cond.code ({ cls := "com/example/tallyline/tallyline/core/FieldErrorToStringPinLaw", name := "make", desc := "(ICC)Ljava/lang/String;" } : Jvm.MethodName) method_3_code (3 : Nat) (Option.some (Jvm.ClassFile.FieldType.object "java/lang/String"))).before args0 about1 = true := code_word (m := ⟨1, 2⟩) (meth := k1m2) (c := k1c2) (by decide +kernel) rfl rfl rfl (by decide +kernel)
set_option maxRecDepth 65536 in
theorem w_c2 : (Jvm.Cond.code ({ cls := "java/lang/String", name := "<init>", desc := "([C)V" } : Jvm.MethodName) jdk_42_method_3_code (2 : Nat) (Option.none : Option Jvm.ClassFile.FieldType)).before args0 about1 = true := code_word (m := ⟨7, 1⟩) (meth := k7m1) (c := k7c1) (by decide +kernel) rfl rfl rfl (by decide +kernel)
set_option maxRecDepth 65536 in
theorem w_c3 : (Jvm.Cond.code ({ cls := "java/lang/String", name := "<init>", desc := "([CIILjava/lang/Void;)V" } : Jvm.MethodName) jdk_42_method_149_code (6 : Nat) (Option.none : Option Jvm.ClassFile.FieldType)).before args0 about1 = true := code_word (m := ⟨7, 7⟩) (meth := k7m7) (c := k7c7) (by decide +kernel) rfl rfl rfl (by decide +kernel)
set_option maxRecDepth 65536 in
theorem w_c4 : (Jvm.Cond.code ({ cls := "java/lang/Object", name := "<init>", desc := "()V" } : Jvm.MethodName) object_method_1_code (1 : Nat) (Option.none : Option Jvm.ClassFile.FieldType)).before args0 about1 = true := code_word (m := ⟨0, 0⟩) (meth := k0m0) (c := k0c0) (by decide +kernel) rfl rfl rfl (by decide +kernel)
set_option maxRecDepth 65536 in
theorem w_c5 : (Jvm.Cond.code ({ cls := "java/lang/StringUTF16", name := "compress", desc := "([CII)[B" } : Jvm.MethodName) jdk_52_method_16_code (6 : Nat) (Option.some (Jvm.ClassFile.FieldType.array Jvm.ClassFile.FieldType.byte))).before args0 about1 = true := code_word (m := ⟨8, 8⟩) (meth := k8m8) (c := k8c8) (by decide +kernel) rfl rfl rfl (by decide +kernel)
set_option maxRecDepth 65536 in
theorem w_c6 : (Jvm.Cond.code ({ cls := "java/lang/StringUTF16", name := "compress", desc := "([CI[BII)I" } : Jvm.MethodName) jdk_52_method_21_code (7 : Nat) (Option.some Jvm.ClassFile.FieldType.int)).before args0 about1 = true := code_word (m := ⟨8, 9⟩) (meth := k8m9) (c := k8c9) (by decide +kernel) rfl rfl rfl (by decide +kernel)
set_option maxRecDepth 65536 in
theorem w_c7 : (Jvm.Cond.code ({ cls := "java/lang/StringUTF16", name := "coderFromArrayLen", desc := "([BI)B" } : Jvm.MethodName) jdk_52_method_15_code (2 : Nat) (Option.some Jvm.ClassFile.FieldType.byte)).before args0 about1 = true := code_word (m := ⟨8, 7⟩) (meth := k8m7) (c := k8c7) (by decide +kernel) rfl rfl rfl (by decide +kernel)
set_option maxRecDepth 65536 in
theorem w_c8 : (Jvm.Cond.code ({ cls := "com/example/tallyline/tallyline/core/FieldError", name := "<init>", desc := "(Ljava/lang/String;Ljava/lang/String;)V" } : Jvm.MethodName) prog_7_method_1_code (3 : Nat) (Option.none : Option Jvm.ClassFile.FieldType)).before args0 about1 = true := code_word (m := ⟨9, 0⟩) (meth := k9m0) (c := k9c0) (by decide +kernel) rfl rfl rfl (by decide +kernel)
set_option maxRecDepth 65536 in
theorem w_c9 : (Jvm.Cond.code ({ cls := "java/util/Objects", name := "requireNonNull", desc := "(Ljava/lang/Object;)Ljava/lang/Object;" } : Jvm.MethodName) jdk_31_method_10_code (1 : Nat) (Option.some (Jvm.ClassFile.FieldType.object "java/lang/Object"))).before args0 about1 = true := code_word (m := ⟨10, 1⟩) (meth := k10m1) (c := k10c1) (by decide +kernel) rfl rfl rfl (by decide +kernel)
set_option maxRecDepth 65536 in
theorem w_c10 : (Jvm.Cond.code ({ cls := "com/example/tallyline/tallyline/core/FieldError", name := "toString", desc := "()Ljava/lang/String;" } : Jvm.MethodName) prog_7_method_4_code (1 : Nat) (Option.some (Jvm.ClassFile.FieldType.object "java/lang/String"))).before args0 about1 = true := code_word (m := ⟨9, 1⟩) (meth := k9m1) (c := k9c1) (by decide +kernel) rfl rfl rfl (by decide +kernel)
set_option maxRecDepth 65536 in
theorem w_c11 : (Jvm.Cond.code ({ cls := "java/lang/StringBuilder", name := "<init>", desc := "()V" } : Jvm.MethodName) jdk_67_method_1_code (1 : Nat) (Option.none : Option Jvm.ClassFile.FieldType)).before args0 about1 = true := code_word (m := ⟨13, 0⟩) (meth := k13m0) (c := k13c0) (by decide +kernel) rfl rfl rfl (by decide +kernel)
set_option maxRecDepth 65536 in
theorem w_c12 : (Jvm.Cond.code ({ cls := "java/lang/AbstractStringBuilder", name := "<init>", desc := "(I)V" } : Jvm.MethodName) jdk_68_method_2_code (2 : Nat) (Option.none : Option Jvm.ClassFile.FieldType)).before args0 about1 = true := code_word (m := ⟨12, 1⟩) (meth := k12m1) (c := k12c1) (by decide +kernel) rfl rfl rfl (by decide +kernel)
set_option maxRecDepth 65536 in
theorem w_c13 : (Jvm.Cond.code ({ cls := "java/lang/StringBuilder", name := "append", desc := "(Ljava/lang/String;)Ljava/lang/StringBuilder;" } : Jvm.MethodName) jdk_67_method_7_code (2 : Nat) (Option.some (Jvm.ClassFile.FieldType.object "java/lang/StringBuilder"))).before args0 about1 = true := code_word (m := ⟨13, 1⟩) (meth := k13m1) (c := k13c1) (by decide +kernel) rfl rfl rfl (by decide +kernel)
set_option maxRecDepth 65536 in
theorem w_c14 : (Jvm.Cond.code ({ cls := "java/lang/AbstractStringBuilder", name := "append", desc := "(Ljava/lang/String;)Ljava/lang/AbstractStringBuilder;" } : Jvm.MethodName) jdk_68_method_22_code (3 : Nat) (Option.some (Jvm.ClassFile.FieldType.object "java/lang/AbstractStringBuilder"))).before args0 about1 = true := code_word (m := ⟨12, 5⟩) (meth := k12m5) (c := k12c5) (by decide +kernel) rfl rfl rfl (by decide +kernel)
set_option maxRecDepth 65536 in
theorem w_c15 : (Jvm.Cond.code ({ cls := "java/lang/String", name := "length", desc := "()I" } : Jvm.MethodName) jdk_42_method_54_code (1 : Nat) (Option.some Jvm.ClassFile.FieldType.int)).before args0 about1 = true := code_word (m := ⟨7, 3⟩) (meth := k7m3) (c := k7c3) (by decide +kernel) rfl rfl rfl (by decide +kernel)
set_option maxRecDepth 65536 in
theorem w_c16 : (Jvm.Cond.code ({ cls := "java/lang/String", name := "coder", desc := "()B" } : Jvm.MethodName) jdk_42_method_152_code (1 : Nat) (Option.some Jvm.ClassFile.FieldType.byte)).before args0 about1 = true := code_word (m := ⟨7, 10⟩) (meth := k7m10) (c := k7c10) (by decide +kernel) rfl rfl rfl (by decide +kernel)
set_option maxRecDepth 65536 in
theorem w_c17 : (Jvm.Cond.code ({ cls := "java/lang/AbstractStringBuilder", name := "ensureCapacityInternal", desc := "(I)V" } : Jvm.MethodName) jdk_68_method_9_code (3 : Nat) (Option.none : Option Jvm.ClassFile.FieldType)).before args0 about1 = true := code_word (m := ⟨12, 3⟩) (meth := k12m3) (c := k12c3) (by decide +kernel) rfl rfl rfl (by decide +kernel)
set_option maxRecDepth 65536 in
theorem w_c18 : (Jvm.Cond.code ({ cls := "java/lang/AbstractStringBuilder", name := "putStringAt", desc := "(ILjava/lang/String;)V" } : Jvm.MethodName) jdk_68_method_73_code (3 : Nat) (Option.none : Option Jvm.ClassFile.FieldType)).before args0 about1 = true := code_word (m := ⟨12, 9⟩) (meth := k12m9) (c := k12c9) (by decide +kernel) rfl rfl rfl (by decide +kernel)
set_option maxRecDepth 65536 in
theorem w_c19 : (Jvm.Cond.code ({ cls := "java/lang/AbstractStringBuilder", name := "inflateIfNeededFor", desc := "(Ljava/lang/String;)V" } : Jvm.MethodName) jdk_68_method_71_code (2 : Nat) (Option.none : Option Jvm.ClassFile.FieldType)).before args0 about1 = true := code_word (m := ⟨12, 8⟩) (meth := k12m8) (c := k12c8) (by decide +kernel) rfl rfl rfl (by decide +kernel)
set_option maxRecDepth 65536 in
theorem w_c20 : (Jvm.Cond.code ({ cls := "java/lang/String", name := "getBytes", desc := "([BIB)V" } : Jvm.MethodName) jdk_42_method_147_code (4 : Nat) (Option.none : Option Jvm.ClassFile.FieldType)).before args0 about1 = true := code_word (m := ⟨7, 6⟩) (meth := k7m6) (c := k7c6) (by decide +kernel) rfl rfl rfl (by decide +kernel)
set_option maxRecDepth 65536 in
theorem w_c21 : (Jvm.Cond.code ({ cls := "java/lang/StringBuilder", name := "toString", desc := "()Ljava/lang/String;" } : Jvm.MethodName) jdk_67_method_42_code (1 : Nat) (Option.some (Jvm.ClassFile.FieldType.object "java/lang/String"))).before args0 about1 = true := code_word (m := ⟨13, 2⟩) (meth := k13m2) (c := k13c2) (by decide +kernel) rfl rfl rfl (by decide +kernel)
set_option maxRecDepth 65536 in
theorem w_c22 : (Jvm.Cond.code ({ cls := "java/lang/String", name := "<init>", desc := "(Ljava/lang/StringBuilder;)V" } : Jvm.MethodName) jdk_42_method_53_code (2 : Nat) (Option.none : Option Jvm.ClassFile.FieldType)).before args0 about1 = true := code_word (m := ⟨7, 2⟩) (meth := k7m2) (c := k7c2) (by decide +kernel) rfl rfl rfl (by decide +kernel)
set_option maxRecDepth 65536 in
theorem w_c23 : (Jvm.Cond.code ({ cls := "java/lang/String", name := "<init>", desc := "(Ljava/lang/AbstractStringBuilder;Ljava/lang/Void;)V" } : Jvm.MethodName) jdk_42_method_150_code (5 : Nat) (Option.none : Option Jvm.ClassFile.FieldType)).before args0 about1 = true := code_word (m := ⟨7, 8⟩) (meth := k7m8) (c := k7c8) (by decide +kernel) rfl rfl rfl (by decide +kernel)
set_option maxRecDepth 65536 in
theorem w_c24 : (Jvm.Cond.code ({ cls := "java/lang/AbstractStringBuilder", name := "getValue", desc := "()[B" } : Jvm.MethodName) jdk_68_method_64_code (1 : Nat) (Option.some (Jvm.ClassFile.FieldType.array Jvm.ClassFile.FieldType.byte))).before args0 about1 = true := code_word (m := ⟨12, 6⟩) (meth := k12m6) (c := k12c6) (by decide +kernel) rfl rfl rfl (by decide +kernel)
set_option maxRecDepth 65536 in
theorem w_c25 : (Jvm.Cond.code ({ cls := "java/lang/StringBuilder", name := "length", desc := "()I" } : Jvm.MethodName) jdk_67_method_93_code (1 : Nat) (Option.some Jvm.ClassFile.FieldType.int)).before args0 about1 = true := code_word (m := ⟨13, 3⟩) (meth := k13m3) (c := k13c3) (by decide +kernel) rfl rfl rfl (by decide +kernel)
set_option maxRecDepth 65536 in
theorem w_c26 : (Jvm.Cond.code ({ cls := "java/lang/AbstractStringBuilder", name := "length", desc := "()I" } : Jvm.MethodName) jdk_68_method_6_code (1 : Nat) (Option.some Jvm.ClassFile.FieldType.int)).before args0 about1 = true := code_word (m := ⟨12, 2⟩) (meth := k12m2) (c := k12c2) (by decide +kernel) rfl rfl rfl (by decide +kernel)
set_option maxRecDepth 65536 in
theorem w_c27 : (Jvm.Cond.code ({ cls := "java/lang/AbstractStringBuilder", name := "isLatin1", desc := "()Z" } : Jvm.MethodName) jdk_68_method_68_code (1 : Nat) (Option.some Jvm.ClassFile.FieldType.boolean)).before args0 about1 = true := code_word (m := ⟨12, 7⟩) (meth := k12m7) (c := k12c7) (by decide +kernel) rfl rfl rfl (by decide +kernel)
set_option maxRecDepth 65536 in
theorem w_c28 : (Jvm.Cond.code ({ cls := "java/util/Arrays", name := "copyOfRange", desc := "([BII)[B" } : Jvm.MethodName) jdk_65_method_132_code (3 : Nat) (Option.some (Jvm.ClassFile.FieldType.array Jvm.ClassFile.FieldType.byte))).before args0 about1 = true := code_word (m := ⟨15, 2⟩) (meth := k15m2) (c := k15c2) (by decide +kernel) rfl rfl rfl (by decide +kernel)
set_option maxRecDepth 65536 in
theorem w_c29 : (Jvm.Cond.code ({ cls := "java/util/Arrays", name := "copyOfRangeByte", desc := "([BII)[B" } : Jvm.MethodName) jdk_65_method_133_code (5 : Nat) (Option.some (Jvm.ClassFile.FieldType.array Jvm.ClassFile.FieldType.byte))).before args0 about1 = true := code_word (m := ⟨15, 3⟩) (meth := k15m3) (c := k15c3) (by decide +kernel) rfl rfl rfl (by decide +kernel)
set_option maxRecDepth 65536 in
theorem w_c30 : (Jvm.Cond.code ({ cls := "java/util/Arrays", name := "checkLength", desc := "(II)V" } : Jvm.MethodName) jdk_65_method_131_code (2 : Nat) (Option.none : Option Jvm.ClassFile.FieldType)).before args0 about1 = true := code_word (m := ⟨15, 1⟩) (meth := k15m1) (c := k15c1) (by decide +kernel) rfl rfl rfl (by decide +kernel)
set_option maxRecDepth 65536 in
theorem w_c31 : (Jvm.Cond.code ({ cls := "java/lang/Math", name := "min", desc := "(II)I" } : Jvm.MethodName) jdk_29_method_69_code (2 : Nat) (Option.some Jvm.ClassFile.FieldType.int)).before args0 about1 = true := code_word (m := ⟨16, 1⟩) (meth := k16m1) (c := k16c1) (by decide +kernel) rfl rfl rfl (by decide +kernel)
set_option maxRecDepth 65536 in
theorem w_c32 : (Jvm.Cond.code ({ cls := "com/example/tallyline/tallyline/core/FieldErrorToStringPinLaw", name := "ok", desc := "(Ljava/lang/String;IIICCCC)Z" } : Jvm.MethodName) method_5_code (8 : Nat) (Option.some Jvm.ClassFile.FieldType.boolean)).before args0 about1 = true := code_word (m := ⟨1, 4⟩) (meth := k1m4) (c := k1c4) (by decide +kernel) rfl rfl rfl (by decide +kernel)
set_option maxRecDepth 65536 in
theorem w_c33 : (Jvm.Cond.code ({ cls := "java/lang/String", name := "charAt", desc := "(I)C" } : Jvm.MethodName) jdk_42_method_56_code (2 : Nat) (Option.some Jvm.ClassFile.FieldType.char)).before args0 about1 = true := code_word (m := ⟨7, 4⟩) (meth := k7m4) (c := k7c4) (by decide +kernel) rfl rfl rfl (by decide +kernel)
set_option maxRecDepth 65536 in
theorem w_c34 : (Jvm.Cond.code ({ cls := "java/lang/String", name := "isLatin1", desc := "()Z" } : Jvm.MethodName) jdk_42_method_154_code (1 : Nat) (Option.some Jvm.ClassFile.FieldType.boolean)).before args0 about1 = true := code_word (m := ⟨7, 11⟩) (meth := k7m11) (c := k7c11) (by decide +kernel) rfl rfl rfl (by decide +kernel)
set_option maxRecDepth 65536 in
theorem w_c35 : (Jvm.Cond.code ({ cls := "java/lang/StringLatin1", name := "charAt", desc := "([BI)C" } : Jvm.MethodName) jdk_43_method_2_code (2 : Nat) (Option.some Jvm.ClassFile.FieldType.char)).before args0 about1 = true := code_word (m := ⟨17, 1⟩) (meth := k17m1) (c := k17c1) (by decide +kernel) rfl rfl rfl (by decide +kernel)
set_option maxRecDepth 65536 in
theorem w_c36 : (Jvm.Cond.code ({ cls := "java/lang/String", name := "checkIndex", desc := "(II)V" } : Jvm.MethodName) jdk_42_method_155_code (2 : Nat) (Option.none : Option Jvm.ClassFile.FieldType)).before args0 about1 = true := code_word (m := ⟨7, 12⟩) (meth := k7m12) (c := k7c12) (by decide +kernel) rfl rfl rfl (by decide +kernel)
set_option maxRecDepth 65536 in
theorem w_c37 : (Jvm.Cond.code ({ cls := "jdk/internal/util/Preconditions", name := "checkIndex", desc := "(IILjava/util/function/BiFunction;)I" } : Jvm.MethodName) jdk_41_method_11_code (3 : Nat) (Option.some Jvm.ClassFile.FieldType.int)).before args0 about1 = true := code_word (m := ⟨18, 1⟩) (meth := k18m1) (c := k18c1) (by decide +kernel) rfl rfl rfl (by decide +kernel)
set_option maxRecDepth 65536 in
theorem w_c38 : (Jvm.Cond.code ({ cls := "com/example/tallyline/tallyline/core/FieldErrorToStringPinLaw", name := "expect", desc := "(IICCCC)C" } : Jvm.MethodName) method_4_code (7 : Nat) (Option.some Jvm.ClassFile.FieldType.char)).before args0 about1 = true := code_word (m := ⟨1, 3⟩) (meth := k1m3) (c := k1c3) (by decide +kernel) rfl rfl rfl (by decide +kernel)
set_option maxRecDepth 65536 in
theorem w_c39 : (Jvm.Cond.code ({ cls := "java/lang/String", name := "valueOf", desc := "(C)Ljava/lang/String;" } : Jvm.MethodName) jdk_42_method_139_code (1 : Nat) (Option.some (Jvm.ClassFile.FieldType.object "java/lang/String"))).before args0 about1 = true := code_word (m := ⟨7, 5⟩) (meth := k7m5) (c := k7c5) (by decide +kernel) rfl rfl rfl (by decide +kernel)
set_option maxRecDepth 65536 in
theorem w_c40 : (Jvm.Cond.code ({ cls := "java/lang/StringLatin1", name := "canEncode", desc := "(C)Z" } : Jvm.MethodName) jdk_43_method_3_code (1 : Nat) (Option.some Jvm.ClassFile.FieldType.boolean)).before args0 about1 = true := code_word (m := ⟨17, 2⟩) (meth := k17m2) (c := k17c2) (by decide +kernel) rfl rfl rfl (by decide +kernel)
set_option maxRecDepth 65536 in
theorem w_c41 : (Jvm.Cond.code ({ cls := "java/lang/StringLatin1", name := "toBytes", desc := "(C)[B" } : Jvm.MethodName) jdk_43_method_46_code (1 : Nat) (Option.some (Jvm.ClassFile.FieldType.array Jvm.ClassFile.FieldType.byte))).before args0 about1 = true := code_word (m := ⟨17, 3⟩) (meth := k17m3) (c := k17c3) (by decide +kernel) rfl rfl rfl (by decide +kernel)
set_option maxRecDepth 65536 in
theorem w_c42 : (Jvm.Cond.code ({ cls := "java/lang/String", name := "<init>", desc := "([BB)V" } : Jvm.MethodName) jdk_42_method_151_code (3 : Nat) (Option.none : Option Jvm.ClassFile.FieldType)).before args0 about1 = true := code_word (m := ⟨7, 9⟩) (meth := k7m9) (c := k7c9) (by decide +kernel) rfl rfl rfl (by decide +kernel)
set_option maxRecDepth 65536 in
theorem w_c43 : (Jvm.Cond.code ({ cls := "java/lang/StringUTF16", name := "toBytes", desc := "(C)[B" } : Jvm.MethodName) jdk_52_method_24_code (2 : Nat) (Option.some (Jvm.ClassFile.FieldType.array Jvm.ClassFile.FieldType.byte))).before args0 about1 = true := code_word (m := ⟨8, 10⟩) (meth := k8m10) (c := k8c10) (by decide +kernel) rfl rfl rfl (by decide +kernel)
set_option maxRecDepth 65536 in
theorem w_c44 : (Jvm.Cond.code ({ cls := "java/lang/StringUTF16", name := "putChar", desc := "([BII)V" } : Jvm.MethodName) jdk_52_method_4_code (3 : Nat) (Option.none : Option Jvm.ClassFile.FieldType)).before args0 about1 = true := code_word (m := ⟨8, 3⟩) (meth := k8m3) (c := k8c3) (by decide +kernel) rfl rfl rfl (by decide +kernel)
set_option maxRecDepth 65536 in
theorem w_c45 : (Jvm.Cond.code ({ cls := "java/lang/AbstractStringBuilder", name := "inflate", desc := "()V" } : Jvm.MethodName) jdk_68_method_11_code (2 : Nat) (Option.none : Option Jvm.ClassFile.FieldType)).before args0 about1 = true := code_word (m := ⟨12, 4⟩) (meth := k12m4) (c := k12c4) (by decide +kernel) rfl rfl rfl (by decide +kernel)
set_option maxRecDepth 65536 in
theorem w_c46 : (Jvm.Cond.code ({ cls := "java/lang/StringUTF16", name := "newBytesFor", desc := "(I)[B" } : Jvm.MethodName) jdk_52_method_2_code (1 : Nat) (Option.some (Jvm.ClassFile.FieldType.array Jvm.ClassFile.FieldType.byte))).before args0 about1 = true := code_word (m := ⟨8, 1⟩) (meth := k8m1) (c := k8c1) (by decide +kernel) rfl rfl rfl (by decide +kernel)
set_option maxRecDepth 65536 in
theorem w_c47 : (Jvm.Cond.code ({ cls := "java/lang/StringUTF16", name := "newBytesLength", desc := "(I)I" } : Jvm.MethodName) jdk_52_method_3_code (1 : Nat) (Option.some Jvm.ClassFile.FieldType.int)).before args0 about1 = true := code_word (m := ⟨8, 2⟩) (meth := k8m2) (c := k8c2) (by decide +kernel) rfl rfl rfl (by decide +kernel)
set_option maxRecDepth 65536 in
theorem w_c48 : (Jvm.Cond.code ({ cls := "java/lang/StringLatin1", name := "inflate", desc := "([BI[BII)V" } : Jvm.MethodName) jdk_43_method_50_code (5 : Nat) (Option.none : Option Jvm.ClassFile.FieldType)).before args0 about1 = true := code_word (m := ⟨17, 4⟩) (meth := k17m4) (c := k17c4) (by decide +kernel) rfl rfl rfl (by decide +kernel)
set_option maxRecDepth 65536 in
theorem w_c49 : (Jvm.Cond.code ({ cls := "java/lang/StringUTF16", name := "inflate", desc := "([BI[BII)V" } : Jvm.MethodName) jdk_52_method_86_code (6 : Nat) (Option.none : Option Jvm.ClassFile.FieldType)).before args0 about1 = true := code_word (m := ⟨8, 12⟩) (meth := k8m12) (c := k8c12) (by decide +kernel) rfl rfl rfl (by decide +kernel)
set_option maxRecDepth 65536 in
theorem w_c50 : (Jvm.Cond.code ({ cls := "java/lang/StringUTF16", name := "checkBoundsOffCount", desc := "(II[B)V" } : Jvm.MethodName) jdk_52_method_94_code (3 : Nat) (Option.none : Option Jvm.ClassFile.FieldType)).before args0 about1 = true := code_word (m := ⟨8, 14⟩) (meth := k8m14) (c := k8c14) (by decide +kernel) rfl rfl rfl (by decide +kernel)
set_option maxRecDepth 65536 in
theorem w_c51 : (Jvm.Cond.code ({ cls := "java/lang/StringUTF16", name := "length", desc := "([B)I" } : Jvm.MethodName) jdk_52_method_6_code (1 : Nat) (Option.some Jvm.ClassFile.FieldType.int)).before args0 about1 = true := code_word (m := ⟨8, 5⟩) (meth := k8m5) (c := k8c5) (by decide +kernel) rfl rfl rfl (by decide +kernel)
set_option maxRecDepth 65536 in
theorem w_c52 : (Jvm.Cond.code ({ cls := "java/lang/String", name := "checkBoundsOffCount", desc := "(III)I" } : Jvm.MethodName) jdk_42_method_157_code (3 : Nat) (Option.some Jvm.ClassFile.FieldType.int)).before args0 about1 = true := code_word (m := ⟨7, 13⟩) (meth := k7m13) (c := k7c13) (by decide +kernel) rfl rfl rfl (by decide +kernel)
set_option maxRecDepth 65536 in
theorem w_c53 : (Jvm.Cond.code ({ cls := "jdk/internal/util/Preconditions", name := "checkFromIndexSize", desc := "(IIILjava/util/function/BiFunction;)I" } : Jvm.MethodName) jdk_41_method_13_code (4 : Nat) (Option.some Jvm.ClassFile.FieldType.int)).before args0 about1 = true := code_word (m := ⟨18, 2⟩) (meth := k18m2) (c := k18c2) (by decide +kernel) rfl rfl rfl (by decide +kernel)
set_option maxRecDepth 65536 in
theorem w_c54 : (Jvm.Cond.code ({ cls := "java/lang/StringUTF16", name := "charAt", desc := "([BI)C" } : Jvm.MethodName) jdk_52_method_83_code (2 : Nat) (Option.some Jvm.ClassFile.FieldType.char)).before args0 about1 = true := code_word (m := ⟨8, 11⟩) (meth := k8m11) (c := k8c11) (by decide +kernel) rfl rfl rfl (by decide +kernel)
set_option maxRecDepth 65536 in
theorem w_c55 : (Jvm.Cond.code ({ cls := "java/lang/StringUTF16", name := "checkIndex", desc := "(I[B)V" } : Jvm.MethodName) jdk_52_method_91_code (2 : Nat) (Option.none : Option Jvm.ClassFile.FieldType)).before args0 about1 = true := code_word (m := ⟨8, 13⟩) (meth := k8m13) (c := k8c13) (by decide +kernel) rfl rfl rfl (by decide +kernel)
set_option maxRecDepth 65536 in
theorem w_c56 : (Jvm.Cond.code ({ cls := "java/lang/StringUTF16", name := "getChar", desc := "([BI)C" } : Jvm.MethodName) jdk_52_method_5_code (2 : Nat) (Option.some Jvm.ClassFile.FieldType.char)).before args0 about1 = true := code_word (m := ⟨8, 4⟩) (meth := k8m4) (c := k8c4) (by decide +kernel) rfl rfl rfl (by decide +kernel)
set_option maxRecDepth 65536 in
theorem w_c57 : (Jvm.Cond.code ({ cls := "java/lang/StringUTF16", name := "toBytes", desc := "([CII)[B" } : Jvm.MethodName) jdk_52_method_14_code (5 : Nat) (Option.some (Jvm.ClassFile.FieldType.array Jvm.ClassFile.FieldType.byte))).before args0 about1 = true := code_word (m := ⟨8, 6⟩) (meth := k8m6) (c := k8c6) (by decide +kernel) rfl rfl rfl (by decide +kernel)
def codes1 : List Jvm.Cond := [Jvm.Cond.code x code maxLocals ret, Jvm.Cond.code ({ cls := "com/example/tallyline/tallyline/core/FieldErrorToStringPinLaw", name := "make", desc := "(ICC)Ljava/lang/String;" } : Jvm.MethodName) method_3_code (3 : Nat) (Option.some (Jvm.ClassFile.FieldType.object "java/lang/String")), Jvm.Cond.code ({ cls := "java/lang/String", name := "<init>", desc := "([C)V" } : Jvm.MethodName) jdk_42_method_3_code (2 : Nat) (Option.none : Option Jvm.ClassFile.FieldType), Jvm.Cond.code ({ cls := "java/lang/String", name := "<init>", desc := "([CIILjava/lang/Void;)V" } : Jvm.MethodName) jdk_42_method_149_code (6 : Nat) (Option.none : Option Jvm.ClassFile.FieldType), Jvm.Cond.code ({ cls := "java/lang/Object", name := "<init>", desc := "()V" } : Jvm.MethodName) object_method_1_code (1 : Nat) (Option.none : Option Jvm.ClassFile.FieldType), Jvm.Cond.code ({ cls := "java/lang/StringUTF16", name := "compress", desc := "([CII)[B" } : Jvm.MethodName) jdk_52_method_16_code (6 : Nat) (Option.some (Jvm.ClassFile.FieldType.array Jvm.ClassFile.FieldType.byte)), Jvm.Cond.code ({ cls := "java/lang/StringUTF16", name := "compress", desc := "([CI[BII)I" } : Jvm.MethodName) jdk_52_method_21_code (7 : Nat) (Option.some Jvm.ClassFile.FieldType.int), Jvm.Cond.code ({ cls := "java/lang/StringUTF16", name := "coderFromArrayLen", desc := "([BI)B" } : Jvm.MethodName) jdk_52_method_15_code (2 : Nat) (Option.some Jvm.ClassFile.FieldType.byte), Jvm.Cond.code ({ cls := "com/example/tallyline/tallyline/core/FieldError", name := "<init>", desc := "(Ljava/lang/String;Ljava/lang/String;)V" } : Jvm.MethodName) prog_7_method_1_code (3 : Nat) (Option.none : Option Jvm.ClassFile.FieldType), Jvm.Cond.code ({ cls := "java/util/Objects", name := "requireNonNull", desc := "(Ljava/lang/Object;)Ljava/lang/Object;" } : Jvm.MethodName) jdk_31_method_10_code (1 : Nat) (Option.some (Jvm.ClassFile.FieldType.object "java/lang/Object")), Jvm.Cond.code ({ cls := "com/example/tallyline/tallyline/core/FieldError", name := "toString", desc := "()Ljava/lang/String;" } : Jvm.MethodName) prog_7_method_4_code (1 : Nat) (Option.some (Jvm.ClassFile.FieldType.object "java/lang/String")), Jvm.Cond.code ({ cls := "java/lang/StringBuilder", name := "<init>", desc := "()V" } : Jvm.MethodName) jdk_67_method_1_code (1 : Nat) (Option.none : Option Jvm.ClassFile.FieldType), Jvm.Cond.code ({ cls := "java/lang/AbstractStringBuilder", name := "<init>", desc := "(I)V" } : Jvm.MethodName) jdk_68_method_2_code (2 : Nat) (Option.none : Option Jvm.ClassFile.FieldType), Jvm.Cond.code ({ cls := "java/lang/StringBuilder", name := "append", desc := "(Ljava/lang/String;)Ljava/lang/StringBuilder;" } : Jvm.MethodName) jdk_67_method_7_code (2 : Nat) (Option.some (Jvm.ClassFile.FieldType.object "java/lang/StringBuilder")), Jvm.Cond.code ({ cls := "java/lang/AbstractStringBuilder", name := "append", desc := "(Ljava/lang/String;)Ljava/lang/AbstractStringBuilder;" } : Jvm.MethodName) jdk_68_method_22_code (3 : Nat) (Option.some (Jvm.ClassFile.FieldType.object "java/lang/AbstractStringBuilder")), Jvm.Cond.code ({ cls := "java/lang/String", name := "length", desc := "()I" } : Jvm.MethodName) jdk_42_method_54_code (1 : Nat) (Option.some Jvm.ClassFile.FieldType.int), Jvm.Cond.code ({ cls := "java/lang/String", name := "coder", desc := "()B" } : Jvm.MethodName) jdk_42_method_152_code (1 : Nat) (Option.some Jvm.ClassFile.FieldType.byte), Jvm.Cond.code ({ cls := "java/lang/AbstractStringBuilder", name := "ensureCapacityInternal", desc := "(I)V" } : Jvm.MethodName) jdk_68_method_9_code (3 : Nat) (Option.none : Option Jvm.ClassFile.FieldType), Jvm.Cond.code ({ cls := "java/lang/AbstractStringBuilder", name := "putStringAt", desc := "(ILjava/lang/String;)V" } : Jvm.MethodName) jdk_68_method_73_code (3 : Nat) (Option.none : Option Jvm.ClassFile.FieldType), Jvm.Cond.code ({ cls := "java/lang/AbstractStringBuilder", name := "inflateIfNeededFor", desc := "(Ljava/lang/String;)V" } : Jvm.MethodName) jdk_68_method_71_code (2 : Nat) (Option.none : Option Jvm.ClassFile.FieldType), Jvm.Cond.code ({ cls := "java/lang/String", name := "getBytes", desc := "([BIB)V" } : Jvm.MethodName) jdk_42_method_147_code (4 : Nat) (Option.none : Option Jvm.ClassFile.FieldType), Jvm.Cond.code ({ cls := "java/lang/StringBuilder", name := "toString", desc := "()Ljava/lang/String;" } : Jvm.MethodName) jdk_67_method_42_code (1 : Nat) (Option.some (Jvm.ClassFile.FieldType.object "java/lang/String")), Jvm.Cond.code ({ cls := "java/lang/String", name := "<init>", desc := "(Ljava/lang/StringBuilder;)V" } : Jvm.MethodName) jdk_42_method_53_code (2 : Nat) (Option.none : Option Jvm.ClassFile.FieldType), Jvm.Cond.code ({ cls := "java/lang/String", name := "<init>", desc := "(Ljava/lang/AbstractStringBuilder;Ljava/lang/Void;)V" } : Jvm.MethodName) jdk_42_method_150_code (5 : Nat) (Option.none : Option Jvm.ClassFile.FieldType), Jvm.Cond.code ({ cls := "java/lang/AbstractStringBuilder", name := "getValue", desc := "()[B" } : Jvm.MethodName) jdk_68_method_64_code (1 : Nat) (Option.some (Jvm.ClassFile.FieldType.array Jvm.ClassFile.FieldType.byte)), Jvm.Cond.code ({ cls := "java/lang/StringBuilder", name := "length", desc := "()I" } : Jvm.MethodName) jdk_67_method_93_code (1 : Nat) (Option.some Jvm.ClassFile.FieldType.int), Jvm.Cond.code ({ cls := "java/lang/AbstractStringBuilder", name := "length", desc := "()I" } : Jvm.MethodName) jdk_68_method_6_code (1 : Nat) (Option.some Jvm.ClassFile.FieldType.int), Jvm.Cond.code ({ cls := "java/lang/AbstractStringBuilder", name := "isLatin1", desc := "()Z" } : Jvm.MethodName) jdk_68_method_68_code (1 : Nat) (Option.some Jvm.ClassFile.FieldType.boolean), Jvm.Cond.code ({ cls := "java/util/Arrays", name := "copyOfRange", desc := "([BII)[B" } : Jvm.MethodName) jdk_65_method_132_code (3 : Nat) (Option.some (Jvm.ClassFile.FieldType.array Jvm.ClassFile.FieldType.byte)), Jvm.Cond.code ({ cls := "java/util/Arrays", name := "copyOfRangeByte", desc := "([BII)[B" } : Jvm.MethodName) jdk_65_method_133_code (5 : Nat) (Option.some (Jvm.ClassFile.FieldType.array Jvm.ClassFile.FieldType.byte)), Jvm.Cond.code ({ cls := "java/util/Arrays", name := "checkLength", desc := "(II)V" } : Jvm.MethodName) jdk_65_method_131_code (2 : Nat) (Option.none : Option Jvm.ClassFile.FieldType), Jvm.Cond.code ({ cls := "java/lang/Math", name := "min", desc := "(II)I" } : Jvm.MethodName) jdk_29_method_69_code (2 : Nat) (Option.some Jvm.ClassFile.FieldType.int), Jvm.Cond.code ({ cls := "com/example/tallyline/tallyline/core/FieldErrorToStringPinLaw", name := "ok", desc := "(Ljava/lang/String;IIICCCC)Z" } : Jvm.MethodName) method_5_code (8 : Nat) (Option.some Jvm.ClassFile.FieldType.boolean), Jvm.Cond.code ({ cls := "java/lang/String", name := "charAt", desc := "(I)C" } : Jvm.MethodName) jdk_42_method_56_code (2 : Nat) (Option.some Jvm.ClassFile.FieldType.char), Jvm.Cond.code ({ cls := "java/lang/String", name := "isLatin1", desc := "()Z" } : Jvm.MethodName) jdk_42_method_154_code (1 : Nat) (Option.some Jvm.ClassFile.FieldType.boolean), Jvm.Cond.code ({ cls := "java/lang/StringLatin1", name := "charAt", desc := "([BI)C" } : Jvm.MethodName) jdk_43_method_2_code (2 : Nat) (Option.some Jvm.ClassFile.FieldType.char), Jvm.Cond.code ({ cls := "java/lang/String", name := "checkIndex", desc := "(II)V" } : Jvm.MethodName) jdk_42_method_155_code (2 : Nat) (Option.none : Option Jvm.ClassFile.FieldType), Jvm.Cond.code ({ cls := "jdk/internal/util/Preconditions", name := "checkIndex", desc := "(IILjava/util/function/BiFunction;)I" } : Jvm.MethodName) jdk_41_method_11_code (3 : Nat) (Option.some Jvm.ClassFile.FieldType.int), Jvm.Cond.code ({ cls := "com/example/tallyline/tallyline/core/FieldErrorToStringPinLaw", name := "expect", desc := "(IICCCC)C" } : Jvm.MethodName) method_4_code (7 : Nat) (Option.some Jvm.ClassFile.FieldType.char), Jvm.Cond.code ({ cls := "java/lang/String", name := "valueOf", desc := "(C)Ljava/lang/String;" } : Jvm.MethodName) jdk_42_method_139_code (1 : Nat) (Option.some (Jvm.ClassFile.FieldType.object "java/lang/String")), Jvm.Cond.code ({ cls := "java/lang/StringLatin1", name := "canEncode", desc := "(C)Z" } : Jvm.MethodName) jdk_43_method_3_code (1 : Nat) (Option.some Jvm.ClassFile.FieldType.boolean), Jvm.Cond.code ({ cls := "java/lang/StringLatin1", name := "toBytes", desc := "(C)[B" } : Jvm.MethodName) jdk_43_method_46_code (1 : Nat) (Option.some (Jvm.ClassFile.FieldType.array Jvm.ClassFile.FieldType.byte)), Jvm.Cond.code ({ cls := "java/lang/String", name := "<init>", desc := "([BB)V" } : Jvm.MethodName) jdk_42_method_151_code (3 : Nat) (Option.none : Option Jvm.ClassFile.FieldType), Jvm.Cond.code ({ cls := "java/lang/StringUTF16", name := "toBytes", desc := "(C)[B" } : Jvm.MethodName) jdk_52_method_24_code (2 : Nat) (Option.some (Jvm.ClassFile.FieldType.array Jvm.ClassFile.FieldType.byte)), Jvm.Cond.code ({ cls := "java/lang/StringUTF16", name := "putChar", desc := "([BII)V" } : Jvm.MethodName) jdk_52_method_4_code (3 : Nat) (Option.none : Option Jvm.ClassFile.FieldType), Jvm.Cond.code ({ cls := "java/lang/AbstractStringBuilder", name := "inflate", desc := "()V" } : Jvm.MethodName) jdk_68_method_11_code (2 : Nat) (Option.none : Option Jvm.ClassFile.FieldType), Jvm.Cond.code ({ cls := "java/lang/StringUTF16", name := "newBytesFor", desc := "(I)[B" } : Jvm.MethodName) jdk_52_method_2_code (1 : Nat) (Option.some (Jvm.ClassFile.FieldType.array Jvm.ClassFile.FieldType.byte)), Jvm.Cond.code ({ cls := "java/lang/StringUTF16", name := "newBytesLength", desc := "(I)I" } : Jvm.MethodName) jdk_52_method_3_code (1 : Nat) (Option.some Jvm.ClassFile.FieldType.int), Jvm.Cond.code ({ cls := "java/lang/StringLatin1", name := "inflate", desc := "([BI[BII)V" } : Jvm.MethodName) jdk_43_method_50_code (5 : Nat) (Option.none : Option Jvm.ClassFile.FieldType), Jvm.Cond.code ({ cls := "java/lang/StringUTF16", name := "inflate", desc := "([BI[BII)V" } : Jvm.MethodName) jdk_52_method_86_code (6 : Nat) (Option.none : Option Jvm.ClassFile.FieldType), Jvm.Cond.code ({ cls := "java/lang/StringUTF16", name := "checkBoundsOffCount", desc := "(II[B)V" } : Jvm.MethodName) jdk_52_method_94_code (3 : Nat) (Option.none : Option Jvm.ClassFile.FieldType), Jvm.Cond.code ({ cls := "java/lang/StringUTF16", name := "length", desc := "([B)I" } : Jvm.MethodName) jdk_52_method_6_code (1 : Nat) (Option.some Jvm.ClassFile.FieldType.int), Jvm.Cond.code ({ cls := "java/lang/String", name := "checkBoundsOffCount", desc := "(III)I" } : Jvm.MethodName) jdk_42_method_157_code (3 : Nat) (Option.some Jvm.ClassFile.FieldType.int), Jvm.Cond.code ({ cls := "jdk/internal/util/Preconditions", name := "checkFromIndexSize", desc := "(IIILjava/util/function/BiFunction;)I" } : Jvm.MethodName) jdk_41_method_13_code (4 : Nat) (Option.some Jvm.ClassFile.FieldType.int), Jvm.Cond.code ({ cls := "java/lang/StringUTF16", name := "charAt", desc := "([BI)C" } : Jvm.MethodName) jdk_52_method_83_code (2 : Nat) (Option.some Jvm.ClassFile.FieldType.char), Jvm.Cond.code ({ cls := "java/lang/StringUTF16", name := "checkIndex", desc := "(I[B)V" } : Jvm.MethodName) jdk_52_method_91_code (2 : Nat) (Option.none : Option Jvm.ClassFile.FieldType), Jvm.Cond.code ({ cls := "java/lang/StringUTF16", name := "getChar", desc := "([BI)C" } : Jvm.MethodName) jdk_52_method_5_code (2 : Nat) (Option.some Jvm.ClassFile.FieldType.char), Jvm.Cond.code ({ cls := "java/lang/StringUTF16", name := "toBytes", desc := "([CII)[B" } : Jvm.MethodName) jdk_52_method_14_code (5 : Nat) (Option.some (Jvm.ClassFile.FieldType.array Jvm.ClassFile.FieldType.byte))]
set_option maxRecDepth 65536 in
theorem codes_eq : words1.filter isCode = codes1 := rfl
theorem w_codes : ∀ c ∈ words1.filter isCode, c.before args0 about1 = true := by
  rw [codes_eq]
  intro c hc
  simp only [codes1, List.mem_cons, List.not_mem_nil, or_false] at hc
  rcases hc with rfl | rfl | rfl | rfl | rfl | rfl | rfl | rfl | rfl | rfl | rfl | rfl | rfl | rfl | rfl | rfl | rfl | rfl | rfl | rfl | rfl | rfl | rfl | rfl | rfl | rfl | rfl | rfl | rfl | rfl | rfl | rfl | rfl | rfl | rfl | rfl | rfl | rfl | rfl | rfl | rfl | rfl | rfl | rfl | rfl | rfl | rfl | rfl | rfl | rfl | rfl | rfl | rfl | rfl | rfl | rfl | rfl | rfl
  · exact w_c0
  · exact w_c1
  · exact w_c2
  · exact w_c3
  · exact w_c4
  · exact w_c5
  · exact w_c6
  · exact w_c7
  · exact w_c8
  · exact w_c9
  · exact w_c10
  · exact w_c11
  · exact w_c12
  · exact w_c13
  · exact w_c14
  · exact w_c15
  · exact w_c16
  · exact w_c17
  · exact w_c18
  · exact w_c19
  · exact w_c20
  · exact w_c21
  · exact w_c22
  · exact w_c23
  · exact w_c24
  · exact w_c25
  · exact w_c26
  · exact w_c27
  · exact w_c28
  · exact w_c29
  · exact w_c30
  · exact w_c31
  · exact w_c32
  · exact w_c33
  · exact w_c34
  · exact w_c35
  · exact w_c36
  · exact w_c37
  · exact w_c38
  · exact w_c39
  · exact w_c40
  · exact w_c41
  · exact w_c42
  · exact w_c43
  · exact w_c44
  · exact w_c45
  · exact w_c46
  · exact w_c47
  · exact w_c48
  · exact w_c49
  · exact w_c50
  · exact w_c51
  · exact w_c52
  · exact w_c53
  · exact w_c54
  · exact w_c55
  · exact w_c56
  · exact w_c57
set_option maxRecDepth 65536 in
theorem w_t1 : (words1.take 24).all (fun c => isCode c || c.before args0 about1) = true := by decide +kernel
set_option maxRecDepth 65536 in
theorem w_t2 : ((words1.drop 24).take 24).all (fun c => isCode c || c.before args0 about1) = true := by decide +kernel
set_option maxRecDepth 65536 in
theorem w_t3 : (((words1.drop 24).drop 24).take 24).all (fun c => isCode c || c.before args0 about1) = true := by decide +kernel
set_option maxRecDepth 65536 in
theorem w_t4 : ((((words1.drop 24).drop 24).drop 24).take 24).all (fun c => isCode c || c.before args0 about1) = true := by decide +kernel
set_option maxRecDepth 65536 in
theorem w_t5 : (((((words1.drop 24).drop 24).drop 24).drop 24).take 24).all (fun c => isCode c || c.before args0 about1) = true := by decide +kernel
set_option maxRecDepth 65536 in
theorem w_t6 : ((((((words1.drop 24).drop 24).drop 24).drop 24).drop 24).take 24).all (fun c => isCode c || c.before args0 about1) = true := by decide +kernel
set_option maxRecDepth 65536 in
theorem w_t7 : (((((((words1.drop 24).drop 24).drop 24).drop 24).drop 24).drop 24).take 24).all (fun c => isCode c || c.before args0 about1) = true := by decide +kernel
set_option maxRecDepth 65536 in
theorem w_t8 : ((((((((words1.drop 24).drop 24).drop 24).drop 24).drop 24).drop 24).drop 24).take 24).all (fun c => isCode c || c.before args0 about1) = true := by decide +kernel
set_option maxRecDepth 65536 in
theorem w_t9 : (((((((((words1.drop 24).drop 24).drop 24).drop 24).drop 24).drop 24).drop 24).drop 24).take 24).all (fun c => isCode c || c.before args0 about1) = true := by decide +kernel
set_option maxRecDepth 65536 in
theorem w_t10 : ((((((((((words1.drop 24).drop 24).drop 24).drop 24).drop 24).drop 24).drop 24).drop 24).drop 24).take 24).all (fun c => isCode c || c.before args0 about1) = true := by decide +kernel
set_option maxRecDepth 65536 in
theorem w_t11 : (((((((((((words1.drop 24).drop 24).drop 24).drop 24).drop 24).drop 24).drop 24).drop 24).drop 24).drop 24).take 24).all (fun c => isCode c || c.before args0 about1) = true := by decide +kernel
set_option maxRecDepth 65536 in
theorem w_t12 : (((((((((((words1.drop 24).drop 24).drop 24).drop 24).drop 24).drop 24).drop 24).drop 24).drop 24).drop 24).drop 24).all (fun c => isCode c || c.before args0 about1) = true := by decide +kernel
theorem w_tables : (allAtoms (Jvm.Cond.code x code maxLocals ret :: tables_1)).before args0 about1 = true := by
  rw [allAtoms_all]
  show words1.all (fun c => c.before args0 about1) = true
  refine all_split ?_ w_codes
  rw [← List.take_append_drop 24 words1, List.all_append, w_t1, ← List.take_append_drop 24 (words1.drop 24), List.all_append, w_t2, ← List.take_append_drop 24 ((words1.drop 24).drop 24), List.all_append, w_t3, ← List.take_append_drop 24 (((words1.drop 24).drop 24).drop 24), List.all_append, w_t4, ← List.take_append_drop 24 ((((words1.drop 24).drop 24).drop 24).drop 24), List.all_append, w_t5, ← List.take_append_drop 24 (((((words1.drop 24).drop 24).drop 24).drop 24).drop 24), List.all_append, w_t6, ← List.take_append_drop 24 ((((((words1.drop 24).drop 24).drop 24).drop 24).drop 24).drop 24), List.all_append, w_t7, ← List.take_append_drop 24 (((((((words1.drop 24).drop 24).drop 24).drop 24).drop 24).drop 24).drop 24), List.all_append, w_t8, ← List.take_append_drop 24 ((((((((words1.drop 24).drop 24).drop 24).drop 24).drop 24).drop 24).drop 24).drop 24), List.all_append, w_t9, ← List.take_append_drop 24 (((((((((words1.drop 24).drop 24).drop 24).drop 24).drop 24).drop 24).drop 24).drop 24).drop 24), List.all_append, w_t10, ← List.take_append_drop 24 ((((((((((words1.drop 24).drop 24).drop 24).drop 24).drop 24).drop 24).drop 24).drop 24).drop 24).drop 24), List.all_append, w_t11, w_t12]
  rfl
set_option maxRecDepth 65536 in
theorem w_rest : rest_1_c.before args0 about1 = true := by decide +kernel
set_option maxRecDepth 65536 in
theorem w_case : (Jvm.Cond.and given_1 narrow_1).before args0 about1 = true := by decide +kernel
set_option maxRecDepth 65536 in
theorem w_consts : constsHeld consts_1 about1 := Jvm.Lit.constsHeldB_iff.mp (by decide +kernel)
theorem w_applies : (headSpec (Jvm.Cond.code x code maxLocals ret :: tables_1) room_1).applies x e0.platform about1 = true :=
  (Spec.applies_iff w_frames).mpr ⟨w_running, w_runnable, w_alone, w_named, w_hears, w_ripe, w_room, w_tables⟩
theorem atStart : AtStart classFile x code maxLocals ret World_1 tables_1 room_1 Calls_1 rest_1 Pre_1 launch0 p0 e0 about1 theMethod args0 below0 :=
  ⟨lists_1, trivial, launch0.admits_env _ _ _, launch0.least_env, fairChoices_fair.cas, fairChoices_fair.clock, w_frames, w_args, w_heap, w_applies, ⟨w_consts, trivial⟩, w_rest, w_case⟩
end start1
theorem witness_1 : WitnessClaimed_1 := ⟨start1.p0, start1.e0, start1.about1, start1.theMethod, start1.args0, start1.below0, start1.atStart⟩
end Jvm.Pilot.@@N@@
