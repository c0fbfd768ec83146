import JvmDerived
import JvmDerived.Pilot.@@N@@Statement
import JvmDerived.Pilot.@@N@@Code
set_option linter.unusedVariables false
set_option linter.unusedSimpArgs false

namespace Jvm.RoadKit
open Sem ClassFile Op Lib Jvm.Stand Jvm.Free Jvm.LawKit
section New
variable {p : Program} {l : Launch} {e : Env} {R : Room} {s : State} {m : MethodId} {args : Array Value} {below : List Frame} {meth : Method} {c : Code} {T : State} {locs : List Loc} {cells slots : Nat}
theorem retI (X : Stand p l e R s m args below meth c T locs cells slots) (hx : p.tables.exec = Jvm.exec) {pc : Nat} {Ls : Array Slot} {z : Int32} {rest : List Value} (hret : meth.sig.returnType = some .int) (hd : decode c.code pc = .ok (.ireturn, 1)) {fs : List Frame}
    (hl : ∀ (f : JFrame) (acts : List Action), f.method = m → f.locked = none → f.entered = [] → (doReturn e (T.setTop f) acts (some (.int z))).1 = T.setFrames fs) : Steps p.tables e below (T.setTop (mkF m pc Ls (.int z :: rest))) (T.setFrames fs) := by
  have hm' : T.vm.method? m = some meth := X.method'
  have hn : narrow .int (.int z) = .int z := rfl
  show Steps p.tables e below (T.setTop { method := m, pc := pc, locals := Ls, stack := _ :: rest, locked := none }) _
  jvm_step X.here [X.here.top, hx, hd, hm', hret, hn]
  first | (intro acts; rw [hl _ acts rfl rfl rfl]) | rw [hl _ _ rfl rfl rfl]
  exact Steps.refl _
theorem own_lrem {g : JFrame} {target : State} (X : Stand p l e R s m args below meth c T locs cells slots) (hx : p.tables.exec = Jvm.exec) (hg : g.method = m) {x y : Int64} {rest : List Value} (hd : decode c.code g.pc = .ok (.lrem, 1)) (hs : g.stack = .long y :: .long x :: rest) (hy : y ≠ 0)
    (hr : Steps p.tables e below (T.setTop { g with pc := g.pc + 1, stack := .long (x % y) :: rest }) target) : Steps p.tables e below (T.setTop g) target := by
  have q : x - x / y * y = x % y := lrem_mod x y
  exact XS.lrem X.here hx hg hd hs hy (by rw [q]; exact hr)
end New
end Jvm.RoadKit

namespace Jvm.Pilot.@@N@@
open Jvm Jvm.ClassFile Sem Op Lib Jvm.Free Jvm.Stand Jvm.LawKit Jvm.RoadKit Bundle Jvm.Pilot.@@N@@.Jvm.D
def own_sh (x : Int64) (k : Int32) : Int64 := ((x.toUInt64 >>> (k &&& 0x3f).toInt64.toUInt64).toInt64)
def own_b1 (x : Int64) : Int64 := (x - ((own_sh x (1 : Int32)) &&& (6148914691236517205 : Int64)))
def own_b2 (x : Int64) : Int64 := ((x &&& (3689348814741910323 : Int64)) + ((own_sh x (2 : Int32)) &&& (3689348814741910323 : Int64)))
def own_b3 (x : Int64) : Int64 := ((x + (own_sh x (4 : Int32))) &&& (1085102592571150095 : Int64))
def own_b4 (x : Int64) : Int64 := (x + (own_sh x (8 : Int32)))
def own_b5 (x : Int64) : Int64 := (x + (own_sh x (16 : Int32)))
def own_b6 (x : Int64) : Int64 := (x + (own_sh x (32 : Int32)))
def own_bc (x : Int64) : Int32 := (((own_b6 (own_b5 (own_b4 (own_b3 (own_b2 (own_b1 x)))))).toInt32) &&& (127 : Int32))
def own_nbc (x : Nat) : Nat :=
  let a := x - ((x >>> 1) &&& 6148914691236517205)
  let b := (a &&& 3689348814741910323) + ((a >>> 2) &&& 3689348814741910323)
  let c := (b + (b >>> 4)) &&& 1085102592571150095
  let d := c + (c >>> 8)
  let e := d + (d >>> 16)
  let f := e + (e >>> 32)
  f &&& 127
abbrev own_N (x : Int64) : Nat := x.toBitVec.toNat
theorem own_Nsh (x : Int64) (k : Int32) (n : Nat) (h : ((k &&& 0x3f).toInt64.toUInt64.toBitVec % 64#64).toNat = n) : own_N (own_sh x k) = own_N x >>> n := by
  show (x.toUInt64 >>> (k &&& 0x3f).toInt64.toUInt64).toBitVec.toNat = _
  rw [UInt64.toBitVec_shiftRight, BitVec.ushiftRight_eq', BitVec.toNat_ushiftRight]
  rw [show (x.toUInt64.toBitVec).toNat = own_N x from rfl]
  congr 1
theorem own_Nand (x y : Int64) : own_N (x &&& y) = own_N x &&& own_N y := by show (x &&& y).toBitVec.toNat = _; rw [Int64.toBitVec_and, BitVec.toNat_and]
theorem own_Nor (x y : Int64) : own_N (x ||| y) = own_N x ||| own_N y := by show (x ||| y).toBitVec.toNat = _; rw [Int64.toBitVec_or, BitVec.toNat_or]
theorem own_Nadd (x y : Int64) (h : own_N x + own_N y < 2^64) : own_N (x + y) = own_N x + own_N y := by show (x + y).toBitVec.toNat = _; rw [Int64.toBitVec_add, BitVec.toNat_add]; exact Nat.mod_eq_of_lt h
theorem own_Nsub (x y : Int64) (h : own_N y ≤ own_N x) : own_N (x - y) = own_N x - own_N y := by show (x - y).toBitVec.toNat = _; rw [Int64.toBitVec_sub, BitVec.toNat_sub_of_le (by rw [BitVec.le_def]; exact h)]
theorem own_half (x k : Nat) : x >>> k ≤ x := by rw [Nat.shiftRight_eq_div_pow]; exact Nat.div_le_self _ _
theorem own_bcN (x : Int64) : (own_bc x).toBitVec.toNat = own_nbc (own_N x) := by
  have hx := x.toBitVec.isLt
  unfold own_bc own_nbc
  simp only []
  generalize ha : own_b1 x = a
  have ea : own_N a = own_N x - ((own_N x >>> 1) &&& 6148914691236517205) := by
    rw [← ha, own_b1, own_Nsub, own_Nand, own_Nsh x 1 1 (by decide)]; rfl
    rw [own_Nand, own_Nsh x 1 1 (by decide)]
    exact Nat.le_trans Nat.and_le_left (own_half _ _)
  rw [← ea]
  generalize hb : own_b2 a = b
  have q1 : own_N a &&& 3689348814741910323 ≤ 3689348814741910323 := Nat.and_le_right
  have q2 : (own_N a >>> 2) &&& 3689348814741910323 ≤ 3689348814741910323 := Nat.and_le_right
  have eb : own_N b = (own_N a &&& 3689348814741910323) + ((own_N a >>> 2) &&& 3689348814741910323) := by
    rw [← hb, own_b2, own_Nadd, own_Nand, own_Nand, own_Nsh a 2 2 (by decide)]; rfl
    rw [own_Nand, own_Nand, own_Nsh a 2 2 (by decide)]
    show (own_N a &&& 3689348814741910323) + ((own_N a >>> 2) &&& 3689348814741910323) < _
    omega
  rw [← eb]
  generalize hc : own_b3 b = c
  have q3 := own_half (own_N b) 4
  have ec : own_N c = (own_N b + (own_N b >>> 4)) &&& 1085102592571150095 := by
    rw [← hc, own_b3, own_Nand, own_Nadd, own_Nsh b 4 4 (by decide)]; rfl
    rw [own_Nsh b 4 4 (by decide), Nat.shiftRight_eq_div_pow]
    omega
  rw [← ec]
  have q4 : own_N c ≤ 1085102592571150095 := by rw [ec]; exact Nat.and_le_right
  generalize hd : own_b4 c = d
  have q5 := own_half (own_N c) 8
  have ed : own_N d = own_N c + (own_N c >>> 8) := by
    rw [← hd, own_b4, own_Nadd, own_Nsh c 8 8 (by decide)]
    rw [own_Nsh c 8 8 (by decide)]; omega
  rw [← ed]
  generalize he : own_b5 d = e
  have q6 := own_half (own_N d) 16
  have ee : own_N e = own_N d + (own_N d >>> 16) := by
    rw [← he, own_b5, own_Nadd, own_Nsh d 16 16 (by decide)]
    rw [own_Nsh d 16 16 (by decide)]; omega
  rw [← ee]
  generalize hf : own_b6 e = f
  have q7 := own_half (own_N e) 32
  have ef : own_N f = own_N e + (own_N e >>> 32) := by
    rw [← hf, own_b6, own_Nadd, own_Nsh e 32 32 (by decide)]
    rw [own_Nsh e 32 32 (by decide)]; omega
  rw [← ef]
  show ((f.toInt32).toBitVec &&& (127 : Int32).toBitVec).toNat = _
  rw [BitVec.toNat_and, Int64.toBitVec_toInt32, BitVec.signExtend_eq_setWidth_of_le _ (by decide), BitVec.toNat_setWidth]
  show own_N f % 2^32 &&& 127 = own_N f &&& 127
  rw [show (127 : Nat) = 2^7 - 1 from rfl, Nat.and_two_pow_sub_one_eq_mod, Nat.and_two_pow_sub_one_eq_mod]
  omega
theorem own_p1 : ∀ a : Nat, a < 64 → own_nbc (2 ^ a) = 1 := by decide +kernel
theorem own_p2 : ∀ a : Nat, a < 64 → ∀ b : Nat, b < 64 → own_nbc (2 ^ a ||| 2 ^ b) = if a = b then 1 else 2 := by decide +kernel
theorem own_p3 : ∀ a : Nat, a < 64 → ∀ b : Nat, b < a → ∀ c : Nat, c < b → own_nbc (2 ^ a ||| 2 ^ b ||| 2 ^ c) = 3 := by decide +kernel
theorem own_or3 (a b c : Nat) : a ||| b ||| c = a ||| c ||| b := by rw [Nat.or_assoc, Nat.or_comm b c, ← Nat.or_assoc]
theorem own_p3' (a b c : Nat) (ha : a < 64) (hb : b < 64) (hc : c < 64) (h1 : a ≠ b) (h2 : c ≠ a) (h3 : c ≠ b) : own_nbc (2 ^ a ||| 2 ^ b ||| 2 ^ c) = 3 := by
  rcases Nat.lt_or_ge a b with k1 | k1 <;> rcases Nat.lt_or_ge a c with k2 | k2 <;> rcases Nat.lt_or_ge b c with k3 | k3
  · rw [Nat.or_comm, Nat.or_comm (2 ^ a), ← Nat.or_assoc]; exact own_p3 c hc b (by omega) a (by omega)
  · rw [Nat.or_comm (2 ^ a), own_or3]; exact own_p3 b hb c (by omega) a (by omega)
  · omega
  · rw [Nat.or_comm (2 ^ a)]; exact own_p3 b hb a (by omega) c (by omega)
  · rw [Nat.or_comm, ← Nat.or_assoc]; exact own_p3 c hc a (by omega) b (by omega)
  · omega
  · rw [own_or3]; exact own_p3 a ha c (by omega) b (by omega)
  · exact own_p3 a ha b (by omega) c (by omega)
/-- one bit more over a word of at most two -/
theorem own_more (a b c : Nat) (ha : a < 64) (hb : b < 64) (hc : c < 64) : own_nbc (2 ^ a ||| 2 ^ b ||| 2 ^ c) = own_nbc (2 ^ a ||| 2 ^ b) + if c = a ∨ c = b then 0 else 1 := by
  by_cases h1 : c = a
  · subst h1
    rw [own_or3, Nat.or_self, if_pos (Or.inl rfl)]; rfl
  · by_cases h2 : c = b
    · subst h2
      rw [Nat.or_assoc, Nat.or_self, if_pos (Or.inr rfl)]; rfl
    · rw [if_neg (by rintro (q | q) <;> contradiction)]
      by_cases h3 : a = b
      · subst h3
        rw [Nat.or_self, own_p2 a ha c hc, own_p1 a ha, if_neg (fun q => h1 q.symm)]
      · rw [own_p3' a b c ha hb hc h3 h1 h2, own_p2 a ha b hb, if_neg h3]
/-! bits, words, lists -/
def own_bit (p : Nat) : Int64 := ((1 : Int64) <<< ((Int32.ofNat p) &&& 0x3f).toInt64)
theorem own_bitN : ∀ p : Nat, p < 1024 → own_N (own_bit p) = 2 ^ (p % 64) := by decide +kernel
theorem own_bitz : ∀ a : Nat, a < 64 → ∀ b : Nat, b < 64 → (2 ^ a &&& 2 ^ b = 0) = (a ≠ b) := by decide +kernel
def own_f0 : Nat → Int64 := fun _ => 0
def own_or (f : Nat → Int64) (p : Nat) : Nat → Int64 := fun i => if i = p / 64 then (f i ||| own_bit p) else f i
def own_l8 (f : Nat → Int64) : List Value := (List.range 8).map fun i => Value.long (f i)
theorem own_i (i : Nat) (h : i < 2048) : (Int32.ofNat i).toInt = i := len_toInt (by omega)
theorem own_clamp (i : Nat) (h : i < 2048) : (Int32.ofNat i).toNatClampNeg = i := by
  simp only [Int32.toNatClampNeg, own_i i h]; rfl
theorem own_lt (i j : Nat) (hi : i < 2048) (hj : j < 2048) : (Int32.ofNat i < Int32.ofNat j) = (i < j) := by
  rw [Int32.lt_iff_toInt_lt, own_i i hi, own_i j hj]; exact propext (by omega)
theorem own_inj (i j : Nat) (hi : i < 2048) (hj : j < 2048) : (Int32.ofNat i = Int32.ofNat j) = (i = j) := by
  rw [← Int32.toInt_inj, own_i i hi, own_i j hj]; exact propext (by omega)
theorem own_in (i n : Nat) (h : i < n) (hn : n ≤ 8) : ¬ Int32.ofNat i < 0 ∧ Int32.ofNat i < Int32.ofNat n := by
  simp only [Int32.lt_iff_toInt_lt, own_i i (by omega), own_i n (by omega), Int32.reduceToInt]; omega
theorem own_up (i : Nat) (h : i < 512) : (Int32.ofNat i) + (1 : Int32) = Int32.ofNat (i + 1) := by
  have e := own_i i (by omega)
  have e' := own_i (i + 1) (by omega)
  have a := c_iadd (Int32.ofNat i) 1
  have b := rng32 (Int32.ofNat i + 1)
  rw [← Int32.toInt_inj, e']
  simp only [Int32.reduceToInt] at a
  omega
theorem own_down (i : Nat) (h : i < 512) (h0 : 0 < i) : (Int32.ofNat i) - (1 : Int32) = Int32.ofNat (i - 1) := by
  have e := own_i i (by omega)
  have e' := own_i (i - 1) (by omega)
  have a := c_isub (Int32.ofNat i) 1
  have b := rng32 (Int32.ofNat i - 1)
  rw [← Int32.toInt_inj, e']
  simp only [Int32.reduceToInt] at a
  omega
theorem own_w6 : ∀ p : Nat, p < 1024 → (((Int32.ofNat p).toUInt32 >>> ((6 : Int32) &&& 31).toUInt32).toInt32) = Int32.ofNat (p / 64) := by decide +kernel
theorem own_at8 (f : Nat → Int64) (i : Nat) (h : i < 8) (d : Value) : (own_l8 f).getD i d = .long (f i) := by
  rw [List.getD_eq_getElem?_getD]; simp [own_l8, h]
theorem own_at8' (f : Nat → Int64) (i : Nat) (h : i < 8) (d : Value) : (own_l8 f).getD (Int32.ofNat i).toNatClampNeg d = .long (f i) := by
  rw [own_clamp i (by omega)]; exact own_at8 f i h d
theorem own_set8 (f : Nat → Int64) (p : Nat) (h : p / 64 < 8) : (own_l8 f).set (p / 64) (.long (f (p / 64) ||| own_bit p)) = own_l8 (own_or f p) := by
  apply List.ext_getElem
  · simp [own_l8]
  · intro j h1 h2
    rw [List.getElem_set]
    simp only [own_l8, List.getElem_map, List.getElem_range, own_or]
    by_cases e : p / 64 = j
    · subst e; rw [if_pos rfl, if_pos rfl]
    · rw [if_neg e, if_neg (fun q => e q.symm)]
theorem own_len8 (f : Nat → Int64) : (own_l8 f).length = 8 := by simp [own_l8]
theorem own_copy (f : Nat → Int64) (n : Nat) (hn : n ≤ 8) (hz : ∀ i, n ≤ i → f i = 0) (i : Nat) :
    (own_l8 f).getD i (.long (0 : Int64)) = (List.take (0 : Int32).toNatClampNeg (List.replicate 8 (Value.long (0 : Int64))) ++ ((List.range (Int32.ofNat n).toNatClampNeg).map fun i => (own_l8 f).getD ((0 : Int32).toNatClampNeg + i) (.long (0 : Int64))) ++ List.drop ((0 : Int32).toNatClampNeg + (Int32.ofNat n).toNatClampNeg) (List.replicate 8 (Value.long (0 : Int64)))).getD i (.long (0 : Int64)) := by
  rw [own_clamp n (by omega), show (0 : Int32).toNatClampNeg = 0 from rfl]
  simp only [Nat.zero_add, List.take_zero, List.nil_append]
  rw [List.getD_eq_getElem?_getD, List.getD_eq_getElem?_getD]
  by_cases h : i < n
  · rw [List.getElem?_append_left (by simp; exact h)]
    have h8 : i < 8 := by omega
    simp only [List.getElem?_map, List.getElem?_range h, Option.map_some, Option.getD_some]
    rw [List.getD_eq_getElem?_getD]
  · rw [List.getElem?_append_right (by simp; omega)]
    by_cases h8 : i < 8
    · have e : (own_l8 f)[i]? = some (.long (0 : Int64)) := by simp [own_l8, h8, hz i (by omega)]
      rw [e]
      simp only [List.length_map, List.length_range, List.getElem?_drop]
      rw [List.getElem?_replicate]
      split <;> rfl
    · rw [List.getElem?_eq_none (by simp [own_l8]; omega)]
      simp only [List.length_map, List.length_range, List.getElem?_drop]
      rw [List.getElem?_replicate]
      split <;> rfl
theorem own_orz (f : Nat → Int64) (p n : Nat) (h : p / 64 < n) (hz : ∀ i, n ≤ i → f i = 0) : ∀ i, n ≤ i → own_or f p i = 0 := by
  intro i hi; unfold own_or; rw [if_neg (by omega)]; exact hz i hi
theorem own_zne (x : Int64) : x ≠ 0 ↔ own_N x ≠ 0 := by
  constructor
  · intro h q; apply h; apply Int64.toBitVec_inj.mp; apply BitVec.eq_of_toNat_eq; exact q
  · rintro h rfl; exact h rfl
theorem own_orne (f : Nat → Int64) (p i : Nat) (h : f i ≠ 0) : own_or f p i ≠ 0 := by
  unfold own_or
  split
  · rw [own_zne] at *
    rw [own_Nor]
    intro q
    exact h (Nat.or_eq_zero_iff.mp q).1
  · exact h
theorem own_ornew (f : Nat → Int64) (p : Nat) (hp : p < 1024) : own_or f p (p / 64) ≠ 0 := by
  unfold own_or
  rw [if_pos rfl, own_zne, own_Nor, own_bitN p hp]
  intro q
  exact absurd (Nat.or_eq_zero_iff.mp q).2 (Nat.pos_iff_ne_zero.mp (Nat.two_pow_pos _))
/-! the question 'has' -/
def own_hs (f : Nat → Int64) (n q : Nat) : Int32 := if q / 64 < n then (if (f (q / 64) &&& own_bit q) = 0 then 0 else 1) else 0
def own_nb (f : Nat → Int64) (q : Nat) : Prop := own_N (f (q / 64)) &&& 2 ^ (q % 64) = 0
theorem own_hs0 (f : Nat → Int64) (n q : Nat) (hq : q < 1024) (hz : ∀ i, n ≤ i → f i = 0) : (own_nb f q → own_hs f n q = 0) ∧ (¬ own_nb f q → own_hs f n q = 1) := by
  have e : ((f (q / 64) &&& own_bit q) = 0) ↔ own_nb f q := by
    have := own_zne (f (q / 64) &&& own_bit q)
    rw [own_Nand, own_bitN q hq] at this
    unfold own_nb
    constructor
    · intro h; exact Classical.byContradiction fun k => this.mpr k h
    · intro h; exact Classical.byContradiction fun k => this.mp k h
  unfold own_hs
  by_cases k : q / 64 < n
  · rw [if_pos k]
    exact ⟨fun h => if_pos (e.mpr h), fun h => if_neg (fun w => h (e.mp w))⟩
  · rw [if_neg k]
    refine ⟨fun _ => rfl, fun h => absurd ?_ h⟩
    unfold own_nb
    rw [hz _ (by omega), show own_N 0 = 0 from rfl, Nat.zero_and]
theorem own_nb0 (q : Nat) : own_nb own_f0 q := by unfold own_nb own_f0; rw [show own_N 0 = 0 from rfl, Nat.zero_and]
theorem own_nbor (f : Nat → Int64) (p q : Nat) (hp : p < 1024) (hq : q < 1024) : own_nb (own_or f p) q ↔ own_nb f q ∧ q ≠ p := by
  unfold own_nb own_or
  by_cases e : q / 64 = p / 64
  · rw [if_pos e, own_Nor, own_bitN p hp, Nat.and_or_distrib_right, Nat.or_eq_zero_iff, own_bitz _ (Nat.mod_lt _ (by decide)) _ (Nat.mod_lt _ (by decide))]
    exact and_congr_right fun _ => by omega
  · rw [if_neg e]
    exact ⟨fun h => ⟨h, fun k => e (by rw [k])⟩, fun h => h.1⟩
/-! the count -/
def own_cnt (f : Nat → Int64) : Nat → Int32
  | 0 => 0
  | k + 1 => own_cnt f k + own_bc (f k)
def own_S (f : Nat → Int64) : Nat → Nat
  | 0 => 0
  | k + 1 => own_S f k + own_nbc (own_N (f k))
theorem own_nbcl (x : Nat) : own_nbc x < 128 := by unfold own_nbc; simp only []; exact Nat.lt_of_le_of_lt Nat.and_le_right (by decide)
theorem own_cntS (f : Nat → Int64) (k : Nat) (hk : k ≤ 8) : own_cnt f k = Int32.ofNat (own_S f k) ∧ own_S f k ≤ 128 * k := by
  induction k with
  | zero => exact ⟨rfl, Nat.le_refl _⟩
  | succ k ih =>
    obtain ⟨h1, h2⟩ := ih (by omega)
    have l := own_nbcl (own_N (f k))
    have b := own_bcN (f k)
    refine ⟨?_, by unfold own_S; omega⟩
    have e : own_bc (f k) = Int32.ofNat (own_nbc (own_N (f k))) := by
      apply Int32.toBitVec_inj.mp; apply BitVec.eq_of_toNat_eq
      rw [b]; show _ = (BitVec.ofNat 32 (own_nbc (own_N (f k)))).toNat
      rw [BitVec.toNat_ofNat, Nat.mod_eq_of_lt (by omega)]
    unfold own_cnt own_S
    rw [h1, e, ← Int32.toInt_inj, own_i _ (by omega)]
    have a := c_iadd (Int32.ofNat (own_S f k)) (Int32.ofNat (own_nbc (own_N (f k))))
    have r := rng32 (Int32.ofNat (own_S f k) + Int32.ofNat (own_nbc (own_N (f k))))
    rw [own_i _ (by omega), own_i _ (by omega)] at a
    omega
theorem own_S0 (k : Nat) : own_S own_f0 k = 0 := by
  induction k with
  | zero => rfl
  | succ k ih => unfold own_S; rw [ih, show own_N (own_f0 k) = 0 from rfl]; decide
theorem own_Sor (f : Nat → Int64) (p : Nat) (hp : p < 1024) (k : Nat) : own_S (own_or f p) k + (if p / 64 < k then own_nbc (own_N (f (p / 64))) else 0) = own_S f k + (if p / 64 < k then own_nbc (own_N (f (p / 64)) ||| 2 ^ (p % 64)) else 0) := by
  induction k with
  | zero => rfl
  | succ k ih =>
    unfold own_S
    by_cases e : k = p / 64
    · subst e
      rw [if_neg (by omega), if_neg (by omega)] at ih
      rw [if_pos (by omega), if_pos (by omega)]
      have : own_N (own_or f p (p / 64)) = own_N (f (p / 64)) ||| 2 ^ (p % 64) := by unfold own_or; rw [if_pos rfl, own_Nor, own_bitN p hp]
      rw [this]; omega
    · have : own_or f p k = f k := by unfold own_or; rw [if_neg e]
      rw [this]
      by_cases h : p / 64 < k
      · rw [if_pos h, if_pos h] at ih
        rw [if_pos (by omega), if_pos (by omega)]; omega
      · rw [if_neg h, if_neg h] at ih
        rw [if_neg (by omega), if_neg (by omega)]; omega
theorem own_S1 (x n : Nat) (hx : x < 1024) (h : x / 64 < n) : own_S (own_or own_f0 x) n = 1 := by
  have a := own_Sor own_f0 x hx n
  rw [if_pos h, if_pos h, own_S0, show own_N (own_f0 (x / 64)) = 0 from rfl, Nat.zero_or, own_p1 _ (Nat.mod_lt _ (by decide)), show own_nbc 0 = 0 from rfl] at a
  omega
theorem own_S2 (x y n : Nat) (hx : x < 1024) (hy : y < 1024) (h : x / 64 < n) (k : y / 64 < n) : own_S (own_or (own_or own_f0 x) y) n = 1 + if y = x then 0 else 1 := by
  have a := own_Sor (own_or own_f0 x) y hy n
  have mx : x % 64 < 64 := Nat.mod_lt _ (by decide)
  have my : y % 64 < 64 := Nat.mod_lt _ (by decide)
  rw [if_pos k, if_pos k, own_S1 x n hx h] at a
  by_cases e : y / 64 = x / 64
  · have w : own_N (own_or own_f0 x (y / 64)) = 2 ^ (x % 64) := by unfold own_or; rw [if_pos e, own_Nor, own_bitN x hx, show own_N (own_f0 _) = 0 from rfl, Nat.zero_or]
    have m := own_more (x % 64) (x % 64) (y % 64) mx mx my
    rw [Nat.or_self] at m
    rw [w, m] at a
    have q : (y % 64 = x % 64 ∨ y % 64 = x % 64) ↔ y = x := by omega
    simp only [q] at a
    omega
  · have w : own_N (own_or own_f0 x (y / 64)) = 0 := by unfold own_or; rw [if_neg e]; rfl
    rw [w, Nat.zero_or, own_p1 _ my, show own_nbc 0 = 0 from rfl] at a
    rw [if_neg (by intro q; exact e (by rw [q]))]; omega
theorem own_S3 (x y z n : Nat) (hx : x < 1024) (hy : y < 1024) (hz : z < 1024) (h : x / 64 < n) (k : y / 64 < n) (l : z / 64 < n) : own_S (own_or (own_or (own_or own_f0 x) y) z) n = (1 + if y = x then 0 else 1) + if z = x ∨ z = y then 0 else 1 := by
  have a := own_Sor (own_or (own_or own_f0 x) y) z hz n
  have mx : x % 64 < 64 := Nat.mod_lt _ (by decide)
  have my : y % 64 < 64 := Nat.mod_lt _ (by decide)
  have mz : z % 64 < 64 := Nat.mod_lt _ (by decide)
  rw [if_pos l, if_pos l, own_S2 x y n hx hy h k] at a
  by_cases ex : z / 64 = x / 64
  · by_cases ey : z / 64 = y / 64
    · have w : own_N (own_or (own_or own_f0 x) y (z / 64)) = 2 ^ (x % 64) ||| 2 ^ (y % 64) := by
        unfold own_or; rw [if_pos ey, own_Nor, if_pos ex, own_Nor, own_bitN x hx, own_bitN y hy, show own_N (own_f0 _) = 0 from rfl, Nat.zero_or]
      rw [w, own_more _ _ _ mx my mz] at a
      have q : (z % 64 = x % 64 ∨ z % 64 = y % 64) ↔ (z = x ∨ z = y) := by omega
      simp only [q] at a
      omega
    · have w : own_N (own_or (own_or own_f0 x) y (z / 64)) = 2 ^ (x % 64) := by
        unfold own_or; rw [if_neg ey, if_pos ex, own_Nor, own_bitN x hx, show own_N (own_f0 _) = 0 from rfl, Nat.zero_or]
      have m := own_more (x % 64) (x % 64) (z % 64) mx mx mz
      rw [Nat.or_self] at m
      rw [w, m] at a
      have q : (z % 64 = x % 64 ∨ z % 64 = x % 64) ↔ (z = x ∨ z = y) := by omega
      simp only [q] at a
      omega
  · by_cases ey : z / 64 = y / 64
    · have w : own_N (own_or (own_or own_f0 x) y (z / 64)) = 2 ^ (y % 64) := by
        unfold own_or; rw [if_pos ey, own_Nor, if_neg ex, own_bitN y hy, show own_N (own_f0 _) = 0 from rfl, Nat.zero_or]
      have m := own_more (y % 64) (y % 64) (z % 64) my my mz
      rw [Nat.or_self] at m
      rw [w, m] at a
      have q : (z % 64 = y % 64 ∨ z % 64 = y % 64) ↔ (z = x ∨ z = y) := by omega
      simp only [q] at a
      omega
    · have w : own_N (own_or (own_or own_f0 x) y (z / 64)) = 0 := by unfold own_or; rw [if_neg ey, if_neg ex]; rfl
      rw [w, Nat.zero_or, own_p1 _ mz, show own_nbc 0 = 0 from rfl] at a
      have q3 : ¬ (z = x ∨ z = y) := fun q => q.elim (fun q => ex (by rw [q])) (fun q => ey (by rw [q]))
      rw [if_neg q3]; omega
/-! the law's own reckoning -/
def own_q (s x y z w : Int32) : Int32 := if s = (0 : Int32) then x else if s = (1 : Int32) then y else if s = (2 : Int32) then z else w
def own_eh1 (q x : Int32) : Int32 := if q = x then 1 else 0
def own_eh2 (q x y : Int32) : Int32 := if q = x then 1 else if q = y then 1 else 0
def own_eh3 (q x y z : Int32) : Int32 := if q = x then 1 else if q = y then 1 else if q = z then 1 else 0
def own_es2 (x y : Int32) : Int32 := if y = x then 1 else 2
def own_es3 (x y z : Int32) : Int32 := (if y = x then 1 else 2) + (if z = x then 0 else if z = y then 0 else 1)
theorem own_m9 (a : Int32) : ∃ n : Nat, n < 512 ∧ (a &&& (511 : Int32)) = Int32.ofNat n := by
  have h1 := c_mask a 511 9 (by decide) (by decide)
  simp only [show ((2 ^ 9 : Nat) : Int) = 512 from rfl] at h1
  refine ⟨(a &&& (511 : Int32)).toInt.toNat, by omega, ?_⟩
  rw [← Int32.toInt_inj, own_i _ (by omega)]; omega
theorem own_m10 (a : Int32) : ∃ n : Nat, n < 1024 ∧ (a &&& (1023 : Int32)) = Int32.ofNat n := by
  have h1 := c_mask a 1023 10 (by decide) (by decide)
  simp only [show ((2 ^ 10 : Nat) : Int) = 1024 from rfl] at h1
  refine ⟨(a &&& (1023 : Int32)).toInt.toNat, by omega, ?_⟩
  rw [← Int32.toInt_inj, own_i _ (by omega)]; omega
theorem own_qq (s : Int32) (x y z : Nat) (w : Int32) (hx : x < 512) (hy : y < 512) (hz : z < 512) : ∃ n : Nat, n < 1024 ∧ own_q s (Int32.ofNat x) (Int32.ofNat y) (Int32.ofNat z) (w &&& (1023 : Int32)) = Int32.ofNat n := by
  unfold own_q
  split
  · exact ⟨x, by omega, rfl⟩
  · split
    · exact ⟨y, by omega, rfl⟩
    · split
      · exact ⟨z, by omega, rfl⟩
      · exact own_m10 w
theorem own_four (a : Int32) : (a &&& (3 : Int32)) = (0 : Int32) ∨ (a &&& (3 : Int32)) = (1 : Int32) ∨ (a &&& (3 : Int32)) = (2 : Int32) ∨ (a &&& (3 : Int32)) = (3 : Int32) := by
  have h1 := c_mask a 3 2 (by decide) (by decide)
  simp only [show ((2 ^ 2 : Nat) : Int) = 4 from rfl] at h1
  simp only [← Int32.toInt_inj, Int32.reduceToInt]
  omega
theorem own_H0 (n q : Nat) (hq : q < 1024) (hz : ∀ i, n ≤ i → own_f0 i = 0) : own_hs own_f0 n q = (0 : Int32) := (own_hs0 own_f0 n q hq hz).1 (own_nb0 q)
theorem own_H1 (n q x : Nat) (hq : q < 1024) (hx : x < 512) (hz : ∀ i, n ≤ i → own_or own_f0 x i = 0) : own_hs (own_or own_f0 x) n q = own_eh1 (Int32.ofNat q) (Int32.ofNat x) := by
  obtain ⟨h0, h1⟩ := own_hs0 _ n q hq hz
  rw [own_nbor _ x q (by omega) hq] at h0 h1
  unfold own_eh1
  simp only [own_inj q x (by omega) (by omega)]
  by_cases e : q = x
  · rw [if_pos e]; exact h1 (fun k => k.2 e)
  · rw [if_neg e]; exact h0 ⟨own_nb0 q, e⟩
theorem own_H2 (n q x y : Nat) (hq : q < 1024) (hx : x < 512) (hy : y < 512) (hz : ∀ i, n ≤ i → own_or (own_or own_f0 x) y i = 0) : own_hs (own_or (own_or own_f0 x) y) n q = own_eh2 (Int32.ofNat q) (Int32.ofNat x) (Int32.ofNat y) := by
  obtain ⟨h0, h1⟩ := own_hs0 _ n q hq hz
  rw [own_nbor _ y q (by omega) hq, own_nbor _ x q (by omega) hq] at h0 h1
  unfold own_eh2
  simp only [own_inj q x (by omega) (by omega), own_inj q y (by omega) (by omega)]
  by_cases e : q = x
  · rw [if_pos e]; exact h1 (fun k => k.1.2 e)
  · rw [if_neg e]
    by_cases e2 : q = y
    · rw [if_pos e2]; exact h1 (fun k => k.2 e2)
    · rw [if_neg e2]; exact h0 ⟨⟨own_nb0 q, e⟩, e2⟩
theorem own_H3 (n q x y z : Nat) (hq : q < 1024) (hx : x < 512) (hy : y < 512) (hz' : z < 512) (hz : ∀ i, n ≤ i → own_or (own_or (own_or own_f0 x) y) z i = 0) : own_hs (own_or (own_or (own_or own_f0 x) y) z) n q = own_eh3 (Int32.ofNat q) (Int32.ofNat x) (Int32.ofNat y) (Int32.ofNat z) := by
  obtain ⟨h0, h1⟩ := own_hs0 _ n q hq hz
  rw [own_nbor _ z q (by omega) hq, own_nbor _ y q (by omega) hq, own_nbor _ x q (by omega) hq] at h0 h1
  unfold own_eh3
  simp only [own_inj q x (by omega) (by omega), own_inj q y (by omega) (by omega), own_inj q z (by omega) (by omega)]
  by_cases e : q = x
  · rw [if_pos e]; exact h1 (fun k => k.1.1.2 e)
  · rw [if_neg e]
    by_cases e2 : q = y
    · rw [if_pos e2]; exact h1 (fun k => k.1.2 e2)
    · rw [if_neg e2]
      by_cases e3 : q = z
      · rw [if_pos e3]; exact h1 (fun k => k.2 e3)
      · rw [if_neg e3]; exact h0 ⟨⟨⟨own_nb0 q, e⟩, e2⟩, e3⟩
theorem own_C0 (n : Nat) (hn : n ≤ 8) : own_cnt own_f0 n = (0 : Int32) := by rw [(own_cntS own_f0 n hn).1, own_S0]; rfl
theorem own_C1 (n x : Nat) (hn : n ≤ 8) (hx : x < 512) (h : x / 64 < n) : own_cnt (own_or own_f0 x) n = (1 : Int32) := by rw [(own_cntS _ n hn).1, own_S1 x n (by omega) h]; rfl
theorem own_C2 (n x y : Nat) (hn : n ≤ 8) (hx : x < 512) (hy : y < 512) (h : x / 64 < n) (k : y / 64 < n) : own_cnt (own_or (own_or own_f0 x) y) n = own_es2 (Int32.ofNat x) (Int32.ofNat y) := by
  rw [(own_cntS _ n hn).1, own_S2 x y n (by omega) (by omega) h k]
  unfold own_es2
  simp only [own_inj y x (by omega) (by omega)]
  split <;> rfl
theorem own_C3 (n x y z : Nat) (hn : n ≤ 8) (hx : x < 512) (hy : y < 512) (hz : z < 512) (h : x / 64 < n) (k : y / 64 < n) (l : z / 64 < n) : own_cnt (own_or (own_or (own_or own_f0 x) y) z) n = own_es3 (Int32.ofNat x) (Int32.ofNat y) (Int32.ofNat z) := by
  rw [(own_cntS _ n hn).1, own_S3 x y z n (by omega) (by omega) (by omega) h k l]
  unfold own_es3
  simp only [own_inj y x (by omega) (by omega), own_inj z x (by omega) (by omega), own_inj z y (by omega) (by omega)]
  by_cases e : y = x <;> by_cases e2 : z = x <;> by_cases e3 : z = y <;> simp only [e, e2, e3, if_true, if_false, true_or, or_true, or_false, or_self] <;> first | rfl | (simp only [if_true, if_false]; rfl) | (exfalso; omega)
def own_min (a b : Int32) : Int32 := if b < a then b else a
theorem own_minv (a b : Nat) (h : a ≤ b) (ha : a < 2048) (hb : b < 2048) : own_min (Int32.ofNat a) (Int32.ofNat b) = Int32.ofNat a := by
  unfold own_min; rw [if_neg]; rw [own_lt b a hb ha]; omega
theorem own_in' (n : Nat) (h : n ≤ 8) : ¬ Int32.ofNat n < 0 ∧ (Int32.ofNat n).toNatClampNeg ≤ 8 := by
  rw [own_clamp n (by omega)]; refine ⟨?_, h⟩; simp only [Int32.lt_iff_toInt_lt, own_i n (by omega), Int32.reduceToInt]; omega
theorem own_s78 {z0 z1 z2 z3 z4 z5 z6 : Value} {s7 s8 : Slot} {v : Int64} (h : (s7 = .unset ∧ s8 = .unset) ∨ ∃ w : Int64, s7 = .val (.long w) ∧ s8 = .second) : storeLocals #[.val z0, .val z1, .val z2, .val z3, .val z4, .val z5, .val z6, s7, s8] 7 (.long v) = some #[.val z0, .val z1, .val z2, .val z3, .val z4, .val z5, .val z6, .val (.long v), .second] := by
  rcases h with ⟨rfl, rfl⟩ | ⟨w, rfl, rfl⟩ <;> rfl
theorem pd_0 : parseMethodDescriptor "(II)I" = some ⟨[.int, .int], some .int⟩ := by decide +kernel
theorem pd_1 : parseMethodDescriptor "(J)I" = some ⟨[.long], some .int⟩ := by decide +kernel
theorem pd_2 : parseMethodDescriptor "([J)V" = some ⟨[(.array .long)], none⟩ := by decide +kernel
theorem pd_3 : parseMethodDescriptor "([JI)[J" = some ⟨[(.array .long), .int], some (.array .long)⟩ := by decide +kernel
theorem pd_4 : parseMethodDescriptor "([I)Lcom/example/emex/emex/explain/Positions;" = some ⟨[(.array .int)], some (.object "com/example/emex/emex/explain/Positions")⟩ := by decide +kernel
theorem pd_5 : parseMethodDescriptor "(I)Z" = some ⟨[.int], some .boolean⟩ := by decide +kernel
theorem pd_6 : parseMethodDescriptor "()I" = some ⟨[], some .int⟩ := by decide +kernel
theorem d3_0 : decode jdk_29_method_69_code 0 = .ok (.iload_n 0, 1) := by decide +kernel
theorem d3_1 : decode jdk_29_method_69_code 1 = .ok (.iload_n 1, 1) := by decide +kernel
theorem d3_2 : decode jdk_29_method_69_code 2 = .ok (.if_icmp .gt 7, 3) := by decide +kernel
theorem d3_5 : decode jdk_29_method_69_code 5 = .ok (.iload_n 0, 1) := by decide +kernel
theorem d3_6 : decode jdk_29_method_69_code 6 = .ok (.goto 4, 3) := by decide +kernel
theorem d3_9 : decode jdk_29_method_69_code 9 = .ok (.iload_n 1, 1) := by decide +kernel
theorem d3_10 : decode jdk_29_method_69_code 10 = .ok (.ireturn, 1) := by decide +kernel
theorem ef_3 (m : MethodId) (x0 : Int32) (x1 : Int32) : entryFrame m #[(.int x0), (.int x1)] 2 = mkF m 0 #[.val (.int x0), .val (.int x1)] [] := by first | (simp [entryFrame, mkF, argsToLocals, Value.category]; done) | rfl
def Q3 (Z : State) (p0 : Int32) (p1 : Int32) (h0 : Heap) (n0 : Nat) (v : Option Value) (h : Heap) (L : List Loc) : Prop := v = some (.int (own_min p0 p1)) ∧ Fr n0 L ∧ h = h0
set_option maxRecDepth 65536 in
set_option maxHeartbeats 40000000 in
theorem rm3 (l : Launch) (Z : State) (a0 : Array Value) (hw : ∀ d ∈ tables_1, d.before a0 Z = true) (ws : List Jvm.Cond) (p0 : Int32) (p1 : Int32)  (h0 : Heap) (n0 : Nat) (Z0 : n0 ≤ h0.size) :
    MetFree l (⟨"java/lang/Math", "min", "(II)I"⟩ : MethodName) (head1 (Jvm.Cond.code (⟨"java/lang/Math", "min", "(II)I"⟩ : MethodName) jdk_29_method_69_code 2 (some .int) :: ws) ({ frames := 0, cells := 0, slots := 0, locals := 0 } : Room)) (fun a U => a = #[(.int p0), (.int p1)] ∧ Z.Warmed39 U.vm ∧ U.heap = h0) (fun _ _ _ _ _ => True) (fun _ U o U' => ∃ v L, o = .returned v ∧ Q3 Z p0 p1 h0 n0 v U'.heap L ∧ FrameEnd U o U' L ({ frames := 0, cells := 0, slots := 0, locals := 0 } : Room).cells ({ frames := 0, cells := 0, slots := 0, locals := 0 } : Room).slots) := by
  refine MetFree.of_bodySF (Jvm.Free.JP.mathPlain rfl (by decide +kernel)) hisR ?_
  intro p e s m args below meth c s₁ Bd hml0 hP hK
  obtain ⟨rfl, hZ, hh⟩ := hP
  have hx := Bd.exec
  have hby := Bd.bytes
  have hml : c.maxLocals = 2 := hml0
  have hown : s.vm.findClass "java/lang/Math" = some m.cls := findClass_of_methodNamed Bd.named
  have hnm := (name_of_methodNamed Bd.named Bd.method).1
  have X0 : Stand p l e ({ frames := 0, cells := 0, slots := 0, locals := 0 } : Room) s m #[(.int p0), (.int p1)] below meth c s₁ [] 0 0 := Stand.of_body Bd
  have e0 : s₁.heap = h0 := by rw [← hh, Bd.state]; rfl
  have N0 := Fr.nil n0
  have pre0 : ∀ t, Steps p.tables e below (s₁.setTop (mkF m 0 #[.val (.int p0), .val (.int p1)] [])) t → Steps p.tables e below (s₁.setTop (entryFrame m #[(.int p0), (.int p1)] 2)) t := fun t k => castTop (ef_3 m p0 p1) k
  have c1 : ∀ t, Steps p.tables e below (s₁.setTop (mkF m 2 #[.val (.int p0), .val (.int p1)] [(.int p1), (.int p0)])) t → Steps p.tables e below (s₁.setTop (mkF m 0 #[.val (.int p0), .val (.int p1)] [])) t := by
    intro t kt
    show Steps p.tables e below (s₁.setTop (mkF m 0 #[.val (.int p0), .val (.int p1)] [])) _
    refine XS.iloadN X0.here hx rfl (hb hby d3_0) rfl ?_
    show Steps p.tables e below (s₁.setTop (mkF m 1 #[.val (.int p0), .val (.int p1)] [(.int p0)])) _
    refine XS.iloadN X0.here hx rfl (hb hby d3_1) rfl ?_
    exact kt
  by_cases hc2 : p1 < p0
  · -- it is
    have c2 : ∀ t, Steps p.tables e below (s₁.setTop (mkF m 10 #[.val (.int p0), .val (.int p1)] [(.int p1)])) t → Steps p.tables e below (s₁.setTop (mkF m 2 #[.val (.int p0), .val (.int p1)] [(.int p1), (.int p0)])) t := by
      intro t kt
      show Steps p.tables e below (s₁.setTop (mkF m 2 #[.val (.int p0), .val (.int p1)] [(.int p1), (.int p0)])) _
      refine XS.icmpYes X0.here hx rfl (pc0 := 2) (pc' := 9) rfl (hb hby d3_2) rfl (tlt hc2).2.2.1 (by decide) (by decide) ?_
      show Steps p.tables e below (s₁.setTop (mkF m 9 #[.val (.int p0), .val (.int p1)] [])) _
      refine XS.iloadN X0.here hx rfl (hb hby d3_9) rfl ?_
      exact kt
    obtain ⟨fs, hr, hrun, hended, hW, hsame⟩ := X0.leave (v := some (.int p1)) (fun h => by rw [Bd.returns] at h; cases h)
    refine ⟨_, _, pre0 _ (c1 _ (c2 _ (?_))), hrun, hended, _, _, rfl, ?_, ⟨_, rfl⟩, hW, hsame.mono (by decide) (by decide)⟩
    · show Steps p.tables e below (s₁.setTop (mkF m 10 #[.val (.int p0), .val (.int p1)] [(.int p1)])) _
      exact retI X0 hx Bd.returns (hb hby d3_10) hr
    · show Q3 Z p0 p1 h0 n0 _ s₁.heap _
      rw [e0]
      exact ⟨congrArg (fun z => some (Value.int z)) (show p1 = (own_min p0 p1) from by unfold own_min; simp only [hc2, if_true, if_false]), N0, rfl⟩
  · -- it isn't
    have c4 : ∀ t, Steps p.tables e below (s₁.setTop (mkF m 10 #[.val (.int p0), .val (.int p1)] [(.int p0)])) t → Steps p.tables e below (s₁.setTop (mkF m 2 #[.val (.int p0), .val (.int p1)] [(.int p1), (.int p0)])) t := by
      intro t kt
      show Steps p.tables e below (s₁.setTop (mkF m 2 #[.val (.int p0), .val (.int p1)] [(.int p1), (.int p0)])) _
      refine XS.icmpNo X0.here hx rfl (hb hby d3_2) rfl (flt hc2).2.2.1 ?_
      show Steps p.tables e below (s₁.setTop (mkF m 5 #[.val (.int p0), .val (.int p1)] [])) _
      refine XS.iloadN X0.here hx rfl (hb hby d3_5) rfl ?_
      show Steps p.tables e below (s₁.setTop (mkF m 6 #[.val (.int p0), .val (.int p1)] [(.int p0)])) _
      refine XS.goto X0.here hx rfl (pc0 := 6) (pc' := 10) rfl (hb hby d3_6) (by decide) (by decide) ?_
      exact kt
    obtain ⟨fs, hr, hrun, hended, hW, hsame⟩ := X0.leave (v := some (.int p0)) (fun h => by rw [Bd.returns] at h; cases h)
    refine ⟨_, _, pre0 _ (c1 _ (c4 _ (?_))), hrun, hended, _, _, rfl, ?_, ⟨_, rfl⟩, hW, hsame.mono (by decide) (by decide)⟩
    · show Steps p.tables e below (s₁.setTop (mkF m 10 #[.val (.int p0), .val (.int p1)] [(.int p0)])) _
      exact retI X0 hx Bd.returns (hb hby d3_10) hr
    · show Q3 Z p0 p1 h0 n0 _ s₁.heap _
      rw [e0]
      exact ⟨congrArg (fun z => some (Value.int z)) (show p0 = (own_min p0 p1) from by unfold own_min; simp only [hc2, if_true, if_false]), N0, rfl⟩
theorem d6_0 : decode jdk_35_method_50_code 0 = .ok (.lload_n 0, 1) := by decide +kernel
theorem d6_1 : decode jdk_35_method_50_code 1 = .ok (.lload_n 0, 1) := by decide +kernel
theorem d6_2 : decode jdk_35_method_50_code 2 = .ok (.iconst 1, 1) := by decide +kernel
theorem d6_3 : decode jdk_35_method_50_code 3 = .ok (.lushr, 1) := by decide +kernel
theorem d6_4 : decode jdk_35_method_50_code 4 = .ok (.ldc2_w 314, 3) := by decide +kernel
theorem d6_7 : decode jdk_35_method_50_code 7 = .ok (.land, 1) := by decide +kernel
theorem d6_8 : decode jdk_35_method_50_code 8 = .ok (.lsub, 1) := by decide +kernel
theorem d6_9 : decode jdk_35_method_50_code 9 = .ok (.lstore_n 0, 1) := by decide +kernel
theorem d6_10 : decode jdk_35_method_50_code 10 = .ok (.lload_n 0, 1) := by decide +kernel
theorem d6_11 : decode jdk_35_method_50_code 11 = .ok (.ldc2_w 316, 3) := by decide +kernel
theorem d6_14 : decode jdk_35_method_50_code 14 = .ok (.land, 1) := by decide +kernel
theorem d6_15 : decode jdk_35_method_50_code 15 = .ok (.lload_n 0, 1) := by decide +kernel
theorem d6_16 : decode jdk_35_method_50_code 16 = .ok (.iconst 2, 1) := by decide +kernel
theorem d6_17 : decode jdk_35_method_50_code 17 = .ok (.lushr, 1) := by decide +kernel
theorem d6_18 : decode jdk_35_method_50_code 18 = .ok (.ldc2_w 316, 3) := by decide +kernel
theorem d6_21 : decode jdk_35_method_50_code 21 = .ok (.land, 1) := by decide +kernel
theorem d6_22 : decode jdk_35_method_50_code 22 = .ok (.ladd, 1) := by decide +kernel
theorem d6_23 : decode jdk_35_method_50_code 23 = .ok (.lstore_n 0, 1) := by decide +kernel
theorem d6_24 : decode jdk_35_method_50_code 24 = .ok (.lload_n 0, 1) := by decide +kernel
theorem d6_25 : decode jdk_35_method_50_code 25 = .ok (.lload_n 0, 1) := by decide +kernel
theorem d6_26 : decode jdk_35_method_50_code 26 = .ok (.iconst 4, 1) := by decide +kernel
theorem d6_27 : decode jdk_35_method_50_code 27 = .ok (.lushr, 1) := by decide +kernel
theorem d6_28 : decode jdk_35_method_50_code 28 = .ok (.ladd, 1) := by decide +kernel
theorem d6_29 : decode jdk_35_method_50_code 29 = .ok (.ldc2_w 318, 3) := by decide +kernel
theorem d6_32 : decode jdk_35_method_50_code 32 = .ok (.land, 1) := by decide +kernel
theorem d6_33 : decode jdk_35_method_50_code 33 = .ok (.lstore_n 0, 1) := by decide +kernel
theorem d6_34 : decode jdk_35_method_50_code 34 = .ok (.lload_n 0, 1) := by decide +kernel
theorem d6_35 : decode jdk_35_method_50_code 35 = .ok (.lload_n 0, 1) := by decide +kernel
theorem d6_36 : decode jdk_35_method_50_code 36 = .ok (.bipush 8, 2) := by decide +kernel
theorem d6_38 : decode jdk_35_method_50_code 38 = .ok (.lushr, 1) := by decide +kernel
theorem d6_39 : decode jdk_35_method_50_code 39 = .ok (.ladd, 1) := by decide +kernel
theorem d6_40 : decode jdk_35_method_50_code 40 = .ok (.lstore_n 0, 1) := by decide +kernel
theorem d6_41 : decode jdk_35_method_50_code 41 = .ok (.lload_n 0, 1) := by decide +kernel
theorem d6_42 : decode jdk_35_method_50_code 42 = .ok (.lload_n 0, 1) := by decide +kernel
theorem d6_43 : decode jdk_35_method_50_code 43 = .ok (.bipush 16, 2) := by decide +kernel
theorem d6_45 : decode jdk_35_method_50_code 45 = .ok (.lushr, 1) := by decide +kernel
theorem d6_46 : decode jdk_35_method_50_code 46 = .ok (.ladd, 1) := by decide +kernel
theorem d6_47 : decode jdk_35_method_50_code 47 = .ok (.lstore_n 0, 1) := by decide +kernel
theorem d6_48 : decode jdk_35_method_50_code 48 = .ok (.lload_n 0, 1) := by decide +kernel
theorem d6_49 : decode jdk_35_method_50_code 49 = .ok (.lload_n 0, 1) := by decide +kernel
theorem d6_50 : decode jdk_35_method_50_code 50 = .ok (.bipush 32, 2) := by decide +kernel
theorem d6_52 : decode jdk_35_method_50_code 52 = .ok (.lushr, 1) := by decide +kernel
theorem d6_53 : decode jdk_35_method_50_code 53 = .ok (.ladd, 1) := by decide +kernel
theorem d6_54 : decode jdk_35_method_50_code 54 = .ok (.lstore_n 0, 1) := by decide +kernel
theorem d6_55 : decode jdk_35_method_50_code 55 = .ok (.lload_n 0, 1) := by decide +kernel
theorem d6_56 : decode jdk_35_method_50_code 56 = .ok (.l2i, 1) := by decide +kernel
theorem d6_57 : decode jdk_35_method_50_code 57 = .ok (.bipush 127, 2) := by decide +kernel
theorem d6_59 : decode jdk_35_method_50_code 59 = .ok (.iand, 1) := by decide +kernel
theorem d6_60 : decode jdk_35_method_50_code 60 = .ok (.ireturn, 1) := by decide +kernel
theorem pn_6 : plainName "java/lang/Long" = true := by first | (simp [plainName, overriddenIn]; done) | decide +kernel
theorem ef_6 (m : MethodId) (x0 : Int64) : entryFrame m #[(.long x0)] 2 = mkF m 0 #[.val (.long x0), .second] [] := by first | (simp [entryFrame, mkF, argsToLocals, Value.category]; done) | rfl
def Q6 (Z : State) (q0 : Int64) (h0 : Heap) (n0 : Nat) (v : Option Value) (h : Heap) (L : List Loc) : Prop := v = some (.int (own_bc q0)) ∧ Fr n0 L ∧ h = h0
set_option maxRecDepth 65536 in
set_option maxHeartbeats 40000000 in
theorem rm6 (l : Launch) (Z : State) (a0 : Array Value) (hw : ∀ d ∈ tables_1, d.before a0 Z = true) (ws : List Jvm.Cond) (q0 : Int64)  (h0 : Heap) (n0 : Nat) (Z0 : n0 ≤ h0.size) :
    MetFree l (⟨"java/lang/Long", "bitCount", "(J)I"⟩ : MethodName) (head1 (Jvm.Cond.code (⟨"java/lang/Long", "bitCount", "(J)I"⟩ : MethodName) jdk_35_method_50_code 2 (some .int) :: ws) ({ frames := 0, cells := 0, slots := 0, locals := 0 } : Room)) (fun a U => a = #[(.long q0)] ∧ Z.Warmed39 U.vm ∧ U.heap = h0) (fun _ _ _ _ _ => True) (fun _ U o U' => ∃ v L, o = .returned v ∧ Q6 Z q0 h0 n0 v U'.heap L ∧ FrameEnd U o U' L ({ frames := 0, cells := 0, slots := 0, locals := 0 } : Room).cells ({ frames := 0, cells := 0, slots := 0, locals := 0 } : Room).slots) := by
  refine MetFree.of_bodySF (plainFor_of_name pn_6) hisR ?_
  intro p e s m args below meth c s₁ Bd hml0 hP hK
  obtain ⟨rfl, hZ, hh⟩ := hP
  have hx := Bd.exec
  have hby := Bd.bytes
  have hml : c.maxLocals = 2 := hml0
  have hown : s.vm.findClass "java/lang/Long" = some m.cls := findClass_of_methodNamed Bd.named
  have hnm := (name_of_methodNamed Bd.named Bd.method).1
  have X0 : Stand p l e ({ frames := 0, cells := 0, slots := 0, locals := 0 } : Room) s m #[(.long q0)] below meth c s₁ [] 0 0 := Stand.of_body Bd
  have e0 : s₁.heap = h0 := by rw [← hh, Bd.state]; rfl
  have N0 := Fr.nil n0
  have pre0 : ∀ t, Steps p.tables e below (s₁.setTop (mkF m 0 #[.val (.long q0), .second] [])) t → Steps p.tables e below (s₁.setTop (entryFrame m #[(.long q0)] 2)) t := fun t k => castTop (ef_6 m q0) k
  have c1 : ∀ t, Steps p.tables e below (s₁.setTop (mkF m 10 #[.val (.long (q0 - (((q0.toUInt64 >>> ((1 : Int32) &&& 0x3f).toInt64.toUInt64).toInt64) &&& (6148914691236517205 : Int64)))), .second] [])) t → Steps p.tables e below (s₁.setTop (mkF m 0 #[.val (.long q0), .second] [])) t := by
    intro t kt
    show Steps p.tables e below (s₁.setTop (mkF m 0 #[.val (.long q0), .second] [])) _
    refine XS.lloadN X0.here hx rfl (hb hby d6_0) rfl ?_
    show Steps p.tables e below (s₁.setTop (mkF m 1 #[.val (.long q0), .second] [(.long q0)])) _
    refine XS.lloadN X0.here hx rfl (hb hby d6_1) rfl ?_
    show Steps p.tables e below (s₁.setTop (mkF m 2 #[.val (.long q0), .second] [(.long q0), (.long q0)])) _
    refine XS.iconst X0.here hx rfl (hb hby d6_2) ?_
    show Steps p.tables e below (s₁.setTop (mkF m 3 #[.val (.long q0), .second] [(.int (1 : Int32)), (.long q0), (.long q0)])) _
    refine XS.lushr X0.here hx rfl (hb hby d6_3) rfl ?_
    show Steps p.tables e below (s₁.setTop (mkF m 4 #[.val (.long q0), .second] [(.long ((q0.toUInt64 >>> ((1 : Int32) &&& 0x3f).toInt64.toUInt64).toInt64)), (.long q0)])) _
    refine X0.ldc2Long hx hown (mvT hZ (hw _ (List.mem_of_getElem? (i := 32) rfl))) (g := (mkF m 4 #[.val (.long q0), .second] [(.long ((q0.toUInt64 >>> ((1 : Int32) &&& 0x3f).toInt64.toUInt64).toInt64)), (.long q0)])) rfl (hb hby d6_4) _ ?_
    show Steps p.tables e below (s₁.setTop (mkF m 7 #[.val (.long q0), .second] [(.long (6148914691236517205 : Int64)), (.long ((q0.toUInt64 >>> ((1 : Int32) &&& 0x3f).toInt64.toUInt64).toInt64)), (.long q0)])) _
    refine XS.land X0.here hx rfl (hb hby d6_7) rfl ?_
    show Steps p.tables e below (s₁.setTop (mkF m 8 #[.val (.long q0), .second] [(.long (((q0.toUInt64 >>> ((1 : Int32) &&& 0x3f).toInt64.toUInt64).toInt64) &&& (6148914691236517205 : Int64))), (.long q0)])) _
    refine XS.lsub X0.here hx rfl (hb hby d6_8) rfl ?_
    show Steps p.tables e below (s₁.setTop (mkF m 9 #[.val (.long q0), .second] [(.long (q0 - (((q0.toUInt64 >>> ((1 : Int32) &&& 0x3f).toInt64.toUInt64).toInt64) &&& (6148914691236517205 : Int64))))])) _
    refine XS.lstoreN X0.here hx rfl (hb hby d6_9) rfl (l' := #[.val (.long (q0 - (((q0.toUInt64 >>> ((1 : Int32) &&& 0x3f).toInt64.toUInt64).toInt64) &&& (6148914691236517205 : Int64)))), .second]) rfl ?_
    exact kt
  have c2 : ∀ t, Steps p.tables e below (s₁.setTop (mkF m 10 #[.val (.long (own_b1 q0)), .second] [])) t → Steps p.tables e below (s₁.setTop (mkF m 10 #[.val (.long (q0 - (((q0.toUInt64 >>> ((1 : Int32) &&& 0x3f).toInt64.toUInt64).toInt64) &&& (6148914691236517205 : Int64)))), .second] [])) t := fun t kt => castTop (congrArg (fun zv => (mkF m 10 #[.val (.long zv), .second] [])) (show (q0 - (((q0.toUInt64 >>> ((1 : Int32) &&& 0x3f).toInt64.toUInt64).toInt64) &&& (6148914691236517205 : Int64))) = (own_b1 q0) from rfl)) kt
  have c3 : ∀ t, Steps p.tables e below (s₁.setTop (mkF m 24 #[.val (.long (((own_b1 q0) &&& (3689348814741910323 : Int64)) + ((((own_b1 q0).toUInt64 >>> ((2 : Int32) &&& 0x3f).toInt64.toUInt64).toInt64) &&& (3689348814741910323 : Int64)))), .second] [])) t → Steps p.tables e below (s₁.setTop (mkF m 10 #[.val (.long (own_b1 q0)), .second] [])) t := by
    intro t kt
    show Steps p.tables e below (s₁.setTop (mkF m 10 #[.val (.long (own_b1 q0)), .second] [])) _
    refine XS.lloadN X0.here hx rfl (hb hby d6_10) rfl ?_
    show Steps p.tables e below (s₁.setTop (mkF m 11 #[.val (.long (own_b1 q0)), .second] [(.long (own_b1 q0))])) _
    refine X0.ldc2Long hx hown (mvT hZ (hw _ (List.mem_of_getElem? (i := 33) rfl))) (g := (mkF m 11 #[.val (.long (own_b1 q0)), .second] [(.long (own_b1 q0))])) rfl (hb hby d6_11) _ ?_
    show Steps p.tables e below (s₁.setTop (mkF m 14 #[.val (.long (own_b1 q0)), .second] [(.long (3689348814741910323 : Int64)), (.long (own_b1 q0))])) _
    refine XS.land X0.here hx rfl (hb hby d6_14) rfl ?_
    show Steps p.tables e below (s₁.setTop (mkF m 15 #[.val (.long (own_b1 q0)), .second] [(.long ((own_b1 q0) &&& (3689348814741910323 : Int64)))])) _
    refine XS.lloadN X0.here hx rfl (hb hby d6_15) rfl ?_
    show Steps p.tables e below (s₁.setTop (mkF m 16 #[.val (.long (own_b1 q0)), .second] [(.long (own_b1 q0)), (.long ((own_b1 q0) &&& (3689348814741910323 : Int64)))])) _
    refine XS.iconst X0.here hx rfl (hb hby d6_16) ?_
    show Steps p.tables e below (s₁.setTop (mkF m 17 #[.val (.long (own_b1 q0)), .second] [(.int (2 : Int32)), (.long (own_b1 q0)), (.long ((own_b1 q0) &&& (3689348814741910323 : Int64)))])) _
    refine XS.lushr X0.here hx rfl (hb hby d6_17) rfl ?_
    show Steps p.tables e below (s₁.setTop (mkF m 18 #[.val (.long (own_b1 q0)), .second] [(.long (((own_b1 q0).toUInt64 >>> ((2 : Int32) &&& 0x3f).toInt64.toUInt64).toInt64)), (.long ((own_b1 q0) &&& (3689348814741910323 : Int64)))])) _
    refine X0.ldc2Long hx hown (mvT hZ (hw _ (List.mem_of_getElem? (i := 33) rfl))) (g := (mkF m 18 #[.val (.long (own_b1 q0)), .second] [(.long (((own_b1 q0).toUInt64 >>> ((2 : Int32) &&& 0x3f).toInt64.toUInt64).toInt64)), (.long ((own_b1 q0) &&& (3689348814741910323 : Int64)))])) rfl (hb hby d6_18) _ ?_
    show Steps p.tables e below (s₁.setTop (mkF m 21 #[.val (.long (own_b1 q0)), .second] [(.long (3689348814741910323 : Int64)), (.long (((own_b1 q0).toUInt64 >>> ((2 : Int32) &&& 0x3f).toInt64.toUInt64).toInt64)), (.long ((own_b1 q0) &&& (3689348814741910323 : Int64)))])) _
    refine XS.land X0.here hx rfl (hb hby d6_21) rfl ?_
    show Steps p.tables e below (s₁.setTop (mkF m 22 #[.val (.long (own_b1 q0)), .second] [(.long ((((own_b1 q0).toUInt64 >>> ((2 : Int32) &&& 0x3f).toInt64.toUInt64).toInt64) &&& (3689348814741910323 : Int64))), (.long ((own_b1 q0) &&& (3689348814741910323 : Int64)))])) _
    refine XS.ladd X0.here hx rfl (hb hby d6_22) rfl ?_
    show Steps p.tables e below (s₁.setTop (mkF m 23 #[.val (.long (own_b1 q0)), .second] [(.long (((own_b1 q0) &&& (3689348814741910323 : Int64)) + ((((own_b1 q0).toUInt64 >>> ((2 : Int32) &&& 0x3f).toInt64.toUInt64).toInt64) &&& (3689348814741910323 : Int64))))])) _
    refine XS.lstoreN X0.here hx rfl (hb hby d6_23) rfl (l' := #[.val (.long (((own_b1 q0) &&& (3689348814741910323 : Int64)) + ((((own_b1 q0).toUInt64 >>> ((2 : Int32) &&& 0x3f).toInt64.toUInt64).toInt64) &&& (3689348814741910323 : Int64)))), .second]) rfl ?_
    exact kt
  have c4 : ∀ t, Steps p.tables e below (s₁.setTop (mkF m 24 #[.val (.long (own_b2 (own_b1 q0))), .second] [])) t → Steps p.tables e below (s₁.setTop (mkF m 24 #[.val (.long (((own_b1 q0) &&& (3689348814741910323 : Int64)) + ((((own_b1 q0).toUInt64 >>> ((2 : Int32) &&& 0x3f).toInt64.toUInt64).toInt64) &&& (3689348814741910323 : Int64)))), .second] [])) t := fun t kt => castTop (congrArg (fun zv => (mkF m 24 #[.val (.long zv), .second] [])) (show (((own_b1 q0) &&& (3689348814741910323 : Int64)) + ((((own_b1 q0).toUInt64 >>> ((2 : Int32) &&& 0x3f).toInt64.toUInt64).toInt64) &&& (3689348814741910323 : Int64))) = (own_b2 (own_b1 q0)) from rfl)) kt
  have c5 : ∀ t, Steps p.tables e below (s₁.setTop (mkF m 34 #[.val (.long (((own_b2 (own_b1 q0)) + (((own_b2 (own_b1 q0)).toUInt64 >>> ((4 : Int32) &&& 0x3f).toInt64.toUInt64).toInt64)) &&& (1085102592571150095 : Int64))), .second] [])) t → Steps p.tables e below (s₁.setTop (mkF m 24 #[.val (.long (own_b2 (own_b1 q0))), .second] [])) t := by
    intro t kt
    show Steps p.tables e below (s₁.setTop (mkF m 24 #[.val (.long (own_b2 (own_b1 q0))), .second] [])) _
    refine XS.lloadN X0.here hx rfl (hb hby d6_24) rfl ?_
    show Steps p.tables e below (s₁.setTop (mkF m 25 #[.val (.long (own_b2 (own_b1 q0))), .second] [(.long (own_b2 (own_b1 q0)))])) _
    refine XS.lloadN X0.here hx rfl (hb hby d6_25) rfl ?_
    show Steps p.tables e below (s₁.setTop (mkF m 26 #[.val (.long (own_b2 (own_b1 q0))), .second] [(.long (own_b2 (own_b1 q0))), (.long (own_b2 (own_b1 q0)))])) _
    refine XS.iconst X0.here hx rfl (hb hby d6_26) ?_
    show Steps p.tables e below (s₁.setTop (mkF m 27 #[.val (.long (own_b2 (own_b1 q0))), .second] [(.int (4 : Int32)), (.long (own_b2 (own_b1 q0))), (.long (own_b2 (own_b1 q0)))])) _
    refine XS.lushr X0.here hx rfl (hb hby d6_27) rfl ?_
    show Steps p.tables e below (s₁.setTop (mkF m 28 #[.val (.long (own_b2 (own_b1 q0))), .second] [(.long (((own_b2 (own_b1 q0)).toUInt64 >>> ((4 : Int32) &&& 0x3f).toInt64.toUInt64).toInt64)), (.long (own_b2 (own_b1 q0)))])) _
    refine XS.ladd X0.here hx rfl (hb hby d6_28) rfl ?_
    show Steps p.tables e below (s₁.setTop (mkF m 29 #[.val (.long (own_b2 (own_b1 q0))), .second] [(.long ((own_b2 (own_b1 q0)) + (((own_b2 (own_b1 q0)).toUInt64 >>> ((4 : Int32) &&& 0x3f).toInt64.toUInt64).toInt64)))])) _
    refine X0.ldc2Long hx hown (mvT hZ (hw _ (List.mem_of_getElem? (i := 34) rfl))) (g := (mkF m 29 #[.val (.long (own_b2 (own_b1 q0))), .second] [(.long ((own_b2 (own_b1 q0)) + (((own_b2 (own_b1 q0)).toUInt64 >>> ((4 : Int32) &&& 0x3f).toInt64.toUInt64).toInt64)))])) rfl (hb hby d6_29) _ ?_
    show Steps p.tables e below (s₁.setTop (mkF m 32 #[.val (.long (own_b2 (own_b1 q0))), .second] [(.long (1085102592571150095 : Int64)), (.long ((own_b2 (own_b1 q0)) + (((own_b2 (own_b1 q0)).toUInt64 >>> ((4 : Int32) &&& 0x3f).toInt64.toUInt64).toInt64)))])) _
    refine XS.land X0.here hx rfl (hb hby d6_32) rfl ?_
    show Steps p.tables e below (s₁.setTop (mkF m 33 #[.val (.long (own_b2 (own_b1 q0))), .second] [(.long (((own_b2 (own_b1 q0)) + (((own_b2 (own_b1 q0)).toUInt64 >>> ((4 : Int32) &&& 0x3f).toInt64.toUInt64).toInt64)) &&& (1085102592571150095 : Int64)))])) _
    refine XS.lstoreN X0.here hx rfl (hb hby d6_33) rfl (l' := #[.val (.long (((own_b2 (own_b1 q0)) + (((own_b2 (own_b1 q0)).toUInt64 >>> ((4 : Int32) &&& 0x3f).toInt64.toUInt64).toInt64)) &&& (1085102592571150095 : Int64))), .second]) rfl ?_
    exact kt
  have c6 : ∀ t, Steps p.tables e below (s₁.setTop (mkF m 34 #[.val (.long (own_b3 (own_b2 (own_b1 q0)))), .second] [])) t → Steps p.tables e below (s₁.setTop (mkF m 34 #[.val (.long (((own_b2 (own_b1 q0)) + (((own_b2 (own_b1 q0)).toUInt64 >>> ((4 : Int32) &&& 0x3f).toInt64.toUInt64).toInt64)) &&& (1085102592571150095 : Int64))), .second] [])) t := fun t kt => castTop (congrArg (fun zv => (mkF m 34 #[.val (.long zv), .second] [])) (show (((own_b2 (own_b1 q0)) + (((own_b2 (own_b1 q0)).toUInt64 >>> ((4 : Int32) &&& 0x3f).toInt64.toUInt64).toInt64)) &&& (1085102592571150095 : Int64)) = (own_b3 (own_b2 (own_b1 q0))) from rfl)) kt
  have c7 : ∀ t, Steps p.tables e below (s₁.setTop (mkF m 41 #[.val (.long ((own_b3 (own_b2 (own_b1 q0))) + (((own_b3 (own_b2 (own_b1 q0))).toUInt64 >>> ((8 : Int32) &&& 0x3f).toInt64.toUInt64).toInt64))), .second] [])) t → Steps p.tables e below (s₁.setTop (mkF m 34 #[.val (.long (own_b3 (own_b2 (own_b1 q0)))), .second] [])) t := by
    intro t kt
    show Steps p.tables e below (s₁.setTop (mkF m 34 #[.val (.long (own_b3 (own_b2 (own_b1 q0)))), .second] [])) _
    refine XS.lloadN X0.here hx rfl (hb hby d6_34) rfl ?_
    show Steps p.tables e below (s₁.setTop (mkF m 35 #[.val (.long (own_b3 (own_b2 (own_b1 q0)))), .second] [(.long (own_b3 (own_b2 (own_b1 q0))))])) _
    refine XS.lloadN X0.here hx rfl (hb hby d6_35) rfl ?_
    show Steps p.tables e below (s₁.setTop (mkF m 36 #[.val (.long (own_b3 (own_b2 (own_b1 q0)))), .second] [(.long (own_b3 (own_b2 (own_b1 q0)))), (.long (own_b3 (own_b2 (own_b1 q0))))])) _
    refine XS.bipush X0.here hx rfl (hb hby d6_36) ?_
    show Steps p.tables e below (s₁.setTop (mkF m 38 #[.val (.long (own_b3 (own_b2 (own_b1 q0)))), .second] [(.int (8 : Int32)), (.long (own_b3 (own_b2 (own_b1 q0)))), (.long (own_b3 (own_b2 (own_b1 q0))))])) _
    refine XS.lushr X0.here hx rfl (hb hby d6_38) rfl ?_
    show Steps p.tables e below (s₁.setTop (mkF m 39 #[.val (.long (own_b3 (own_b2 (own_b1 q0)))), .second] [(.long (((own_b3 (own_b2 (own_b1 q0))).toUInt64 >>> ((8 : Int32) &&& 0x3f).toInt64.toUInt64).toInt64)), (.long (own_b3 (own_b2 (own_b1 q0))))])) _
    refine XS.ladd X0.here hx rfl (hb hby d6_39) rfl ?_
    show Steps p.tables e below (s₁.setTop (mkF m 40 #[.val (.long (own_b3 (own_b2 (own_b1 q0)))), .second] [(.long ((own_b3 (own_b2 (own_b1 q0))) + (((own_b3 (own_b2 (own_b1 q0))).toUInt64 >>> ((8 : Int32) &&& 0x3f).toInt64.toUInt64).toInt64)))])) _
    refine XS.lstoreN X0.here hx rfl (hb hby d6_40) rfl (l' := #[.val (.long ((own_b3 (own_b2 (own_b1 q0))) + (((own_b3 (own_b2 (own_b1 q0))).toUInt64 >>> ((8 : Int32) &&& 0x3f).toInt64.toUInt64).toInt64))), .second]) rfl ?_
    exact kt
  have c8 : ∀ t, Steps p.tables e below (s₁.setTop (mkF m 41 #[.val (.long (own_b4 (own_b3 (own_b2 (own_b1 q0))))), .second] [])) t → Steps p.tables e below (s₁.setTop (mkF m 41 #[.val (.long ((own_b3 (own_b2 (own_b1 q0))) + (((own_b3 (own_b2 (own_b1 q0))).toUInt64 >>> ((8 : Int32) &&& 0x3f).toInt64.toUInt64).toInt64))), .second] [])) t := fun t kt => castTop (congrArg (fun zv => (mkF m 41 #[.val (.long zv), .second] [])) (show ((own_b3 (own_b2 (own_b1 q0))) + (((own_b3 (own_b2 (own_b1 q0))).toUInt64 >>> ((8 : Int32) &&& 0x3f).toInt64.toUInt64).toInt64)) = (own_b4 (own_b3 (own_b2 (own_b1 q0)))) from rfl)) kt
  have c9 : ∀ t, Steps p.tables e below (s₁.setTop (mkF m 48 #[.val (.long ((own_b4 (own_b3 (own_b2 (own_b1 q0)))) + (((own_b4 (own_b3 (own_b2 (own_b1 q0)))).toUInt64 >>> ((16 : Int32) &&& 0x3f).toInt64.toUInt64).toInt64))), .second] [])) t → Steps p.tables e below (s₁.setTop (mkF m 41 #[.val (.long (own_b4 (own_b3 (own_b2 (own_b1 q0))))), .second] [])) t := by
    intro t kt
    show Steps p.tables e below (s₁.setTop (mkF m 41 #[.val (.long (own_b4 (own_b3 (own_b2 (own_b1 q0))))), .second] [])) _
    refine XS.lloadN X0.here hx rfl (hb hby d6_41) rfl ?_
    show Steps p.tables e below (s₁.setTop (mkF m 42 #[.val (.long (own_b4 (own_b3 (own_b2 (own_b1 q0))))), .second] [(.long (own_b4 (own_b3 (own_b2 (own_b1 q0)))))])) _
    refine XS.lloadN X0.here hx rfl (hb hby d6_42) rfl ?_
    show Steps p.tables e below (s₁.setTop (mkF m 43 #[.val (.long (own_b4 (own_b3 (own_b2 (own_b1 q0))))), .second] [(.long (own_b4 (own_b3 (own_b2 (own_b1 q0))))), (.long (own_b4 (own_b3 (own_b2 (own_b1 q0)))))])) _
    refine XS.bipush X0.here hx rfl (hb hby d6_43) ?_
    show Steps p.tables e below (s₁.setTop (mkF m 45 #[.val (.long (own_b4 (own_b3 (own_b2 (own_b1 q0))))), .second] [(.int (16 : Int32)), (.long (own_b4 (own_b3 (own_b2 (own_b1 q0))))), (.long (own_b4 (own_b3 (own_b2 (own_b1 q0)))))])) _
    refine XS.lushr X0.here hx rfl (hb hby d6_45) rfl ?_
    show Steps p.tables e below (s₁.setTop (mkF m 46 #[.val (.long (own_b4 (own_b3 (own_b2 (own_b1 q0))))), .second] [(.long (((own_b4 (own_b3 (own_b2 (own_b1 q0)))).toUInt64 >>> ((16 : Int32) &&& 0x3f).toInt64.toUInt64).toInt64)), (.long (own_b4 (own_b3 (own_b2 (own_b1 q0)))))])) _
    refine XS.ladd X0.here hx rfl (hb hby d6_46) rfl ?_
    show Steps p.tables e below (s₁.setTop (mkF m 47 #[.val (.long (own_b4 (own_b3 (own_b2 (own_b1 q0))))), .second] [(.long ((own_b4 (own_b3 (own_b2 (own_b1 q0)))) + (((own_b4 (own_b3 (own_b2 (own_b1 q0)))).toUInt64 >>> ((16 : Int32) &&& 0x3f).toInt64.toUInt64).toInt64)))])) _
    refine XS.lstoreN X0.here hx rfl (hb hby d6_47) rfl (l' := #[.val (.long ((own_b4 (own_b3 (own_b2 (own_b1 q0)))) + (((own_b4 (own_b3 (own_b2 (own_b1 q0)))).toUInt64 >>> ((16 : Int32) &&& 0x3f).toInt64.toUInt64).toInt64))), .second]) rfl ?_
    exact kt
  have c10 : ∀ t, Steps p.tables e below (s₁.setTop (mkF m 48 #[.val (.long (own_b5 (own_b4 (own_b3 (own_b2 (own_b1 q0)))))), .second] [])) t → Steps p.tables e below (s₁.setTop (mkF m 48 #[.val (.long ((own_b4 (own_b3 (own_b2 (own_b1 q0)))) + (((own_b4 (own_b3 (own_b2 (own_b1 q0)))).toUInt64 >>> ((16 : Int32) &&& 0x3f).toInt64.toUInt64).toInt64))), .second] [])) t := fun t kt => castTop (congrArg (fun zv => (mkF m 48 #[.val (.long zv), .second] [])) (show ((own_b4 (own_b3 (own_b2 (own_b1 q0)))) + (((own_b4 (own_b3 (own_b2 (own_b1 q0)))).toUInt64 >>> ((16 : Int32) &&& 0x3f).toInt64.toUInt64).toInt64)) = (own_b5 (own_b4 (own_b3 (own_b2 (own_b1 q0))))) from rfl)) kt
  have c11 : ∀ t, Steps p.tables e below (s₁.setTop (mkF m 55 #[.val (.long ((own_b5 (own_b4 (own_b3 (own_b2 (own_b1 q0))))) + (((own_b5 (own_b4 (own_b3 (own_b2 (own_b1 q0))))).toUInt64 >>> ((32 : Int32) &&& 0x3f).toInt64.toUInt64).toInt64))), .second] [])) t → Steps p.tables e below (s₁.setTop (mkF m 48 #[.val (.long (own_b5 (own_b4 (own_b3 (own_b2 (own_b1 q0)))))), .second] [])) t := by
    intro t kt
    show Steps p.tables e below (s₁.setTop (mkF m 48 #[.val (.long (own_b5 (own_b4 (own_b3 (own_b2 (own_b1 q0)))))), .second] [])) _
    refine XS.lloadN X0.here hx rfl (hb hby d6_48) rfl ?_
    show Steps p.tables e below (s₁.setTop (mkF m 49 #[.val (.long (own_b5 (own_b4 (own_b3 (own_b2 (own_b1 q0)))))), .second] [(.long (own_b5 (own_b4 (own_b3 (own_b2 (own_b1 q0))))))])) _
    refine XS.lloadN X0.here hx rfl (hb hby d6_49) rfl ?_
    show Steps p.tables e below (s₁.setTop (mkF m 50 #[.val (.long (own_b5 (own_b4 (own_b3 (own_b2 (own_b1 q0)))))), .second] [(.long (own_b5 (own_b4 (own_b3 (own_b2 (own_b1 q0)))))), (.long (own_b5 (own_b4 (own_b3 (own_b2 (own_b1 q0))))))])) _
    refine XS.bipush X0.here hx rfl (hb hby d6_50) ?_
    show Steps p.tables e below (s₁.setTop (mkF m 52 #[.val (.long (own_b5 (own_b4 (own_b3 (own_b2 (own_b1 q0)))))), .second] [(.int (32 : Int32)), (.long (own_b5 (own_b4 (own_b3 (own_b2 (own_b1 q0)))))), (.long (own_b5 (own_b4 (own_b3 (own_b2 (own_b1 q0))))))])) _
    refine XS.lushr X0.here hx rfl (hb hby d6_52) rfl ?_
    show Steps p.tables e below (s₁.setTop (mkF m 53 #[.val (.long (own_b5 (own_b4 (own_b3 (own_b2 (own_b1 q0)))))), .second] [(.long (((own_b5 (own_b4 (own_b3 (own_b2 (own_b1 q0))))).toUInt64 >>> ((32 : Int32) &&& 0x3f).toInt64.toUInt64).toInt64)), (.long (own_b5 (own_b4 (own_b3 (own_b2 (own_b1 q0))))))])) _
    refine XS.ladd X0.here hx rfl (hb hby d6_53) rfl ?_
    show Steps p.tables e below (s₁.setTop (mkF m 54 #[.val (.long (own_b5 (own_b4 (own_b3 (own_b2 (own_b1 q0)))))), .second] [(.long ((own_b5 (own_b4 (own_b3 (own_b2 (own_b1 q0))))) + (((own_b5 (own_b4 (own_b3 (own_b2 (own_b1 q0))))).toUInt64 >>> ((32 : Int32) &&& 0x3f).toInt64.toUInt64).toInt64)))])) _
    refine XS.lstoreN X0.here hx rfl (hb hby d6_54) rfl (l' := #[.val (.long ((own_b5 (own_b4 (own_b3 (own_b2 (own_b1 q0))))) + (((own_b5 (own_b4 (own_b3 (own_b2 (own_b1 q0))))).toUInt64 >>> ((32 : Int32) &&& 0x3f).toInt64.toUInt64).toInt64))), .second]) rfl ?_
    exact kt
  have c12 : ∀ t, Steps p.tables e below (s₁.setTop (mkF m 55 #[.val (.long (own_b6 (own_b5 (own_b4 (own_b3 (own_b2 (own_b1 q0))))))), .second] [])) t → Steps p.tables e below (s₁.setTop (mkF m 55 #[.val (.long ((own_b5 (own_b4 (own_b3 (own_b2 (own_b1 q0))))) + (((own_b5 (own_b4 (own_b3 (own_b2 (own_b1 q0))))).toUInt64 >>> ((32 : Int32) &&& 0x3f).toInt64.toUInt64).toInt64))), .second] [])) t := fun t kt => castTop (congrArg (fun zv => (mkF m 55 #[.val (.long zv), .second] [])) (show ((own_b5 (own_b4 (own_b3 (own_b2 (own_b1 q0))))) + (((own_b5 (own_b4 (own_b3 (own_b2 (own_b1 q0))))).toUInt64 >>> ((32 : Int32) &&& 0x3f).toInt64.toUInt64).toInt64)) = (own_b6 (own_b5 (own_b4 (own_b3 (own_b2 (own_b1 q0)))))) from rfl)) kt
  have c13 : ∀ t, Steps p.tables e below (s₁.setTop (mkF m 60 #[.val (.long (own_b6 (own_b5 (own_b4 (own_b3 (own_b2 (own_b1 q0))))))), .second] [(.int (((own_b6 (own_b5 (own_b4 (own_b3 (own_b2 (own_b1 q0)))))).toInt32) &&& (127 : Int32)))])) t → Steps p.tables e below (s₁.setTop (mkF m 55 #[.val (.long (own_b6 (own_b5 (own_b4 (own_b3 (own_b2 (own_b1 q0))))))), .second] [])) t := by
    intro t kt
    show Steps p.tables e below (s₁.setTop (mkF m 55 #[.val (.long (own_b6 (own_b5 (own_b4 (own_b3 (own_b2 (own_b1 q0))))))), .second] [])) _
    refine XS.lloadN X0.here hx rfl (hb hby d6_55) rfl ?_
    show Steps p.tables e below (s₁.setTop (mkF m 56 #[.val (.long (own_b6 (own_b5 (own_b4 (own_b3 (own_b2 (own_b1 q0))))))), .second] [(.long (own_b6 (own_b5 (own_b4 (own_b3 (own_b2 (own_b1 q0)))))))])) _
    refine XS.l2i X0.here hx rfl (hb hby d6_56) rfl ?_
    show Steps p.tables e below (s₁.setTop (mkF m 57 #[.val (.long (own_b6 (own_b5 (own_b4 (own_b3 (own_b2 (own_b1 q0))))))), .second] [(.int ((own_b6 (own_b5 (own_b4 (own_b3 (own_b2 (own_b1 q0)))))).toInt32))])) _
    refine XS.bipush X0.here hx rfl (hb hby d6_57) ?_
    show Steps p.tables e below (s₁.setTop (mkF m 59 #[.val (.long (own_b6 (own_b5 (own_b4 (own_b3 (own_b2 (own_b1 q0))))))), .second] [(.int (127 : Int32)), (.int ((own_b6 (own_b5 (own_b4 (own_b3 (own_b2 (own_b1 q0)))))).toInt32))])) _
    refine XS.iand X0.here hx rfl (hb hby d6_59) rfl ?_
    exact kt
  obtain ⟨fs, hr, hrun, hended, hW, hsame⟩ := X0.leave (v := some (.int (((own_b6 (own_b5 (own_b4 (own_b3 (own_b2 (own_b1 q0)))))).toInt32) &&& (127 : Int32)))) (fun h => by rw [Bd.returns] at h; cases h)
  refine ⟨_, _, pre0 _ (c1 _ (c2 _ (c3 _ (c4 _ (c5 _ (c6 _ (c7 _ (c8 _ (c9 _ (c10 _ (c11 _ (c12 _ (c13 _ (?_)))))))))))))), hrun, hended, _, _, rfl, ?_, ⟨_, rfl⟩, hW, hsame.mono (by decide) (by decide)⟩
  · show Steps p.tables e below (s₁.setTop (mkF m 60 #[.val (.long (own_b6 (own_b5 (own_b4 (own_b3 (own_b2 (own_b1 q0))))))), .second] [(.int (((own_b6 (own_b5 (own_b4 (own_b3 (own_b2 (own_b1 q0)))))).toInt32) &&& (127 : Int32)))])) _
    exact retI X0 hx Bd.returns (hb hby d6_60) hr
  · show Q6 Z q0 h0 n0 _ s₁.heap _
    rw [e0]
    exact ⟨congrArg (fun z => some (Value.int z)) (show (((own_b6 (own_b5 (own_b4 (own_b3 (own_b2 (own_b1 q0)))))).toInt32) &&& (127 : Int32)) = (own_bc q0) from by rfl), N0, rfl⟩
theorem d2_0 : decode jdk_65_method_124_code 0 = .ok (.iload_n 1, 1) := by decide +kernel
theorem d2_1 : decode jdk_65_method_124_code 1 = .ok (.aload_n 0, 1) := by decide +kernel
theorem d2_2 : decode jdk_65_method_124_code 2 = .ok (.arraylength, 1) := by decide +kernel
theorem d2_3 : decode jdk_65_method_124_code 3 = .ok (.if_icmp .ne 11, 3) := by decide +kernel
theorem d2_14 : decode jdk_65_method_124_code 14 = .ok (.iload_n 1, 1) := by decide +kernel
theorem d2_15 : decode jdk_65_method_124_code 15 = .ok (.newarray .long, 2) := by decide +kernel
theorem d2_17 : decode jdk_65_method_124_code 17 = .ok (.astore_n 2, 1) := by decide +kernel
theorem d2_18 : decode jdk_65_method_124_code 18 = .ok (.aload_n 0, 1) := by decide +kernel
theorem d2_19 : decode jdk_65_method_124_code 19 = .ok (.iconst 0, 1) := by decide +kernel
theorem d2_20 : decode jdk_65_method_124_code 20 = .ok (.aload_n 2, 1) := by decide +kernel
theorem d2_21 : decode jdk_65_method_124_code 21 = .ok (.iconst 0, 1) := by decide +kernel
theorem d2_22 : decode jdk_65_method_124_code 22 = .ok (.aload_n 0, 1) := by decide +kernel
theorem d2_23 : decode jdk_65_method_124_code 23 = .ok (.arraylength, 1) := by decide +kernel
theorem d2_24 : decode jdk_65_method_124_code 24 = .ok (.iload_n 1, 1) := by decide +kernel
theorem d2_25 : decode jdk_65_method_124_code 25 = .ok (.invokestatic 304, 3) := by decide +kernel
theorem d2_28 : decode jdk_65_method_124_code 28 = .ok (.invokestatic 150, 3) := by decide +kernel
theorem d2_31 : decode jdk_65_method_124_code 31 = .ok (.aload_n 2, 1) := by decide +kernel
theorem d2_32 : decode jdk_65_method_124_code 32 = .ok (.areturn, 1) := by decide +kernel
theorem pn_2 : plainName "java/util/Arrays" = true := by first | (simp [plainName, overriddenIn]; done) | decide +kernel
theorem ef_2 (m : MethodId) (x0 : Addr) (x1 : Int32) : entryFrame m #[(.ref x0), (.int x1)] 3 = mkF m 0 #[.val (.ref x0), .val (.int x1), .unset] [] := by first | (simp [entryFrame, mkF, argsToLocals, Value.category]; done) | rfl
def Q2 (Z : State) (r0 : Addr) (wn : Nat) (kk : ClassId) (ln : Nat) (f : Nat → Int64) (h0 : Heap) (n0 : Nat) (v : Option Value) (h : Heap) (L : List Loc) : Prop := ∃ (b : Addr) (k : ClassId), v = some (.ref b) ∧ Fr n0 L ∧ Keep h0 h [] ∧ n0 ≤ b ∧ h0.size ≤ b ∧ Arv Z h b k .long (Int32.ofNat wn) (own_l8 f) (.long (0 : Int64))
set_option maxRecDepth 65536 in
set_option maxHeartbeats 40000000 in
theorem rm2 (l : Launch) (Z : State) (a0 : Array Value) (hw : ∀ d ∈ tables_1, d.before a0 Z = true) (ws : List Jvm.Cond) (r0 : Addr) (wn : Nat) (kk : ClassId) (ln : Nat) (f : Nat → Int64) (h0 : Heap) (n0 : Nat) (Z0 : n0 ≤ h0.size) (V : Arv Z h0 r0 kk .long (Int32.ofNat ln) (own_l8 f) (.long (0 : Int64))) (hlt : ln < wn) (hwn : wn ≤ 8) (hln8 : ln ≤ 8) (hz : ∀ i, ln ≤ i → f i = 0) :
    MetFree l (⟨"java/util/Arrays", "copyOf", "([JI)[J"⟩ : MethodName) (head1 (Jvm.Cond.code (⟨"java/util/Arrays", "copyOf", "([JI)[J"⟩ : MethodName) jdk_65_method_124_code 3 (some (.array .long)) :: ws) ({ frames := 1, cells := 1, slots := 8, locals := 64 } : Room)) (fun a U => a = #[(.ref r0), (.int (Int32.ofNat wn))] ∧ Z.Warmed39 U.vm ∧ U.heap = h0) (fun _ _ _ _ _ => True) (fun _ U o U' => ∃ v L, o = .returned v ∧ Q2 Z r0 wn kk ln f h0 n0 v U'.heap L ∧ FrameEnd U o U' L ({ frames := 1, cells := 1, slots := 8, locals := 64 } : Room).cells ({ frames := 1, cells := 1, slots := 8, locals := 64 } : Room).slots) := by
  refine MetFree.of_bodySF (plainFor_of_name pn_2) hisR ?_
  intro p e s m args below meth c s₁ Bd hml0 hP hK
  obtain ⟨rfl, hZ, hh⟩ := hP
  have hx := Bd.exec
  have hby := Bd.bytes
  have hml : c.maxLocals = 3 := hml0
  have hown : s.vm.findClass "java/util/Arrays" = some m.cls := findClass_of_methodNamed Bd.named
  have hnm := (name_of_methodNamed Bd.named Bd.method).1
  have X0 : Stand p l e ({ frames := 1, cells := 1, slots := 8, locals := 64 } : Room) s m #[(.ref r0), (.int (Int32.ofNat wn))] below meth c s₁ [] 0 0 := Stand.of_body Bd
  have e0 : s₁.heap = h0 := by rw [← hh, Bd.state]; rfl
  have N0 := Fr.nil n0
  have pre0 : ∀ t, Steps p.tables e below (s₁.setTop (mkF m 0 #[.val (.ref r0), .val (.int (Int32.ofNat wn)), .unset] [])) t → Steps p.tables e below (s₁.setTop (entryFrame m #[(.ref r0), (.int (Int32.ofNat wn))] 3)) t := fun t k => castTop (ef_2 m r0 (Int32.ofNat wn)) k
  have Vc1 := V
  obtain ⟨cl1, Ar1, qk1, S1, M1, H1, G1⟩ := Vc1
  have c3 : ∀ t, Steps p.tables e below (s₁.setTop (mkF m 3 #[.val (.ref r0), .val (.int (Int32.ofNat wn)), .unset] [(.int (Int32.ofNat ln)), (.int (Int32.ofNat wn))])) t → Steps p.tables e below (s₁.setTop (mkF m 0 #[.val (.ref r0), .val (.int (Int32.ofNat wn)), .unset] [])) t := by
    intro t kt
    show Steps p.tables e below (s₁.setTop (mkF m 0 #[.val (.ref r0), .val (.int (Int32.ofNat wn)), .unset] [])) _
    refine XS.iloadN X0.here hx rfl (hb hby d2_0) rfl ?_
    show Steps p.tables e below (s₁.setTop (mkF m 1 #[.val (.ref r0), .val (.int (Int32.ofNat wn)), .unset] [(.int (Int32.ofNat wn))])) _
    refine XS.aloadN X0.here hx rfl (hb hby d2_1) rfl rfl ?_
    show Steps p.tables e below (s₁.setTop (mkF m 2 #[.val (.ref r0), .val (.int (Int32.ofNat wn)), .unset] [(.ref r0), (.int (Int32.ofNat wn))])) _
    refine X0.arraylength hx (by rw [e0]; exact Ar1.1) (State.isArrayOf_alike hZ.alike Ar1.2.1) (g := (mkF m 2 #[.val (.ref r0), .val (.int (Int32.ofNat wn)), .unset] [(.ref r0), (.int (Int32.ofNat wn))])) rfl rfl (hb hby d2_2) _ ?_
    rw [len_of S1 M1]
    exact kt
  have hd2 : ¬ ((Int32.ofNat wn) = (Int32.ofNat ln)) := by rw [own_inj wn ln (by omega) (by omega)]; omega
  have c5 : ∀ t, Steps p.tables e below (s₁.setTop (mkF m 15 #[.val (.ref r0), .val (.int (Int32.ofNat wn)), .unset] [(.int (Int32.ofNat wn))])) t → Steps p.tables e below (s₁.setTop (mkF m 3 #[.val (.ref r0), .val (.int (Int32.ofNat wn)), .unset] [(.int (Int32.ofNat ln)), (.int (Int32.ofNat wn))])) t := by
    intro t kt
    show Steps p.tables e below (s₁.setTop (mkF m 3 #[.val (.ref r0), .val (.int (Int32.ofNat wn)), .unset] [(.int (Int32.ofNat ln)), (.int (Int32.ofNat wn))])) _
    refine XS.icmpYes X0.here hx rfl (pc0 := 3) (pc' := 14) rfl (hb hby d2_3) rfl (feq hd2).2 (by decide) (by decide) ?_
    show Steps p.tables e below (s₁.setTop (mkF m 14 #[.val (.ref r0), .val (.int (Int32.ofNat wn)), .unset] [])) _
    refine XS.iloadN X0.here hx rfl (hb hby d2_14) rfl ?_
    exact kt
  obtain ⟨T4, h4, k4, X4, e4, E4, A4, st4⟩ := newP X0 hx hZ (hw _ (List.mem_of_getElem? (i := 5) rfl)) e0 (g := (mkF m 15 #[.val (.ref r0), .val (.int (Int32.ofNat wn)), .unset] [(.int (Int32.ofNat wn))])) rfl (hb hby d2_15) rfl (own_in' wn hwn).1 (cap := 8) (own_in' wn hwn).2 (by decide) (by decide) (by decide)
  obtain ⟨b4, g4⟩ : ∃ z, z = h0.size := ⟨_, rfl⟩
  rw [← g4] at A4 st4
  have g_b4 : n0 ≤ b4 := Nat.le_trans Z0 (Nat.le_of_eq g4.symm)
  have sz_b4 : h0.size ≤ b4 := Nat.le_trans (Keep.refl h0 []).1 (Nat.le_of_eq g4.symm)
  have lt_r0_4 := V.lt
  have V4 : Arv Z h4 b4 k4 .long (Int32.ofNat wn) [] (.long (0 : Int64)) := Arv.new A4 (own_in' wn hwn).1
  have VP6 : Arv Z h4 b4 k4 .long (Int32.ofNat wn) (List.replicate 8 (.long (0 : Int64))) (.long (0 : Int64)) := Arv.pad V4 (pad_rep [] (.long (0 : Int64)) 8)
  have f7 := (V.ext E4)
  have Vc8 := f7
  obtain ⟨cl8, Ar8, qk8, S8, M8, H8, G8⟩ := Vc8
  have c9 : ∀ t, Steps p.tables e below (T4.setTop (mkF m 25 #[.val (.ref r0), .val (.int (Int32.ofNat wn)), .val (.ref b4)] [(.int (Int32.ofNat wn)), (.int (Int32.ofNat ln)), (.int (0 : Int32)), (.ref b4), (.int (0 : Int32)), (.ref r0)])) t → Steps p.tables e below (T4.setTop (mkF m 17 #[.val (.ref r0), .val (.int (Int32.ofNat wn)), .unset] [(.ref b4)])) t := by
    intro t kt
    show Steps p.tables e below (T4.setTop (mkF m 17 #[.val (.ref r0), .val (.int (Int32.ofNat wn)), .unset] [(.ref b4)])) _
    refine XS.astoreN X4.here hx rfl (hb hby d2_17) rfl rfl (l' := #[.val (.ref r0), .val (.int (Int32.ofNat wn)), .val (.ref b4)]) rfl ?_
    show Steps p.tables e below (T4.setTop (mkF m 18 #[.val (.ref r0), .val (.int (Int32.ofNat wn)), .val (.ref b4)] [])) _
    refine XS.aloadN X4.here hx rfl (hb hby d2_18) rfl rfl ?_
    show Steps p.tables e below (T4.setTop (mkF m 19 #[.val (.ref r0), .val (.int (Int32.ofNat wn)), .val (.ref b4)] [(.ref r0)])) _
    refine XS.iconst X4.here hx rfl (hb hby d2_19) ?_
    show Steps p.tables e below (T4.setTop (mkF m 20 #[.val (.ref r0), .val (.int (Int32.ofNat wn)), .val (.ref b4)] [(.int (0 : Int32)), (.ref r0)])) _
    refine XS.aloadN X4.here hx rfl (hb hby d2_20) rfl rfl ?_
    show Steps p.tables e below (T4.setTop (mkF m 21 #[.val (.ref r0), .val (.int (Int32.ofNat wn)), .val (.ref b4)] [(.ref b4), (.int (0 : Int32)), (.ref r0)])) _
    refine XS.iconst X4.here hx rfl (hb hby d2_21) ?_
    show Steps p.tables e below (T4.setTop (mkF m 22 #[.val (.ref r0), .val (.int (Int32.ofNat wn)), .val (.ref b4)] [(.int (0 : Int32)), (.ref b4), (.int (0 : Int32)), (.ref r0)])) _
    refine XS.aloadN X4.here hx rfl (hb hby d2_22) rfl rfl ?_
    show Steps p.tables e below (T4.setTop (mkF m 23 #[.val (.ref r0), .val (.int (Int32.ofNat wn)), .val (.ref b4)] [(.ref r0), (.int (0 : Int32)), (.ref b4), (.int (0 : Int32)), (.ref r0)])) _
    refine X4.arraylength hx (by rw [e4]; exact Ar8.1) (State.isArrayOf_alike hZ.alike Ar8.2.1) (g := (mkF m 23 #[.val (.ref r0), .val (.int (Int32.ofNat wn)), .val (.ref b4)] [(.ref r0), (.int (0 : Int32)), (.ref b4), (.int (0 : Int32)), (.ref r0)])) rfl rfl (hb hby d2_23) _ ?_
    rw [len_of S8 M8]
    show Steps p.tables e below (T4.setTop (mkF m 24 #[.val (.ref r0), .val (.int (Int32.ofNat wn)), .val (.ref b4)] [(.int (Int32.ofNat ln)), (.int (0 : Int32)), (.ref b4), (.int (0 : Int32)), (.ref r0)])) _
    refine XS.iloadN X4.here hx rfl (hb hby d2_24) rfl ?_
    exact kt
  have f10 := (Nat.le_trans Z0 E4.1)
  obtain ⟨_, _, ⟨T11, L11, k11, n11⟩, -, X11, ⟨Lc11, hQ11, l11, y11, z11⟩, st11⟩ := Jvm.LawKit.callS X4 hx (y := (⟨"java/lang/Math", "min", "(II)I"⟩ : MethodName)) hown (mvT hZ (hw _ (List.mem_of_getElem? (i := 10) rfl))) (mvT hZ (hw _ (List.mem_of_getElem? (i := 11) rfl))) (mvT hZ (hw _ (List.mem_of_getElem? (i := 12) rfl))) (mvT hZ (hw _ (List.mem_of_getElem? (i := 13) rfl))) (by decide) (backOf (W := 4) (rm3 l Z a0 hw [] (Int32.ofNat ln) (Int32.ofNat wn)  h4 n0 f10 ) hZ (hw _ (List.mem_of_getElem? (i := 13) rfl)) (hw _ (List.mem_of_getElem? (i := 12) rfl)) (by decide) (by decide)) (g := (mkF m 25 #[.val (.ref r0), .val (.int (Int32.ofNat wn)), .val (.ref b4)] [(.int (Int32.ofNat wn)), (.int (Int32.ofNat ln)), (.int (0 : Int32)), (.ref b4), (.int (0 : Int32)), (.ref r0)])) rfl (by rw [hml]; rfl) (argsL := [(.int (Int32.ofNat ln)), (.int (Int32.ofNat wn))]) (rest := [(.int (0 : Int32)), (.ref b4), (.int (0 : Int32)), (.ref r0)]) (lenOf pd_0 rfl) rfl (by show 2 * 0 + _ ≤ _; exact Nat.le_of_eq rfl) (hb hby d2_25) (fun _ _ => ⟨rfl, e4, (by decide : 1 + 0 ≤ _), (by decide : 8 + 0 ≤ _)⟩)
  dsimp only [Pt.U, Pt.locs, Pt.cells, Pt.slots] at X11 l11 y11 z11 st11 hQ11
  subst l11 y11 z11
  obtain ⟨rfl, N11q, e11⟩ := hQ11
  have N11 := Fr.app N0 N11q
  have c12 : ∀ t, Steps p.tables e below (T11.setTop (mkF m 28 #[.val (.ref r0), .val (.int (Int32.ofNat wn)), .val (.ref b4)] [(.int (Int32.ofNat ln)), (.int (0 : Int32)), (.ref b4), (.int (0 : Int32)), (.ref r0)])) t → Steps p.tables e below (T11.setTop (mkF m 28 #[.val (.ref r0), .val (.int (Int32.ofNat wn)), .val (.ref b4)] [(.int (own_min (Int32.ofNat ln) (Int32.ofNat wn))), (.int (0 : Int32)), (.ref b4), (.int (0 : Int32)), (.ref r0)])) t := fun t kt => castTop (congrArg (fun zv => (mkF m 28 #[.val (.ref r0), .val (.int (Int32.ofNat wn)), .val (.ref b4)] [(.int zv), (.int (0 : Int32)), (.ref b4), (.int (0 : Int32)), (.ref r0)])) (show (own_min (Int32.ofNat ln) (Int32.ofNat wn)) = (Int32.ofNat ln) from own_minv ln wn (by omega) (by omega) (by omega))) kt
  obtain ⟨T13, h13, L13, X13, e13, N13, K13, V13, st13⟩ := cpA X11 hx hZ hown (hw _ (List.mem_of_getElem? (i := 14) rfl)) (hw _ (List.mem_of_getElem? (i := 17) rfl)) (hw _ (List.mem_of_getElem? (i := 15) rfl)) (hw _ (List.mem_of_getElem? (i := 16) rfl)) e11 (sp := (0 : Int32)) (dp := (0 : Int32)) (nn := (Int32.ofNat ln)) (us := ((List.range (Int32.ofNat ln).toNatClampNeg).map fun i => (own_l8 f).getD ((0 : Int32).toNatClampNeg + i) (.long (0 : Int64)))) f7 VP6 (Or.inl ⟨rfl, rfl⟩) (by decide) (by decide) (own_in' ln hln8).1 (by rw [own_clamp ln (by omega)]; show 0 + ln ≤ ln; omega) (by rw [own_clamp ln (by omega), own_clamp wn (by omega)]; show 0 + ln ≤ wn; omega) rfl (by rw [own_clamp ln (by omega)]; simp; omega) N11 g_b4 (g := (mkF m 28 #[.val (.ref r0), .val (.int (Int32.ofNat wn)), .val (.ref b4)] [(.int (Int32.ofNat ln)), (.int (0 : Int32)), (.ref b4), (.int (0 : Int32)), (.ref r0)])) rfl (by rw [hml]; rfl) (rest := []) rfl (hb hby d2_28) (by decide) (W := 0) (by show 2 * 0 + _ ≤ _; exact Nat.le_of_eq rfl) (by decide)
  have V13x : Arv Z h13 b4 k4 .long (Int32.ofNat wn) (own_l8 f) (.long (0 : Int64)) := V13.pad (own_copy f ln hln8 hz)
  have c14 : ∀ t, Steps p.tables e below (T13.setTop (mkF m 32 #[.val (.ref r0), .val (.int (Int32.ofNat wn)), .val (.ref b4)] [(.ref b4)])) t → Steps p.tables e below (T13.setTop (mkF m 31 #[.val (.ref r0), .val (.int (Int32.ofNat wn)), .val (.ref b4)] [])) t := by
    intro t kt
    show Steps p.tables e below (T13.setTop (mkF m 31 #[.val (.ref r0), .val (.int (Int32.ofNat wn)), .val (.ref b4)] [])) _
    refine XS.aloadN X13.here hx rfl (hb hby d2_31) rfl rfl ?_
    exact kt
  obtain ⟨fs, hr, hrun, hended, hW, hsame⟩ := X13.leave (v := some (.ref b4)) (fun h => by rw [Bd.returns] at h; cases h)
  have f16 := (((Keep.refl h0 []).ext E4).trans K13 (allS (Or.inr sz_b4) all0))
  refine ⟨_, _, pre0 _ (c3 _ (c5 _ (st4 _ (c9 _ (st11 _ (c12 _ (st13 _ (c14 _ (?_))))))))), hrun, hended, _, _, rfl, ?_, ⟨_, rfl⟩, hW, hsame.mono (by decide) (by decide)⟩
  · show Steps p.tables e below (T13.setTop (mkF m 32 #[.val (.ref r0), .val (.int (Int32.ofNat wn)), .val (.ref b4)] [(.ref b4)])) _
    jvm_step X13.here [X13.here.top, hx, (hb hby d2_32), X13.method', Bd.returns, Value.isRef, FieldType.isReference]
    first | (intro acts; rw [hr _ acts rfl rfl rfl]) | rw [hr _ _ rfl rfl rfl]
    exact Steps.refl _
  · show Q2 Z r0 wn kk ln f h0 n0 _ T13.heap _
    rw [e13]
    exact ⟨b4, k4, rfl, N13, f16, g_b4, sz_b4, V13x⟩
theorem d4_62 : decode prog_13_method_1_code 62 = .ok (.iload 6, 2) := by decide +kernel
theorem d4_64 : decode prog_13_method_1_code 64 = .ok (.iload 5, 2) := by decide +kernel
theorem d4_66 : decode prog_13_method_1_code 66 = .ok (.if_icmp .ge 24, 3) := by decide +kernel
theorem d4_69 : decode prog_13_method_1_code 69 = .ok (.aload 4, 2) := by decide +kernel
theorem d4_71 : decode prog_13_method_1_code 71 = .ok (.iload 6, 2) := by decide +kernel
theorem d4_73 : decode prog_13_method_1_code 73 = .ok (.laload, 1) := by decide +kernel
theorem d4_74 : decode prog_13_method_1_code 74 = .ok (.lstore 7, 2) := by decide +kernel
theorem d4_76 : decode prog_13_method_1_code 76 = .ok (.iload_n 3, 1) := by decide +kernel
theorem d4_77 : decode prog_13_method_1_code 77 = .ok (.lload 7, 2) := by decide +kernel
theorem d4_79 : decode prog_13_method_1_code 79 = .ok (.invokestatic 19, 3) := by decide +kernel
theorem d4_82 : decode prog_13_method_1_code 82 = .ok (.iadd, 1) := by decide +kernel
theorem d4_83 : decode prog_13_method_1_code 83 = .ok (.istore_n 3, 1) := by decide +kernel
theorem d4_84 : decode prog_13_method_1_code 84 = .ok (.iinc 6 1, 3) := by decide +kernel
theorem d4_87 : decode prog_13_method_1_code 87 = .ok (.goto (-25), 3) := by decide +kernel
set_option maxRecDepth 65536 in
set_option maxHeartbeats 40000000 in
theorem tn62 {p : Program} {l : Launch} {e : Env} {R : Room} {s : State} {m : MethodId} {args : Array Value} {below : List Frame} {meth : Method} {c : Code} {T0 : State} {locs : List Loc} {cells slots : Nat} {Z : State} {a0 : Array Value} {h0 : Heap} {n0 : Nat} (r0 r1 : Addr) (p2 ct : Int32) (ln i : Nat) (s7 s8 : Slot) (k1 : ClassId) (f : Nat → Int64)
    (X0 : Stand p l e R s m args below meth c T0 locs cells slots) (hx : p.tables.exec = Jvm.exec) (hZ : Z.Warmed39 s.vm) (hw : ∀ d ∈ tables_1, d.before a0 Z = true) (hby : c.code = prog_13_method_1_code) (hml : c.maxLocals = 9) (hown : s.vm.findClass "com/example/emex/emex/explain/Positions" = some m.cls) (e0 : T0.heap = h0) (N0 : Fr n0 locs) (Z0 : n0 ≤ h0.size) (V : Arv Z h0 r1 k1 .long (Int32.ofNat ln) (own_l8 f) (.long (0 : Int64))) (hl8 : ln ≤ 8) (hi : i < ln) (hs : (s7 = .unset ∧ s8 = .unset) ∨ ∃ w : Int64, s7 = .val (.long w) ∧ s8 = .second) (hcl : cells + 0 ≤ R.cells) (hsl : slots + 0 ≤ R.slots) (hfr : 0 + 1 ≤ R.frames) (hlo : 1 + (2 + 11) + 0 ≤ R.locals) :
    ∃ (T' : State) (locs' : List Loc) (h' : Heap), Stand p l e R s m args below meth c T' locs' cells slots ∧ T'.heap = h' ∧ Fr n0 locs' ∧ Keep h0 h' [] ∧ h' = h0 ∧ ∀ t, Steps p.tables e below (T'.setTop (mkF m 62 #[.val (.ref r0), .val (.ref r1), .val (.int p2), .val (.int (ct + (own_bc (f i)))), .val (.ref r1), .val (.int (Int32.ofNat ln)), .val (.int ((Int32.ofNat i) + (1 : Int32))), .val (.long (f i)), .second] [])) t → Steps p.tables e below (T0.setTop (mkF m 62 #[.val (.ref r0), .val (.ref r1), .val (.int p2), .val (.int ct), .val (.ref r1), .val (.int (Int32.ofNat ln)), .val (.int (Int32.ofNat i)), s7, s8] [])) t := by
  have c2 : ∀ t, Steps p.tables e below (T0.setTop (mkF m 66 #[.val (.ref r0), .val (.ref r1), .val (.int p2), .val (.int ct), .val (.ref r1), .val (.int (Int32.ofNat ln)), .val (.int (Int32.ofNat i)), s7, s8] [(.int (Int32.ofNat ln)), (.int (Int32.ofNat i))])) t → Steps p.tables e below (T0.setTop (mkF m 62 #[.val (.ref r0), .val (.ref r1), .val (.int p2), .val (.int ct), .val (.ref r1), .val (.int (Int32.ofNat ln)), .val (.int (Int32.ofNat i)), s7, s8] [])) t := by
    intro t kt
    show Steps p.tables e below (T0.setTop (mkF m 62 #[.val (.ref r0), .val (.ref r1), .val (.int p2), .val (.int ct), .val (.ref r1), .val (.int (Int32.ofNat ln)), .val (.int (Int32.ofNat i)), s7, s8] [])) _
    refine XS.iload X0.here hx rfl (hb hby d4_62) rfl ?_
    show Steps p.tables e below (T0.setTop (mkF m 64 #[.val (.ref r0), .val (.ref r1), .val (.int p2), .val (.int ct), .val (.ref r1), .val (.int (Int32.ofNat ln)), .val (.int (Int32.ofNat i)), s7, s8] [(.int (Int32.ofNat i))])) _
    refine XS.iload X0.here hx rfl (hb hby d4_64) rfl ?_
    exact kt
  have hd1 : (Int32.ofNat i) < (Int32.ofNat ln) := by rw [own_lt i ln (by omega) (by omega)]; exact hi
  have Vc3 := V
  obtain ⟨cl3, Ar3, qk3, S3, M3, H3, G3⟩ := Vc3
  have hin3 : ¬ ((Int32.ofNat i) < 0 ∨ cl3.slots.size ≤ ((Int32.ofNat i)).toNatClampNeg) := inb_of S3 (own_in i ln hi hl8)
  have hat3 : cl3.slots[((Int32.ofNat i)).toNatClampNeg]? = some (.long (f i)) := H3.at hin3 (own_at8' f i (by omega) _)
  have c4 : ∀ t, Steps p.tables e below (T0.setTop (mkF m 79 #[.val (.ref r0), .val (.ref r1), .val (.int p2), .val (.int ct), .val (.ref r1), .val (.int (Int32.ofNat ln)), .val (.int (Int32.ofNat i)), .val (.long (f i)), .second] [(.long (f i)), (.int ct)])) t → Steps p.tables e below (T0.setTop (mkF m 66 #[.val (.ref r0), .val (.ref r1), .val (.int p2), .val (.int ct), .val (.ref r1), .val (.int (Int32.ofNat ln)), .val (.int (Int32.ofNat i)), s7, s8] [(.int (Int32.ofNat ln)), (.int (Int32.ofNat i))])) t := by
    intro t kt
    show Steps p.tables e below (T0.setTop (mkF m 66 #[.val (.ref r0), .val (.ref r1), .val (.int p2), .val (.int ct), .val (.ref r1), .val (.int (Int32.ofNat ln)), .val (.int (Int32.ofNat i)), s7, s8] [(.int (Int32.ofNat ln)), (.int (Int32.ofNat i))])) _
    refine XS.icmpNo X0.here hx rfl (hb hby d4_66) rfl (tlt hd1).2.1 ?_
    show Steps p.tables e below (T0.setTop (mkF m 69 #[.val (.ref r0), .val (.ref r1), .val (.int p2), .val (.int ct), .val (.ref r1), .val (.int (Int32.ofNat ln)), .val (.int (Int32.ofNat i)), s7, s8] [])) _
    refine XS.aload X0.here hx rfl (hb hby d4_69) rfl rfl ?_
    show Steps p.tables e below (T0.setTop (mkF m 71 #[.val (.ref r0), .val (.ref r1), .val (.int p2), .val (.int ct), .val (.ref r1), .val (.int (Int32.ofNat ln)), .val (.int (Int32.ofNat i)), s7, s8] [(.ref r1)])) _
    refine XS.iload X0.here hx rfl (hb hby d4_71) rfl ?_
    show Steps p.tables e below (T0.setTop (mkF m 73 #[.val (.ref r0), .val (.ref r1), .val (.int p2), .val (.int ct), .val (.ref r1), .val (.int (Int32.ofNat ln)), .val (.int (Int32.ofNat i)), s7, s8] [(.int (Int32.ofNat i)), (.ref r1)])) _
    refine X0.laload hx (j := (Int32.ofNat i)) (v := (.long (f i))) (by rw [e0]; exact Ar3.1) (State.isArrayOf_alike hZ.alike Ar3.2.1) Ar3.2.2 hin3 hat3 (g := (mkF m 73 #[.val (.ref r0), .val (.ref r1), .val (.int p2), .val (.int ct), .val (.ref r1), .val (.int (Int32.ofNat ln)), .val (.int (Int32.ofNat i)), s7, s8] [(.int (Int32.ofNat i)), (.ref r1)])) rfl rfl (hb hby d4_73) _ ?_
    show Steps p.tables e below (T0.setTop (mkF m 74 #[.val (.ref r0), .val (.ref r1), .val (.int p2), .val (.int ct), .val (.ref r1), .val (.int (Int32.ofNat ln)), .val (.int (Int32.ofNat i)), s7, s8] [(.long (f i))])) _
    refine XS.lstore X0.here hx rfl (hb hby d4_74) rfl (l' := #[.val (.ref r0), .val (.ref r1), .val (.int p2), .val (.int ct), .val (.ref r1), .val (.int (Int32.ofNat ln)), .val (.int (Int32.ofNat i)), .val (.long (f i)), .second]) (own_s78 hs) ?_
    show Steps p.tables e below (T0.setTop (mkF m 76 #[.val (.ref r0), .val (.ref r1), .val (.int p2), .val (.int ct), .val (.ref r1), .val (.int (Int32.ofNat ln)), .val (.int (Int32.ofNat i)), .val (.long (f i)), .second] [])) _
    refine XS.iloadN X0.here hx rfl (hb hby d4_76) rfl ?_
    show Steps p.tables e below (T0.setTop (mkF m 77 #[.val (.ref r0), .val (.ref r1), .val (.int p2), .val (.int ct), .val (.ref r1), .val (.int (Int32.ofNat ln)), .val (.int (Int32.ofNat i)), .val (.long (f i)), .second] [(.int ct)])) _
    refine XS.lload X0.here hx rfl (hb hby d4_77) rfl ?_
    exact kt
  obtain ⟨_, _, ⟨T5, L5, k5, n5⟩, -, X5, ⟨Lc5, hQ5, l5, y5, z5⟩, st5⟩ := Jvm.LawKit.callS X0 hx (y := (⟨"java/lang/Long", "bitCount", "(J)I"⟩ : MethodName)) hown (mvT hZ (hw _ (List.mem_of_getElem? (i := 28) rfl))) (mvT hZ (hw _ (List.mem_of_getElem? (i := 29) rfl))) (mvT hZ (hw _ (List.mem_of_getElem? (i := 30) rfl))) (mvT hZ (hw _ (List.mem_of_getElem? (i := 31) rfl))) (by decide) (backOf (W := 1) (rm6 l Z a0 hw [] (f i)  h0 n0 Z0 ) hZ (hw _ (List.mem_of_getElem? (i := 31) rfl)) (hw _ (List.mem_of_getElem? (i := 30) rfl)) hfr hlo) (g := (mkF m 79 #[.val (.ref r0), .val (.ref r1), .val (.int p2), .val (.int ct), .val (.ref r1), .val (.int (Int32.ofNat ln)), .val (.int (Int32.ofNat i)), .val (.long (f i)), .second] [(.long (f i)), (.int ct)])) rfl (by rw [hml]; rfl) (argsL := [(.long (f i))]) (rest := [(.int ct)]) (lenOf pd_1 rfl) rfl (by show 2 * 0 + _ ≤ _; exact Nat.le_of_eq rfl) (hb hby d4_79) (fun _ _ => ⟨rfl, e0, hcl, hsl⟩)
  dsimp only [Pt.U, Pt.locs, Pt.cells, Pt.slots] at X5 l5 y5 z5 st5 hQ5
  subst l5 y5 z5
  obtain ⟨rfl, N5q, e5⟩ := hQ5
  have N5 := Fr.app N0 N5q
  have c6 : ∀ t, Steps p.tables e below (T5.setTop (mkF m 62 #[.val (.ref r0), .val (.ref r1), .val (.int p2), .val (.int (ct + (own_bc (f i)))), .val (.ref r1), .val (.int (Int32.ofNat ln)), .val (.int ((Int32.ofNat i) + (1 : Int32))), .val (.long (f i)), .second] [])) t → Steps p.tables e below (T5.setTop (mkF m 82 #[.val (.ref r0), .val (.ref r1), .val (.int p2), .val (.int ct), .val (.ref r1), .val (.int (Int32.ofNat ln)), .val (.int (Int32.ofNat i)), .val (.long (f i)), .second] [(.int (own_bc (f i))), (.int ct)])) t := by
    intro t kt
    show Steps p.tables e below (T5.setTop (mkF m 82 #[.val (.ref r0), .val (.ref r1), .val (.int p2), .val (.int ct), .val (.ref r1), .val (.int (Int32.ofNat ln)), .val (.int (Int32.ofNat i)), .val (.long (f i)), .second] [(.int (own_bc (f i))), (.int ct)])) _
    refine XS.iadd X5.here hx rfl (hb hby d4_82) rfl ?_
    show Steps p.tables e below (T5.setTop (mkF m 83 #[.val (.ref r0), .val (.ref r1), .val (.int p2), .val (.int ct), .val (.ref r1), .val (.int (Int32.ofNat ln)), .val (.int (Int32.ofNat i)), .val (.long (f i)), .second] [(.int (ct + (own_bc (f i))))])) _
    refine XS.istoreN X5.here hx rfl (hb hby d4_83) rfl (l' := #[.val (.ref r0), .val (.ref r1), .val (.int p2), .val (.int (ct + (own_bc (f i)))), .val (.ref r1), .val (.int (Int32.ofNat ln)), .val (.int (Int32.ofNat i)), .val (.long (f i)), .second]) rfl ?_
    show Steps p.tables e below (T5.setTop (mkF m 84 #[.val (.ref r0), .val (.ref r1), .val (.int p2), .val (.int (ct + (own_bc (f i)))), .val (.ref r1), .val (.int (Int32.ofNat ln)), .val (.int (Int32.ofNat i)), .val (.long (f i)), .second] [])) _
    refine XS.iinc X5.here hx rfl (hb hby d4_84) rfl (l' := #[.val (.ref r0), .val (.ref r1), .val (.int p2), .val (.int (ct + (own_bc (f i)))), .val (.ref r1), .val (.int (Int32.ofNat ln)), .val (.int ((Int32.ofNat i) + (1 : Int32))), .val (.long (f i)), .second]) rfl ?_
    show Steps p.tables e below (T5.setTop (mkF m 87 #[.val (.ref r0), .val (.ref r1), .val (.int p2), .val (.int (ct + (own_bc (f i)))), .val (.ref r1), .val (.int (Int32.ofNat ln)), .val (.int ((Int32.ofNat i) + (1 : Int32))), .val (.long (f i)), .second] [])) _
    refine XS.goto X5.here hx rfl (pc0 := 87) (pc' := 62) rfl (hb hby d4_87) (by decide) (by decide) ?_
    exact kt
  exact ⟨T5, _, h0, X5, e5, N5, (Keep.refl h0 []), rfl, fun t kt => c2 _ (c4 _ (st5 _ (c6 _ (kt))))⟩
set_option maxRecDepth 65536 in
set_option maxHeartbeats 40000000 in
theorem tn90 {p : Program} {l : Launch} {e : Env} {R : Room} {s : State} {m : MethodId} {args : Array Value} {below : List Frame} {meth : Method} {c : Code} {T0 : State} {locs : List Loc} {cells slots : Nat} {Z : State} {a0 : Array Value} {h0 : Heap} {n0 : Nat} (r0 r1 : Addr) (p2 ct : Int32) (ln i : Nat) (s7 s8 : Slot) (k1 : ClassId) (f : Nat → Int64)
    (X0 : Stand p l e R s m args below meth c T0 locs cells slots) (hx : p.tables.exec = Jvm.exec) (hZ : Z.Warmed39 s.vm) (hw : ∀ d ∈ tables_1, d.before a0 Z = true) (hby : c.code = prog_13_method_1_code) (hml : c.maxLocals = 9) (hown : s.vm.findClass "com/example/emex/emex/explain/Positions" = some m.cls) (e0 : T0.heap = h0) (N0 : Fr n0 locs) (Z0 : n0 ≤ h0.size) (V : Arv Z h0 r1 k1 .long (Int32.ofNat ln) (own_l8 f) (.long (0 : Int64))) (hl8 : ln ≤ 8) (hi : i = ln) :
    ∃ (T' : State) (locs' : List Loc) (h' : Heap), Stand p l e R s m args below meth c T' locs' cells slots ∧ T'.heap = h' ∧ Fr n0 locs' ∧ Keep h0 h' [] ∧ h' = h0 ∧ ∀ t, Steps p.tables e below (T'.setTop (mkF m 90 #[.val (.ref r0), .val (.ref r1), .val (.int p2), .val (.int ct), .val (.ref r1), .val (.int (Int32.ofNat ln)), .val (.int (Int32.ofNat i)), s7, s8] [])) t → Steps p.tables e below (T0.setTop (mkF m 62 #[.val (.ref r0), .val (.ref r1), .val (.int p2), .val (.int ct), .val (.ref r1), .val (.int (Int32.ofNat ln)), .val (.int (Int32.ofNat i)), s7, s8] [])) t := by
  have c2 : ∀ t, Steps p.tables e below (T0.setTop (mkF m 66 #[.val (.ref r0), .val (.ref r1), .val (.int p2), .val (.int ct), .val (.ref r1), .val (.int (Int32.ofNat ln)), .val (.int (Int32.ofNat i)), s7, s8] [(.int (Int32.ofNat ln)), (.int (Int32.ofNat i))])) t → Steps p.tables e below (T0.setTop (mkF m 62 #[.val (.ref r0), .val (.ref r1), .val (.int p2), .val (.int ct), .val (.ref r1), .val (.int (Int32.ofNat ln)), .val (.int (Int32.ofNat i)), s7, s8] [])) t := by
    intro t kt
    show Steps p.tables e below (T0.setTop (mkF m 62 #[.val (.ref r0), .val (.ref r1), .val (.int p2), .val (.int ct), .val (.ref r1), .val (.int (Int32.ofNat ln)), .val (.int (Int32.ofNat i)), s7, s8] [])) _
    refine XS.iload X0.here hx rfl (hb hby d4_62) rfl ?_
    show Steps p.tables e below (T0.setTop (mkF m 64 #[.val (.ref r0), .val (.ref r1), .val (.int p2), .val (.int ct), .val (.ref r1), .val (.int (Int32.ofNat ln)), .val (.int (Int32.ofNat i)), s7, s8] [(.int (Int32.ofNat i))])) _
    refine XS.iload X0.here hx rfl (hb hby d4_64) rfl ?_
    exact kt
  have hd1 : ¬ ((Int32.ofNat i) < (Int32.ofNat ln)) := by rw [own_lt i ln (by omega) (by omega)]; omega
  have c3 : ∀ t, Steps p.tables e below (T0.setTop (mkF m 90 #[.val (.ref r0), .val (.ref r1), .val (.int p2), .val (.int ct), .val (.ref r1), .val (.int (Int32.ofNat ln)), .val (.int (Int32.ofNat i)), s7, s8] [])) t → Steps p.tables e below (T0.setTop (mkF m 66 #[.val (.ref r0), .val (.ref r1), .val (.int p2), .val (.int ct), .val (.ref r1), .val (.int (Int32.ofNat ln)), .val (.int (Int32.ofNat i)), s7, s8] [(.int (Int32.ofNat ln)), (.int (Int32.ofNat i))])) t := by
    intro t kt
    show Steps p.tables e below (T0.setTop (mkF m 66 #[.val (.ref r0), .val (.ref r1), .val (.int p2), .val (.int ct), .val (.ref r1), .val (.int (Int32.ofNat ln)), .val (.int (Int32.ofNat i)), s7, s8] [(.int (Int32.ofNat ln)), (.int (Int32.ofNat i))])) _
    refine XS.icmpYes X0.here hx rfl (pc0 := 66) (pc' := 90) rfl (hb hby d4_66) rfl (flt hd1).2.1 (by decide) (by decide) ?_
    exact kt
  exact ⟨T0, _, h0, X0, e0, N0, (Keep.refl h0 []), rfl, fun t kt => c2 _ (c3 _ (kt))⟩
set_option maxRecDepth 65536 in
set_option maxHeartbeats 40000000 in
theorem lcount {p : Program} {l : Launch} {e : Env} {R : Room} {s : State} {m : MethodId} {args : Array Value} {below : List Frame} {meth : Method} {c : Code} {cells slots : Nat} {Z : State} {a0 : Array Value} {h0 : Heap} {n0 : Nat} {locs : List Loc} (r0 r1 : Addr) (p2 : Int32) (ln : Nat) (k1 : ClassId) (f : Nat → Int64) (hx : p.tables.exec = Jvm.exec) (hZ : Z.Warmed39 s.vm) (hw : ∀ d ∈ tables_1, d.before a0 Z = true) (hby : c.code = prog_13_method_1_code) (hml : c.maxLocals = 9) (hown : s.vm.findClass "com/example/emex/emex/explain/Positions" = some m.cls) (N0 : Fr n0 locs) (Z0 : n0 ≤ h0.size) (V : Arv Z h0 r1 k1 .long (Int32.ofNat ln) (own_l8 f) (.long (0 : Int64))) (hl8 : ln ≤ 8) (hcl : cells + 0 ≤ R.cells) (hsl : slots + 0 ≤ R.slots) (hfr : 0 + 1 ≤ R.frames) (hlo : 1 + (2 + 11) + 0 ≤ R.locals) :
    ∀ (k i : Nat), i + k = ln → ∀ (T0 : State) (s7 s8 : Slot), ((s7 = .unset ∧ s8 = .unset) ∨ ∃ w : Int64, s7 = .val (.long w) ∧ s8 = .second) → Stand p l e R s m args below meth c T0 locs cells slots → T0.heap = h0 →
      ∃ (T' : State) (locs' : List Loc) (t7 t8 : Slot), Stand p l e R s m args below meth c T' locs' cells slots ∧ T'.heap = h0 ∧ Fr n0 locs' ∧ ∀ t, Steps p.tables e below (T'.setTop (mkF m 90 #[.val (.ref r0), .val (.ref r1), .val (.int p2), .val (.int (own_cnt f ln)), .val (.ref r1), .val (.int (Int32.ofNat ln)), .val (.int (Int32.ofNat ln)), t7, t8] [])) t → Steps p.tables e below (T0.setTop (mkF m 62 #[.val (.ref r0), .val (.ref r1), .val (.int p2), .val (.int (own_cnt f i)), .val (.ref r1), .val (.int (Int32.ofNat ln)), .val (.int (Int32.ofNat i)), s7, s8] [])) t := by
  intro k
  induction k generalizing locs with
  | zero =>
    intro i hk T0 s7 s8 hs X e0
    obtain rfl : i = ln := by omega
    obtain ⟨T1, l1, h1, X1, e1, N1, -, q1, s1⟩ := tn90 r0 r1 p2 (own_cnt f i) i i s7 s8 k1 f X hx hZ hw hby hml hown e0 N0 Z0 V hl8 rfl
    subst q1
    exact ⟨T1, l1, s7, s8, X1, e1, N1, s1⟩
  | succ k ih =>
    intro i hk T0 s7 s8 hs X e0
    obtain ⟨T1, l1, h1, X1, e1, N1, -, q1, s1⟩ := tn62 r0 r1 p2 (own_cnt f i) ln i s7 s8 k1 f X hx hZ hw hby hml hown e0 N0 Z0 V hl8 (by omega) hs hcl hsl hfr hlo
    subst q1
    obtain ⟨T2, l2, t7, t8, X2, e2, N2, s2⟩ := ih N1 (i + 1) (by omega) T1 (.val (.long (f i))) .second (Or.inr ⟨_, rfl, rfl⟩) X1 e1
    refine ⟨T2, l2, t7, t8, X2, e2, N2, fun t kt => s1 t ?_⟩
    rw [own_up i (by omega)]
    exact s2 t kt
theorem d4_0 : decode prog_13_method_1_code 0 = .ok (.aload_n 0, 1) := by decide +kernel
theorem d4_1 : decode prog_13_method_1_code 1 = .ok (.invokespecial 1, 3) := by decide +kernel
theorem d4_4 : decode prog_13_method_1_code 4 = .ok (.aload_n 1, 1) := by decide +kernel
theorem d4_5 : decode prog_13_method_1_code 5 = .ok (.arraylength, 1) := by decide +kernel
theorem d4_6 : decode prog_13_method_1_code 6 = .ok (.istore_n 2, 1) := by decide +kernel
theorem d4_7 : decode prog_13_method_1_code 7 = .ok (.iload_n 2, 1) := by decide +kernel
theorem d4_8 : decode prog_13_method_1_code 8 = .ok (.ifCond .le 19, 3) := by decide +kernel
theorem d4_11 : decode prog_13_method_1_code 11 = .ok (.aload_n 1, 1) := by decide +kernel
theorem d4_12 : decode prog_13_method_1_code 12 = .ok (.iload_n 2, 1) := by decide +kernel
theorem d4_13 : decode prog_13_method_1_code 13 = .ok (.iconst 1, 1) := by decide +kernel
theorem d4_14 : decode prog_13_method_1_code 14 = .ok (.isub, 1) := by decide +kernel
theorem d4_15 : decode prog_13_method_1_code 15 = .ok (.laload, 1) := by decide +kernel
theorem d4_16 : decode prog_13_method_1_code 16 = .ok (.lconst 0, 1) := by decide +kernel
theorem d4_17 : decode prog_13_method_1_code 17 = .ok (.lcmp, 1) := by decide +kernel
theorem d4_18 : decode prog_13_method_1_code 18 = .ok (.ifCond .ne 9, 3) := by decide +kernel
theorem d4_27 : decode prog_13_method_1_code 27 = .ok (.aload_n 0, 1) := by decide +kernel
theorem d4_28 : decode prog_13_method_1_code 28 = .ok (.iload_n 2, 1) := by decide +kernel
theorem d4_29 : decode prog_13_method_1_code 29 = .ok (.aload_n 1, 1) := by decide +kernel
theorem d4_30 : decode prog_13_method_1_code 30 = .ok (.arraylength, 1) := by decide +kernel
theorem d4_31 : decode prog_13_method_1_code 31 = .ok (.if_icmp .ne 7, 3) := by decide +kernel
theorem d4_34 : decode prog_13_method_1_code 34 = .ok (.aload_n 1, 1) := by decide +kernel
theorem d4_35 : decode prog_13_method_1_code 35 = .ok (.goto 8, 3) := by decide +kernel
theorem d4_43 : decode prog_13_method_1_code 43 = .ok (.putfield 13, 3) := by decide +kernel
theorem d4_46 : decode prog_13_method_1_code 46 = .ok (.iconst 0, 1) := by decide +kernel
theorem d4_47 : decode prog_13_method_1_code 47 = .ok (.istore_n 3, 1) := by decide +kernel
theorem d4_48 : decode prog_13_method_1_code 48 = .ok (.aload_n 0, 1) := by decide +kernel
theorem d4_49 : decode prog_13_method_1_code 49 = .ok (.getfield 13, 3) := by decide +kernel
theorem d4_52 : decode prog_13_method_1_code 52 = .ok (.astore 4, 2) := by decide +kernel
theorem d4_54 : decode prog_13_method_1_code 54 = .ok (.aload 4, 2) := by decide +kernel
theorem d4_56 : decode prog_13_method_1_code 56 = .ok (.arraylength, 1) := by decide +kernel
theorem d4_57 : decode prog_13_method_1_code 57 = .ok (.istore 5, 2) := by decide +kernel
theorem d4_59 : decode prog_13_method_1_code 59 = .ok (.iconst 0, 1) := by decide +kernel
theorem d4_60 : decode prog_13_method_1_code 60 = .ok (.istore 6, 2) := by decide +kernel
theorem d4_90 : decode prog_13_method_1_code 90 = .ok (.aload_n 0, 1) := by decide +kernel
theorem d4_91 : decode prog_13_method_1_code 91 = .ok (.iload_n 3, 1) := by decide +kernel
theorem d4_92 : decode prog_13_method_1_code 92 = .ok (.putfield 25, 3) := by decide +kernel
theorem d4_95 : decode prog_13_method_1_code 95 = .ok (.return_, 1) := by decide +kernel
theorem pn_4 : plainName "com/example/emex/emex/explain/Positions" = true := by first | (simp [plainName, overriddenIn]; done) | decide +kernel
theorem ef_4 (m : MethodId) (x0 : Addr) (x1 : Addr) : entryFrame m #[(.ref x0), (.ref x1)] 9 = mkF m 0 #[.val (.ref x0), .val (.ref x1), .unset, .unset, .unset, .unset, .unset, .unset, .unset] [] := by first | (simp [entryFrame, mkF, argsToLocals, Value.category]; done) | rfl
def Q4 (Z : State) (r0 : Addr) (r1 : Addr) (k1 : ClassId) (ln : Nat) (f : Nat → Int64) (h0 : Heap) (n0 : Nat) (v : Option Value) (h : Heap) (L : List Loc) : Prop := v = none ∧ Fr n0 L ∧ Keep h0 h [r0] ∧ Exa Z h r0 "com/example/emex/emex/explain/Positions" ∧ Fld Z h r0 "com/example/emex/emex/explain/Positions" "words" "[J" (.ref r1) ∧ Fld Z h r0 "com/example/emex/emex/explain/Positions" "size" "I" (.int (own_cnt f ln))
set_option maxRecDepth 65536 in
set_option maxHeartbeats 40000000 in
theorem rm4 (l : Launch) (Z : State) (a0 : Array Value) (hw : ∀ d ∈ tables_1, d.before a0 Z = true) (ws : List Jvm.Cond) (r0 : Addr) (r1 : Addr) (k1 : ClassId) (ln : Nat) (f : Nat → Int64) (h0 : Heap) (n0 : Nat) (Z0 : n0 ≤ h0.size) (V : Arv Z h0 r1 k1 .long (Int32.ofNat ln) (own_l8 f) (.long (0 : Int64))) (hl8 : ln ≤ 8) (hlast : ln = 0 ∨ f (ln - 1) ≠ 0) (F_w : Fld Z h0 r0 "com/example/emex/emex/explain/Positions" "words" "[J" .null) (F_s : Fld Z h0 r0 "com/example/emex/emex/explain/Positions" "size" "I" (.int (0 : Int32))) (E0 : Exa Z h0 r0 "com/example/emex/emex/explain/Positions") (g_r0 : n0 ≤ r0) (hne : r1 ≠ r0) :
    MetFree l (⟨"com/example/emex/emex/explain/Positions", "<init>", "([J)V"⟩ : MethodName) (head1 (Jvm.Cond.code (⟨"com/example/emex/emex/explain/Positions", "<init>", "([J)V"⟩ : MethodName) prog_13_method_1_code 9 none :: ws) ({ frames := 1, cells := 0, slots := 0, locals := 14 } : Room)) (fun a U => a = #[(.ref r0), (.ref r1)] ∧ Z.Warmed39 U.vm ∧ U.heap = h0) (fun _ _ _ _ _ => True) (fun _ U o U' => ∃ v L, o = .returned v ∧ Q4 Z r0 r1 k1 ln f h0 n0 v U'.heap L ∧ FrameEnd U o U' L ({ frames := 1, cells := 0, slots := 0, locals := 14 } : Room).cells ({ frames := 1, cells := 0, slots := 0, locals := 14 } : Room).slots) := by
  refine MetFree.of_bodySF (plainFor_of_name pn_4) hisR ?_
  intro p e s m args below meth c s₁ Bd hml0 hP hK
  obtain ⟨rfl, hZ, hh⟩ := hP
  have hx := Bd.exec
  have hby := Bd.bytes
  have hml : c.maxLocals = 9 := hml0
  have hown : s.vm.findClass "com/example/emex/emex/explain/Positions" = some m.cls := findClass_of_methodNamed Bd.named
  have hnm := (name_of_methodNamed Bd.named Bd.method).1
  have X0 : Stand p l e ({ frames := 1, cells := 0, slots := 0, locals := 14 } : Room) s m #[(.ref r0), (.ref r1)] below meth c s₁ [] 0 0 := Stand.of_body Bd
  have e0 : s₁.heap = h0 := by rw [← hh, Bd.state]; rfl
  have N0 := Fr.nil n0
  have pre0 : ∀ t, Steps p.tables e below (s₁.setTop (mkF m 0 #[.val (.ref r0), .val (.ref r1), .unset, .unset, .unset, .unset, .unset, .unset, .unset] [])) t → Steps p.tables e below (s₁.setTop (entryFrame m #[(.ref r0), (.ref r1)] 9)) t := fun t k => castTop (ef_4 m r0 r1) k
  have c2 : ∀ t, Steps p.tables e below (s₁.setTop (mkF m 1 #[.val (.ref r0), .val (.ref r1), .unset, .unset, .unset, .unset, .unset, .unset, .unset] [(.ref r0)])) t → Steps p.tables e below (s₁.setTop (mkF m 0 #[.val (.ref r0), .val (.ref r1), .unset, .unset, .unset, .unset, .unset, .unset, .unset] [])) t := by
    intro t kt
    show Steps p.tables e below (s₁.setTop (mkF m 0 #[.val (.ref r0), .val (.ref r1), .unset, .unset, .unset, .unset, .unset, .unset, .unset] [])) _
    refine XS.aloadN X0.here hx rfl (hb hby d4_0) rfl rfl ?_
    exact kt
  obtain ⟨T1, X1, e1, st1⟩ := initO X0 hx hZ hown (hw _ (List.mem_of_getElem? (i := 23) rfl)) (hw _ (List.mem_of_getElem? (i := 24) rfl)) (hw _ (List.mem_of_getElem? (i := 25) rfl)) e0 (g := (mkF m 1 #[.val (.ref r0), .val (.ref r1), .unset, .unset, .unset, .unset, .unset, .unset, .unset] [(.ref r0)])) rfl (by rw [hml]; rfl) rfl (hb hby d4_1) (by decide) (W := 0) (by show 2 * 0 + _ ≤ _; exact Nat.le_of_eq rfl) (by decide)
  have Vc3 := V
  obtain ⟨cl3, Ar3, qk3, S3, M3, H3, G3⟩ := Vc3
  have c4 : ∀ t, Steps p.tables e below (T1.setTop (mkF m 7 #[.val (.ref r0), .val (.ref r1), .val (.int (Int32.ofNat ln)), .unset, .unset, .unset, .unset, .unset, .unset] [])) t → Steps p.tables e below (T1.setTop (mkF m 4 #[.val (.ref r0), .val (.ref r1), .unset, .unset, .unset, .unset, .unset, .unset, .unset] [])) t := by
    intro t kt
    show Steps p.tables e below (T1.setTop (mkF m 4 #[.val (.ref r0), .val (.ref r1), .unset, .unset, .unset, .unset, .unset, .unset, .unset] [])) _
    refine XS.aloadN X1.here hx rfl (hb hby d4_4) rfl rfl ?_
    show Steps p.tables e below (T1.setTop (mkF m 5 #[.val (.ref r0), .val (.ref r1), .unset, .unset, .unset, .unset, .unset, .unset, .unset] [(.ref r1)])) _
    refine X1.arraylength hx (by rw [e1]; exact Ar3.1) (State.isArrayOf_alike hZ.alike Ar3.2.1) (g := (mkF m 5 #[.val (.ref r0), .val (.ref r1), .unset, .unset, .unset, .unset, .unset, .unset, .unset] [(.ref r1)])) rfl rfl (hb hby d4_5) _ ?_
    rw [len_of S3 M3]
    show Steps p.tables e below (T1.setTop (mkF m 6 #[.val (.ref r0), .val (.ref r1), .unset, .unset, .unset, .unset, .unset, .unset, .unset] [(.int (Int32.ofNat ln))])) _
    refine XS.istoreN X1.here hx rfl (hb hby d4_6) rfl (l' := #[.val (.ref r0), .val (.ref r1), .val (.int (Int32.ofNat ln)), .unset, .unset, .unset, .unset, .unset, .unset]) rfl ?_
    exact kt
  by_cases hln : ln = 0
  · skip
    have c6 : ∀ t, Steps p.tables e below (T1.setTop (mkF m 8 #[.val (.ref r0), .val (.ref r1), .val (.int (Int32.ofNat ln)), .unset, .unset, .unset, .unset, .unset, .unset] [(.int (Int32.ofNat ln))])) t → Steps p.tables e below (T1.setTop (mkF m 7 #[.val (.ref r0), .val (.ref r1), .val (.int (Int32.ofNat ln)), .unset, .unset, .unset, .unset, .unset, .unset] [])) t := by
      intro t kt
      show Steps p.tables e below (T1.setTop (mkF m 7 #[.val (.ref r0), .val (.ref r1), .val (.int (Int32.ofNat ln)), .unset, .unset, .unset, .unset, .unset, .unset] [])) _
      refine XS.iloadN X1.here hx rfl (hb hby d4_7) rfl ?_
      exact kt
    have hd5 : ¬ ((0 : Int32) < (Int32.ofNat ln)) := by rw [show (0 : Int32) = Int32.ofNat 0 from rfl, own_lt 0 ln (by omega) (by omega)]; omega
    have Vc7 := V
    obtain ⟨cl7, Ar7, qk7, S7, M7, H7, G7⟩ := Vc7
    have c9 : ∀ t, Steps p.tables e below (T1.setTop (mkF m 43 #[.val (.ref r0), .val (.ref r1), .val (.int (Int32.ofNat ln)), .unset, .unset, .unset, .unset, .unset, .unset] [(.ref r1), (.ref r0)])) t → Steps p.tables e below (T1.setTop (mkF m 8 #[.val (.ref r0), .val (.ref r1), .val (.int (Int32.ofNat ln)), .unset, .unset, .unset, .unset, .unset, .unset] [(.int (Int32.ofNat ln))])) t := by
      intro t kt
      show Steps p.tables e below (T1.setTop (mkF m 8 #[.val (.ref r0), .val (.ref r1), .val (.int (Int32.ofNat ln)), .unset, .unset, .unset, .unset, .unset, .unset] [(.int (Int32.ofNat ln))])) _
      refine XS.ifYes X1.here hx rfl (pc0 := 8) (pc' := 27) rfl (hb hby d4_8) rfl ((if0 _ _).trans (flt (hd5)).2.2.2) (by decide) (by decide) ?_
      show Steps p.tables e below (T1.setTop (mkF m 27 #[.val (.ref r0), .val (.ref r1), .val (.int (Int32.ofNat ln)), .unset, .unset, .unset, .unset, .unset, .unset] [])) _
      refine XS.aloadN X1.here hx rfl (hb hby d4_27) rfl rfl ?_
      show Steps p.tables e below (T1.setTop (mkF m 28 #[.val (.ref r0), .val (.ref r1), .val (.int (Int32.ofNat ln)), .unset, .unset, .unset, .unset, .unset, .unset] [(.ref r0)])) _
      refine XS.iloadN X1.here hx rfl (hb hby d4_28) rfl ?_
      show Steps p.tables e below (T1.setTop (mkF m 29 #[.val (.ref r0), .val (.ref r1), .val (.int (Int32.ofNat ln)), .unset, .unset, .unset, .unset, .unset, .unset] [(.int (Int32.ofNat ln)), (.ref r0)])) _
      refine XS.aloadN X1.here hx rfl (hb hby d4_29) rfl rfl ?_
      show Steps p.tables e below (T1.setTop (mkF m 30 #[.val (.ref r0), .val (.ref r1), .val (.int (Int32.ofNat ln)), .unset, .unset, .unset, .unset, .unset, .unset] [(.ref r1), (.int (Int32.ofNat ln)), (.ref r0)])) _
      refine X1.arraylength hx (by rw [e1]; exact Ar7.1) (State.isArrayOf_alike hZ.alike Ar7.2.1) (g := (mkF m 30 #[.val (.ref r0), .val (.ref r1), .val (.int (Int32.ofNat ln)), .unset, .unset, .unset, .unset, .unset, .unset] [(.ref r1), (.int (Int32.ofNat ln)), (.ref r0)])) rfl rfl (hb hby d4_30) _ ?_
      rw [len_of S7 M7]
      show Steps p.tables e below (T1.setTop (mkF m 31 #[.val (.ref r0), .val (.ref r1), .val (.int (Int32.ofNat ln)), .unset, .unset, .unset, .unset, .unset, .unset] [(.int (Int32.ofNat ln)), (.int (Int32.ofNat ln)), (.ref r0)])) _
      refine XS.icmpNo X1.here hx rfl (hb hby d4_31) rfl (teq (rfl : (Int32.ofNat ln) = (Int32.ofNat ln))).2 ?_
      show Steps p.tables e below (T1.setTop (mkF m 34 #[.val (.ref r0), .val (.ref r1), .val (.int (Int32.ofNat ln)), .unset, .unset, .unset, .unset, .unset, .unset] [(.ref r0)])) _
      refine XS.aloadN X1.here hx rfl (hb hby d4_34) rfl rfl ?_
      show Steps p.tables e below (T1.setTop (mkF m 35 #[.val (.ref r0), .val (.ref r1), .val (.int (Int32.ofNat ln)), .unset, .unset, .unset, .unset, .unset, .unset] [(.ref r1), (.ref r0)])) _
      refine XS.goto X1.here hx rfl (pc0 := 35) (pc' := 43) rfl (hb hby d4_35) (by decide) (by decide) ?_
      exact kt
    obtain ⟨T8, h8, X8, e8, W8, st8⟩ := putF X1 hx hZ hown (host := "") (Or.inl (hw _ (List.mem_of_getElem? (i := 26) rfl))) Via.refl e1 F_w E0 (Or.inr ⟨(hw _ (List.mem_of_getElem? (i := 27) rfl)), rfl, hnm⟩) (hw _ (List.mem_of_getElem? (i := 19) rfl)) (ty := (.array .long)) (by decide) rfl rfl (g := (mkF m 43 #[.val (.ref r0), .val (.ref r1), .val (.int (Int32.ofNat ln)), .unset, .unset, .unset, .unset, .unset, .unset] [(.ref r1), (.ref r0)])) rfl rfl (hb hby d4_43)
    have Fw8 := F_w.same W8
    have N8 := Fr.snoc X8 N0 g_r0
    have c11 : ∀ t, Steps p.tables e below (T8.setTop (mkF m 49 #[.val (.ref r0), .val (.ref r1), .val (.int (Int32.ofNat ln)), .val (.int (0 : Int32)), .unset, .unset, .unset, .unset, .unset] [(.ref r0)])) t → Steps p.tables e below (T8.setTop (mkF m 46 #[.val (.ref r0), .val (.ref r1), .val (.int (Int32.ofNat ln)), .unset, .unset, .unset, .unset, .unset, .unset] [])) t := by
      intro t kt
      show Steps p.tables e below (T8.setTop (mkF m 46 #[.val (.ref r0), .val (.ref r1), .val (.int (Int32.ofNat ln)), .unset, .unset, .unset, .unset, .unset, .unset] [])) _
      refine XS.iconst X8.here hx rfl (hb hby d4_46) ?_
      show Steps p.tables e below (T8.setTop (mkF m 47 #[.val (.ref r0), .val (.ref r1), .val (.int (Int32.ofNat ln)), .unset, .unset, .unset, .unset, .unset, .unset] [(.int (0 : Int32))])) _
      refine XS.istoreN X8.here hx rfl (hb hby d4_47) rfl (l' := #[.val (.ref r0), .val (.ref r1), .val (.int (Int32.ofNat ln)), .val (.int (0 : Int32)), .unset, .unset, .unset, .unset, .unset]) rfl ?_
      show Steps p.tables e below (T8.setTop (mkF m 48 #[.val (.ref r0), .val (.ref r1), .val (.int (Int32.ofNat ln)), .val (.int (0 : Int32)), .unset, .unset, .unset, .unset, .unset] [])) _
      refine XS.aloadN X8.here hx rfl (hb hby d4_48) rfl rfl ?_
      exact kt
    obtain ⟨T10, X10, e10, st10⟩ := getF X8 hx hZ hown (host := "") (Or.inl (hw _ (List.mem_of_getElem? (i := 26) rfl))) Via.refl e8 Fw8 (g := (mkF m 49 #[.val (.ref r0), .val (.ref r1), .val (.int (Int32.ofNat ln)), .val (.int (0 : Int32)), .unset, .unset, .unset, .unset, .unset] [(.ref r0)])) rfl rfl (hb hby d4_49)
    have f12 := (V.other W8 hne)
    have Vc13 := f12
    obtain ⟨cl13, Ar13, qk13, S13, M13, H13, G13⟩ := Vc13
    have c14 : ∀ t, Steps p.tables e below (T10.setTop (mkF m 62 #[.val (.ref r0), .val (.ref r1), .val (.int (Int32.ofNat ln)), .val (.int (0 : Int32)), .val (.ref r1), .val (.int (Int32.ofNat ln)), .val (.int (0 : Int32)), .unset, .unset] [])) t → Steps p.tables e below (T10.setTop (mkF m 52 #[.val (.ref r0), .val (.ref r1), .val (.int (Int32.ofNat ln)), .val (.int (0 : Int32)), .unset, .unset, .unset, .unset, .unset] [(.ref r1)])) t := by
      intro t kt
      show Steps p.tables e below (T10.setTop (mkF m 52 #[.val (.ref r0), .val (.ref r1), .val (.int (Int32.ofNat ln)), .val (.int (0 : Int32)), .unset, .unset, .unset, .unset, .unset] [(.ref r1)])) _
      refine XS.astore X10.here hx rfl (hb hby d4_52) rfl rfl (l' := #[.val (.ref r0), .val (.ref r1), .val (.int (Int32.ofNat ln)), .val (.int (0 : Int32)), .val (.ref r1), .unset, .unset, .unset, .unset]) rfl ?_
      show Steps p.tables e below (T10.setTop (mkF m 54 #[.val (.ref r0), .val (.ref r1), .val (.int (Int32.ofNat ln)), .val (.int (0 : Int32)), .val (.ref r1), .unset, .unset, .unset, .unset] [])) _
      refine XS.aload X10.here hx rfl (hb hby d4_54) rfl rfl ?_
      show Steps p.tables e below (T10.setTop (mkF m 56 #[.val (.ref r0), .val (.ref r1), .val (.int (Int32.ofNat ln)), .val (.int (0 : Int32)), .val (.ref r1), .unset, .unset, .unset, .unset] [(.ref r1)])) _
      refine X10.arraylength hx (by rw [e10]; exact Ar13.1) (State.isArrayOf_alike hZ.alike Ar13.2.1) (g := (mkF m 56 #[.val (.ref r0), .val (.ref r1), .val (.int (Int32.ofNat ln)), .val (.int (0 : Int32)), .val (.ref r1), .unset, .unset, .unset, .unset] [(.ref r1)])) rfl rfl (hb hby d4_56) _ ?_
      rw [len_of S13 M13]
      show Steps p.tables e below (T10.setTop (mkF m 57 #[.val (.ref r0), .val (.ref r1), .val (.int (Int32.ofNat ln)), .val (.int (0 : Int32)), .val (.ref r1), .unset, .unset, .unset, .unset] [(.int (Int32.ofNat ln))])) _
      refine XS.istore X10.here hx rfl (hb hby d4_57) rfl (l' := #[.val (.ref r0), .val (.ref r1), .val (.int (Int32.ofNat ln)), .val (.int (0 : Int32)), .val (.ref r1), .val (.int (Int32.ofNat ln)), .unset, .unset, .unset]) rfl ?_
      show Steps p.tables e below (T10.setTop (mkF m 59 #[.val (.ref r0), .val (.ref r1), .val (.int (Int32.ofNat ln)), .val (.int (0 : Int32)), .val (.ref r1), .val (.int (Int32.ofNat ln)), .unset, .unset, .unset] [])) _
      refine XS.iconst X10.here hx rfl (hb hby d4_59) ?_
      show Steps p.tables e below (T10.setTop (mkF m 60 #[.val (.ref r0), .val (.ref r1), .val (.int (Int32.ofNat ln)), .val (.int (0 : Int32)), .val (.ref r1), .val (.int (Int32.ofNat ln)), .unset, .unset, .unset] [(.int (0 : Int32))])) _
      refine XS.istore X10.here hx rfl (hb hby d4_60) rfl (l' := #[.val (.ref r0), .val (.ref r1), .val (.int (Int32.ofNat ln)), .val (.int (0 : Int32)), .val (.ref r1), .val (.int (Int32.ofNat ln)), .val (.int (0 : Int32)), .unset, .unset]) rfl ?_
      exact kt
    have f16 := (Nat.le_trans Z0 (Keep.of_wr W8).1)
    obtain ⟨T15, L15, t7, t8, X15, e15, N15, st15⟩ := lcount r0 r1 (Int32.ofNat ln) ln k1 f hx hZ hw hby hml hown N8 f16 f12 hl8 (by decide) (by decide) (by decide) (by decide) ln 0 (by omega) T10 .unset .unset (Or.inl ⟨rfl, rfl⟩) X10 e10
    have f17 := (F_s.other W8 (Or.inr (slot_ne (a0 := a0) (Or.inr (hw _ (List.mem_of_getElem? (i := 36) rfl))) (Or.inr (hw _ (List.mem_of_getElem? (i := 27) rfl))) (by decide) (t := .int) (t' := (.array .long)) (by decide) (by decide))))
    have f18 := (E0.wr W8)
    have c20 : ∀ t, Steps p.tables e below (T15.setTop (mkF m 92 #[.val (.ref r0), .val (.ref r1), .val (.int (Int32.ofNat ln)), .val (.int (own_cnt f ln)), .val (.ref r1), .val (.int (Int32.ofNat ln)), .val (.int (Int32.ofNat ln)), t7, t8] [(.int (own_cnt f ln)), (.ref r0)])) t → Steps p.tables e below (T15.setTop (mkF m 90 #[.val (.ref r0), .val (.ref r1), .val (.int (Int32.ofNat ln)), .val (.int (own_cnt f ln)), .val (.ref r1), .val (.int (Int32.ofNat ln)), .val (.int (Int32.ofNat ln)), t7, t8] [])) t := by
      intro t kt
      show Steps p.tables e below (T15.setTop (mkF m 90 #[.val (.ref r0), .val (.ref r1), .val (.int (Int32.ofNat ln)), .val (.int (own_cnt f ln)), .val (.ref r1), .val (.int (Int32.ofNat ln)), .val (.int (Int32.ofNat ln)), t7, t8] [])) _
      refine XS.aloadN X15.here hx rfl (hb hby d4_90) rfl rfl ?_
      show Steps p.tables e below (T15.setTop (mkF m 91 #[.val (.ref r0), .val (.ref r1), .val (.int (Int32.ofNat ln)), .val (.int (own_cnt f ln)), .val (.ref r1), .val (.int (Int32.ofNat ln)), .val (.int (Int32.ofNat ln)), t7, t8] [(.ref r0)])) _
      refine XS.iloadN X15.here hx rfl (hb hby d4_91) rfl ?_
      exact kt
    obtain ⟨T19, h19, X19, e19, W19, st19⟩ := putF X15 hx hZ hown (host := "") (Or.inl (hw _ (List.mem_of_getElem? (i := 35) rfl))) Via.refl e15 f17 f18 (Or.inr ⟨(hw _ (List.mem_of_getElem? (i := 36) rfl)), rfl, hnm⟩) (hw _ (List.mem_of_getElem? (i := 19) rfl)) (ty := .int) (by decide) rfl rfl (g := (mkF m 92 #[.val (.ref r0), .val (.ref r1), .val (.int (Int32.ofNat ln)), .val (.int (own_cnt f ln)), .val (.ref r1), .val (.int (Int32.ofNat ln)), .val (.int (Int32.ofNat ln)), t7, t8] [(.int (own_cnt f ln)), (.ref r0)])) rfl rfl (hb hby d4_92)
    have Fw19 := f17.same W19
    have N19 := Fr.snoc X19 N15 g_r0
    obtain ⟨fs, hr, hrun, hended, hW, hsame⟩ := X19.leave (v := none) (fun _ => rfl)
    have f22 := (((Keep.refl h0 [r0]).wr W8 (Or.inl (List.mem_of_getElem? (i := 0) rfl))).wr W19 (Or.inl (List.mem_of_getElem? (i := 0) rfl)))
    have f23 := (f18.wr W19)
    have f24 := (Fw8.other W19 (Or.inr (slot_ne (a0 := a0) (Or.inr (hw _ (List.mem_of_getElem? (i := 27) rfl))) (Or.inr (hw _ (List.mem_of_getElem? (i := 36) rfl))) (by decide) (t := (.array .long)) (t' := .int) (by decide) (by decide))))
    refine ⟨_, _, pre0 _ (c2 _ (st1 _ (c4 _ (c6 _ (c9 _ (st8 _ (c11 _ (st10 _ (c14 _ (st15 _ (c20 _ (st19 _ (?_))))))))))))), hrun, hended, _, _, rfl, ?_, ⟨_, rfl⟩, hW, hsame.mono (by decide) (by decide)⟩
    · show Steps p.tables e below (T19.setTop (mkF m 95 #[.val (.ref r0), .val (.ref r1), .val (.int (Int32.ofNat ln)), .val (.int (own_cnt f ln)), .val (.ref r1), .val (.int (Int32.ofNat ln)), .val (.int (Int32.ofNat ln)), t7, t8] [])) _
      exact X19.returnOut hx Bd.returns (hb hby d4_95) hr
    · show Q4 Z r0 r1 k1 ln f h0 n0 _ T19.heap _
      rw [e19]
      exact ⟨rfl, N19, f22, f23, f24, Fw19⟩
  · skip
    have c26 : ∀ t, Steps p.tables e below (T1.setTop (mkF m 8 #[.val (.ref r0), .val (.ref r1), .val (.int (Int32.ofNat ln)), .unset, .unset, .unset, .unset, .unset, .unset] [(.int (Int32.ofNat ln))])) t → Steps p.tables e below (T1.setTop (mkF m 7 #[.val (.ref r0), .val (.ref r1), .val (.int (Int32.ofNat ln)), .unset, .unset, .unset, .unset, .unset, .unset] [])) t := by
      intro t kt
      show Steps p.tables e below (T1.setTop (mkF m 7 #[.val (.ref r0), .val (.ref r1), .val (.int (Int32.ofNat ln)), .unset, .unset, .unset, .unset, .unset, .unset] [])) _
      refine XS.iloadN X1.here hx rfl (hb hby d4_7) rfl ?_
      exact kt
    have hd25 : (0 : Int32) < (Int32.ofNat ln) := by rw [show (0 : Int32) = Int32.ofNat 0 from rfl, own_lt 0 ln (by omega) (by omega)]; omega
    have c27 : ∀ t, Steps p.tables e below (T1.setTop (mkF m 15 #[.val (.ref r0), .val (.ref r1), .val (.int (Int32.ofNat ln)), .unset, .unset, .unset, .unset, .unset, .unset] [(.int ((Int32.ofNat ln) - (1 : Int32))), (.ref r1)])) t → Steps p.tables e below (T1.setTop (mkF m 8 #[.val (.ref r0), .val (.ref r1), .val (.int (Int32.ofNat ln)), .unset, .unset, .unset, .unset, .unset, .unset] [(.int (Int32.ofNat ln))])) t := by
      intro t kt
      show Steps p.tables e below (T1.setTop (mkF m 8 #[.val (.ref r0), .val (.ref r1), .val (.int (Int32.ofNat ln)), .unset, .unset, .unset, .unset, .unset, .unset] [(.int (Int32.ofNat ln))])) _
      refine XS.ifNo X1.here hx rfl (hb hby d4_8) rfl ((if0 _ _).trans (tlt (hd25)).2.2.2) ?_
      show Steps p.tables e below (T1.setTop (mkF m 11 #[.val (.ref r0), .val (.ref r1), .val (.int (Int32.ofNat ln)), .unset, .unset, .unset, .unset, .unset, .unset] [])) _
      refine XS.aloadN X1.here hx rfl (hb hby d4_11) rfl rfl ?_
      show Steps p.tables e below (T1.setTop (mkF m 12 #[.val (.ref r0), .val (.ref r1), .val (.int (Int32.ofNat ln)), .unset, .unset, .unset, .unset, .unset, .unset] [(.ref r1)])) _
      refine XS.iloadN X1.here hx rfl (hb hby d4_12) rfl ?_
      show Steps p.tables e below (T1.setTop (mkF m 13 #[.val (.ref r0), .val (.ref r1), .val (.int (Int32.ofNat ln)), .unset, .unset, .unset, .unset, .unset, .unset] [(.int (Int32.ofNat ln)), (.ref r1)])) _
      refine XS.iconst X1.here hx rfl (hb hby d4_13) ?_
      show Steps p.tables e below (T1.setTop (mkF m 14 #[.val (.ref r0), .val (.ref r1), .val (.int (Int32.ofNat ln)), .unset, .unset, .unset, .unset, .unset, .unset] [(.int (1 : Int32)), (.int (Int32.ofNat ln)), (.ref r1)])) _
      refine XS.isub X1.here hx rfl (hb hby d4_14) rfl ?_
      exact kt
    have c28 : ∀ t, Steps p.tables e below (T1.setTop (mkF m 15 #[.val (.ref r0), .val (.ref r1), .val (.int (Int32.ofNat ln)), .unset, .unset, .unset, .unset, .unset, .unset] [(.int (Int32.ofNat (ln - 1))), (.ref r1)])) t → Steps p.tables e below (T1.setTop (mkF m 15 #[.val (.ref r0), .val (.ref r1), .val (.int (Int32.ofNat ln)), .unset, .unset, .unset, .unset, .unset, .unset] [(.int ((Int32.ofNat ln) - (1 : Int32))), (.ref r1)])) t := fun t kt => castTop (congrArg (fun zv => (mkF m 15 #[.val (.ref r0), .val (.ref r1), .val (.int (Int32.ofNat ln)), .unset, .unset, .unset, .unset, .unset, .unset] [(.int zv), (.ref r1)])) (show ((Int32.ofNat ln) - (1 : Int32)) = (Int32.ofNat (ln - 1)) from own_down ln (by omega) (by omega))) kt
    have Vc29 := V
    obtain ⟨cl29, Ar29, qk29, S29, M29, H29, G29⟩ := Vc29
    have hin29 : ¬ ((Int32.ofNat (ln - 1)) < 0 ∨ cl29.slots.size ≤ ((Int32.ofNat (ln - 1))).toNatClampNeg) := inb_of S29 (own_in (ln - 1) ln (by omega) hl8)
    have hat29 : cl29.slots[((Int32.ofNat (ln - 1))).toNatClampNeg]? = some (.long (f (ln - 1))) := H29.at hin29 (own_at8' f (ln - 1) (by omega) _)
    have c31 : ∀ t, Steps p.tables e below (T1.setTop (mkF m 18 #[.val (.ref r0), .val (.ref r1), .val (.int (Int32.ofNat ln)), .unset, .unset, .unset, .unset, .unset, .unset] [(.int (lcmpW (f (ln - 1)) (0 : Int64)))])) t → Steps p.tables e below (T1.setTop (mkF m 15 #[.val (.ref r0), .val (.ref r1), .val (.int (Int32.ofNat ln)), .unset, .unset, .unset, .unset, .unset, .unset] [(.int (Int32.ofNat (ln - 1))), (.ref r1)])) t := by
      intro t kt
      show Steps p.tables e below (T1.setTop (mkF m 15 #[.val (.ref r0), .val (.ref r1), .val (.int (Int32.ofNat ln)), .unset, .unset, .unset, .unset, .unset, .unset] [(.int (Int32.ofNat (ln - 1))), (.ref r1)])) _
      refine X1.laload hx (j := (Int32.ofNat (ln - 1))) (v := (.long (f (ln - 1)))) (by rw [e1]; exact Ar29.1) (State.isArrayOf_alike hZ.alike Ar29.2.1) Ar29.2.2 hin29 hat29 (g := (mkF m 15 #[.val (.ref r0), .val (.ref r1), .val (.int (Int32.ofNat ln)), .unset, .unset, .unset, .unset, .unset, .unset] [(.int (Int32.ofNat (ln - 1))), (.ref r1)])) rfl rfl (hb hby d4_15) _ ?_
      show Steps p.tables e below (T1.setTop (mkF m 16 #[.val (.ref r0), .val (.ref r1), .val (.int (Int32.ofNat ln)), .unset, .unset, .unset, .unset, .unset, .unset] [(.long (f (ln - 1)))])) _
      refine XS.lconst X1.here hx rfl (hb hby d4_16) ?_
      show Steps p.tables e below (T1.setTop (mkF m 17 #[.val (.ref r0), .val (.ref r1), .val (.int (Int32.ofNat ln)), .unset, .unset, .unset, .unset, .unset, .unset] [(.long (0 : Int64)), (.long (f (ln - 1)))])) _
      refine XS.lcmp X1.here hx rfl (hb hby d4_17) rfl ?_
      exact kt
    have hd30 : ¬ ((f (ln - 1)) = (0 : Int64)) := fun q => hlast.elim hln (fun k => k q)
    have Vc32 := V
    obtain ⟨cl32, Ar32, qk32, S32, M32, H32, G32⟩ := Vc32
    have c34 : ∀ t, Steps p.tables e below (T1.setTop (mkF m 43 #[.val (.ref r0), .val (.ref r1), .val (.int (Int32.ofNat ln)), .unset, .unset, .unset, .unset, .unset, .unset] [(.ref r1), (.ref r0)])) t → Steps p.tables e below (T1.setTop (mkF m 18 #[.val (.ref r0), .val (.ref r1), .val (.int (Int32.ofNat ln)), .unset, .unset, .unset, .unset, .unset, .unset] [(.int (lcmpW (f (ln - 1)) (0 : Int64)))])) t := by
      intro t kt
      show Steps p.tables e below (T1.setTop (mkF m 18 #[.val (.ref r0), .val (.ref r1), .val (.int (Int32.ofNat ln)), .unset, .unset, .unset, .unset, .unset, .unset] [(.int (lcmpW (f (ln - 1)) (0 : Int64)))])) _
      refine XS.ifYes X1.here hx rfl (pc0 := 18) (pc' := 27) rfl (hb hby d4_18) rfl ((if0 _ _).trans (feq (fun q => hd30 ((lw_eq _ _).mp q))).2) (by decide) (by decide) ?_
      show Steps p.tables e below (T1.setTop (mkF m 27 #[.val (.ref r0), .val (.ref r1), .val (.int (Int32.ofNat ln)), .unset, .unset, .unset, .unset, .unset, .unset] [])) _
      refine XS.aloadN X1.here hx rfl (hb hby d4_27) rfl rfl ?_
      show Steps p.tables e below (T1.setTop (mkF m 28 #[.val (.ref r0), .val (.ref r1), .val (.int (Int32.ofNat ln)), .unset, .unset, .unset, .unset, .unset, .unset] [(.ref r0)])) _
      refine XS.iloadN X1.here hx rfl (hb hby d4_28) rfl ?_
      show Steps p.tables e below (T1.setTop (mkF m 29 #[.val (.ref r0), .val (.ref r1), .val (.int (Int32.ofNat ln)), .unset, .unset, .unset, .unset, .unset, .unset] [(.int (Int32.ofNat ln)), (.ref r0)])) _
      refine XS.aloadN X1.here hx rfl (hb hby d4_29) rfl rfl ?_
      show Steps p.tables e below (T1.setTop (mkF m 30 #[.val (.ref r0), .val (.ref r1), .val (.int (Int32.ofNat ln)), .unset, .unset, .unset, .unset, .unset, .unset] [(.ref r1), (.int (Int32.ofNat ln)), (.ref r0)])) _
      refine X1.arraylength hx (by rw [e1]; exact Ar32.1) (State.isArrayOf_alike hZ.alike Ar32.2.1) (g := (mkF m 30 #[.val (.ref r0), .val (.ref r1), .val (.int (Int32.ofNat ln)), .unset, .unset, .unset, .unset, .unset, .unset] [(.ref r1), (.int (Int32.ofNat ln)), (.ref r0)])) rfl rfl (hb hby d4_30) _ ?_
      rw [len_of S32 M32]
      show Steps p.tables e below (T1.setTop (mkF m 31 #[.val (.ref r0), .val (.ref r1), .val (.int (Int32.ofNat ln)), .unset, .unset, .unset, .unset, .unset, .unset] [(.int (Int32.ofNat ln)), (.int (Int32.ofNat ln)), (.ref r0)])) _
      refine XS.icmpNo X1.here hx rfl (hb hby d4_31) rfl (teq (rfl : (Int32.ofNat ln) = (Int32.ofNat ln))).2 ?_
      show Steps p.tables e below (T1.setTop (mkF m 34 #[.val (.ref r0), .val (.ref r1), .val (.int (Int32.ofNat ln)), .unset, .unset, .unset, .unset, .unset, .unset] [(.ref r0)])) _
      refine XS.aloadN X1.here hx rfl (hb hby d4_34) rfl rfl ?_
      show Steps p.tables e below (T1.setTop (mkF m 35 #[.val (.ref r0), .val (.ref r1), .val (.int (Int32.ofNat ln)), .unset, .unset, .unset, .unset, .unset, .unset] [(.ref r1), (.ref r0)])) _
      refine XS.goto X1.here hx rfl (pc0 := 35) (pc' := 43) rfl (hb hby d4_35) (by decide) (by decide) ?_
      exact kt
    obtain ⟨T33, h33, X33, e33, W33, st33⟩ := putF X1 hx hZ hown (host := "") (Or.inl (hw _ (List.mem_of_getElem? (i := 26) rfl))) Via.refl e1 F_w E0 (Or.inr ⟨(hw _ (List.mem_of_getElem? (i := 27) rfl)), rfl, hnm⟩) (hw _ (List.mem_of_getElem? (i := 19) rfl)) (ty := (.array .long)) (by decide) rfl rfl (g := (mkF m 43 #[.val (.ref r0), .val (.ref r1), .val (.int (Int32.ofNat ln)), .unset, .unset, .unset, .unset, .unset, .unset] [(.ref r1), (.ref r0)])) rfl rfl (hb hby d4_43)
    have Fw33 := F_w.same W33
    have N33 := Fr.snoc X33 N0 g_r0
    have c36 : ∀ t, Steps p.tables e below (T33.setTop (mkF m 49 #[.val (.ref r0), .val (.ref r1), .val (.int (Int32.ofNat ln)), .val (.int (0 : Int32)), .unset, .unset, .unset, .unset, .unset] [(.ref r0)])) t → Steps p.tables e below (T33.setTop (mkF m 46 #[.val (.ref r0), .val (.ref r1), .val (.int (Int32.ofNat ln)), .unset, .unset, .unset, .unset, .unset, .unset] [])) t := by
      intro t kt
      show Steps p.tables e below (T33.setTop (mkF m 46 #[.val (.ref r0), .val (.ref r1), .val (.int (Int32.ofNat ln)), .unset, .unset, .unset, .unset, .unset, .unset] [])) _
      refine XS.iconst X33.here hx rfl (hb hby d4_46) ?_
      show Steps p.tables e below (T33.setTop (mkF m 47 #[.val (.ref r0), .val (.ref r1), .val (.int (Int32.ofNat ln)), .unset, .unset, .unset, .unset, .unset, .unset] [(.int (0 : Int32))])) _
      refine XS.istoreN X33.here hx rfl (hb hby d4_47) rfl (l' := #[.val (.ref r0), .val (.ref r1), .val (.int (Int32.ofNat ln)), .val (.int (0 : Int32)), .unset, .unset, .unset, .unset, .unset]) rfl ?_
      show Steps p.tables e below (T33.setTop (mkF m 48 #[.val (.ref r0), .val (.ref r1), .val (.int (Int32.ofNat ln)), .val (.int (0 : Int32)), .unset, .unset, .unset, .unset, .unset] [])) _
      refine XS.aloadN X33.here hx rfl (hb hby d4_48) rfl rfl ?_
      exact kt
    obtain ⟨T35, X35, e35, st35⟩ := getF X33 hx hZ hown (host := "") (Or.inl (hw _ (List.mem_of_getElem? (i := 26) rfl))) Via.refl e33 Fw33 (g := (mkF m 49 #[.val (.ref r0), .val (.ref r1), .val (.int (Int32.ofNat ln)), .val (.int (0 : Int32)), .unset, .unset, .unset, .unset, .unset] [(.ref r0)])) rfl rfl (hb hby d4_49)
    have f37 := (V.other W33 hne)
    have Vc38 := f37
    obtain ⟨cl38, Ar38, qk38, S38, M38, H38, G38⟩ := Vc38
    have c39 : ∀ t, Steps p.tables e below (T35.setTop (mkF m 62 #[.val (.ref r0), .val (.ref r1), .val (.int (Int32.ofNat ln)), .val (.int (0 : Int32)), .val (.ref r1), .val (.int (Int32.ofNat ln)), .val (.int (0 : Int32)), .unset, .unset] [])) t → Steps p.tables e below (T35.setTop (mkF m 52 #[.val (.ref r0), .val (.ref r1), .val (.int (Int32.ofNat ln)), .val (.int (0 : Int32)), .unset, .unset, .unset, .unset, .unset] [(.ref r1)])) t := by
      intro t kt
      show Steps p.tables e below (T35.setTop (mkF m 52 #[.val (.ref r0), .val (.ref r1), .val (.int (Int32.ofNat ln)), .val (.int (0 : Int32)), .unset, .unset, .unset, .unset, .unset] [(.ref r1)])) _
      refine XS.astore X35.here hx rfl (hb hby d4_52) rfl rfl (l' := #[.val (.ref r0), .val (.ref r1), .val (.int (Int32.ofNat ln)), .val (.int (0 : Int32)), .val (.ref r1), .unset, .unset, .unset, .unset]) rfl ?_
      show Steps p.tables e below (T35.setTop (mkF m 54 #[.val (.ref r0), .val (.ref r1), .val (.int (Int32.ofNat ln)), .val (.int (0 : Int32)), .val (.ref r1), .unset, .unset, .unset, .unset] [])) _
      refine XS.aload X35.here hx rfl (hb hby d4_54) rfl rfl ?_
      show Steps p.tables e below (T35.setTop (mkF m 56 #[.val (.ref r0), .val (.ref r1), .val (.int (Int32.ofNat ln)), .val (.int (0 : Int32)), .val (.ref r1), .unset, .unset, .unset, .unset] [(.ref r1)])) _
      refine X35.arraylength hx (by rw [e35]; exact Ar38.1) (State.isArrayOf_alike hZ.alike Ar38.2.1) (g := (mkF m 56 #[.val (.ref r0), .val (.ref r1), .val (.int (Int32.ofNat ln)), .val (.int (0 : Int32)), .val (.ref r1), .unset, .unset, .unset, .unset] [(.ref r1)])) rfl rfl (hb hby d4_56) _ ?_
      rw [len_of S38 M38]
      show Steps p.tables e below (T35.setTop (mkF m 57 #[.val (.ref r0), .val (.ref r1), .val (.int (Int32.ofNat ln)), .val (.int (0 : Int32)), .val (.ref r1), .unset, .unset, .unset, .unset] [(.int (Int32.ofNat ln))])) _
      refine XS.istore X35.here hx rfl (hb hby d4_57) rfl (l' := #[.val (.ref r0), .val (.ref r1), .val (.int (Int32.ofNat ln)), .val (.int (0 : Int32)), .val (.ref r1), .val (.int (Int32.ofNat ln)), .unset, .unset, .unset]) rfl ?_
      show Steps p.tables e below (T35.setTop (mkF m 59 #[.val (.ref r0), .val (.ref r1), .val (.int (Int32.ofNat ln)), .val (.int (0 : Int32)), .val (.ref r1), .val (.int (Int32.ofNat ln)), .unset, .unset, .unset] [])) _
      refine XS.iconst X35.here hx rfl (hb hby d4_59) ?_
      show Steps p.tables e below (T35.setTop (mkF m 60 #[.val (.ref r0), .val (.ref r1), .val (.int (Int32.ofNat ln)), .val (.int (0 : Int32)), .val (.ref r1), .val (.int (Int32.ofNat ln)), .unset, .unset, .unset] [(.int (0 : Int32))])) _
      refine XS.istore X35.here hx rfl (hb hby d4_60) rfl (l' := #[.val (.ref r0), .val (.ref r1), .val (.int (Int32.ofNat ln)), .val (.int (0 : Int32)), .val (.ref r1), .val (.int (Int32.ofNat ln)), .val (.int (0 : Int32)), .unset, .unset]) rfl ?_
      exact kt
    have f41 := (Nat.le_trans Z0 (Keep.of_wr W33).1)
    obtain ⟨T40, L40, t7, t8, X40, e40, N40, st40⟩ := lcount r0 r1 (Int32.ofNat ln) ln k1 f hx hZ hw hby hml hown N33 f41 f37 hl8 (by decide) (by decide) (by decide) (by decide) ln 0 (by omega) T35 .unset .unset (Or.inl ⟨rfl, rfl⟩) X35 e35
    have f42 := (F_s.other W33 (Or.inr (slot_ne (a0 := a0) (Or.inr (hw _ (List.mem_of_getElem? (i := 36) rfl))) (Or.inr (hw _ (List.mem_of_getElem? (i := 27) rfl))) (by decide) (t := .int) (t' := (.array .long)) (by decide) (by decide))))
    have f43 := (E0.wr W33)
    have c45 : ∀ t, Steps p.tables e below (T40.setTop (mkF m 92 #[.val (.ref r0), .val (.ref r1), .val (.int (Int32.ofNat ln)), .val (.int (own_cnt f ln)), .val (.ref r1), .val (.int (Int32.ofNat ln)), .val (.int (Int32.ofNat ln)), t7, t8] [(.int (own_cnt f ln)), (.ref r0)])) t → Steps p.tables e below (T40.setTop (mkF m 90 #[.val (.ref r0), .val (.ref r1), .val (.int (Int32.ofNat ln)), .val (.int (own_cnt f ln)), .val (.ref r1), .val (.int (Int32.ofNat ln)), .val (.int (Int32.ofNat ln)), t7, t8] [])) t := by
      intro t kt
      show Steps p.tables e below (T40.setTop (mkF m 90 #[.val (.ref r0), .val (.ref r1), .val (.int (Int32.ofNat ln)), .val (.int (own_cnt f ln)), .val (.ref r1), .val (.int (Int32.ofNat ln)), .val (.int (Int32.ofNat ln)), t7, t8] [])) _
      refine XS.aloadN X40.here hx rfl (hb hby d4_90) rfl rfl ?_
      show Steps p.tables e below (T40.setTop (mkF m 91 #[.val (.ref r0), .val (.ref r1), .val (.int (Int32.ofNat ln)), .val (.int (own_cnt f ln)), .val (.ref r1), .val (.int (Int32.ofNat ln)), .val (.int (Int32.ofNat ln)), t7, t8] [(.ref r0)])) _
      refine XS.iloadN X40.here hx rfl (hb hby d4_91) rfl ?_
      exact kt
    obtain ⟨T44, h44, X44, e44, W44, st44⟩ := putF X40 hx hZ hown (host := "") (Or.inl (hw _ (List.mem_of_getElem? (i := 35) rfl))) Via.refl e40 f42 f43 (Or.inr ⟨(hw _ (List.mem_of_getElem? (i := 36) rfl)), rfl, hnm⟩) (hw _ (List.mem_of_getElem? (i := 19) rfl)) (ty := .int) (by decide) rfl rfl (g := (mkF m 92 #[.val (.ref r0), .val (.ref r1), .val (.int (Int32.ofNat ln)), .val (.int (own_cnt f ln)), .val (.ref r1), .val (.int (Int32.ofNat ln)), .val (.int (Int32.ofNat ln)), t7, t8] [(.int (own_cnt f ln)), (.ref r0)])) rfl rfl (hb hby d4_92)
    have Fw44 := f42.same W44
    have N44 := Fr.snoc X44 N40 g_r0
    obtain ⟨fs, hr, hrun, hended, hW, hsame⟩ := X44.leave (v := none) (fun _ => rfl)
    have f47 := (((Keep.refl h0 [r0]).wr W33 (Or.inl (List.mem_of_getElem? (i := 0) rfl))).wr W44 (Or.inl (List.mem_of_getElem? (i := 0) rfl)))
    have f48 := (f43.wr W44)
    have f49 := (Fw33.other W44 (Or.inr (slot_ne (a0 := a0) (Or.inr (hw _ (List.mem_of_getElem? (i := 27) rfl))) (Or.inr (hw _ (List.mem_of_getElem? (i := 36) rfl))) (by decide) (t := (.array .long)) (t' := .int) (by decide) (by decide))))
    refine ⟨_, _, pre0 _ (c2 _ (st1 _ (c4 _ (c26 _ (c27 _ (c28 _ (c31 _ (c34 _ (st33 _ (c36 _ (st35 _ (c39 _ (st40 _ (c45 _ (st44 _ (?_)))))))))))))))), hrun, hended, _, _, rfl, ?_, ⟨_, rfl⟩, hW, hsame.mono (by decide) (by decide)⟩
    · show Steps p.tables e below (T44.setTop (mkF m 95 #[.val (.ref r0), .val (.ref r1), .val (.int (Int32.ofNat ln)), .val (.int (own_cnt f ln)), .val (.ref r1), .val (.int (Int32.ofNat ln)), .val (.int (Int32.ofNat ln)), t7, t8] [])) _
      exact X44.returnOut hx Bd.returns (hb hby d4_95) hr
    · show Q4 Z r0 r1 k1 ln f h0 n0 _ T44.heap _
      rw [e44]
      exact ⟨rfl, N44, f47, f48, f49, Fw44⟩
theorem d1_0 : decode prog_13_method_3_code 0 = .ok (.iconst 0, 1) := by decide +kernel
theorem d1_1 : decode prog_13_method_3_code 1 = .ok (.newarray .long, 2) := by decide +kernel
theorem d1_3 : decode prog_13_method_3_code 3 = .ok (.astore_n 1, 1) := by decide +kernel
theorem d1_4 : decode prog_13_method_3_code 4 = .ok (.aload_n 0, 1) := by decide +kernel
theorem d1_5 : decode prog_13_method_3_code 5 = .ok (.astore_n 2, 1) := by decide +kernel
theorem d1_6 : decode prog_13_method_3_code 6 = .ok (.aload_n 2, 1) := by decide +kernel
theorem d1_7 : decode prog_13_method_3_code 7 = .ok (.arraylength, 1) := by decide +kernel
theorem d1_8 : decode prog_13_method_3_code 8 = .ok (.istore_n 3, 1) := by decide +kernel
theorem d1_9 : decode prog_13_method_3_code 9 = .ok (.iconst 0, 1) := by decide +kernel
theorem d1_10 : decode prog_13_method_3_code 10 = .ok (.istore 4, 2) := by decide +kernel
theorem d1_12 : decode prog_13_method_3_code 12 = .ok (.iload 4, 2) := by decide +kernel
theorem d1_14 : decode prog_13_method_3_code 14 = .ok (.iload_n 3, 1) := by decide +kernel
theorem d1_15 : decode prog_13_method_3_code 15 = .ok (.if_icmp .ge 49, 3) := by decide +kernel
theorem d1_64 : decode prog_13_method_3_code 64 = .ok (.new 14, 3) := by decide +kernel
theorem d1_67 : decode prog_13_method_3_code 67 = .ok (.dup, 1) := by decide +kernel
theorem d1_68 : decode prog_13_method_3_code 68 = .ok (.aload_n 1, 1) := by decide +kernel
theorem d1_69 : decode prog_13_method_3_code 69 = .ok (.invokespecial 33, 3) := by decide +kernel
theorem d1_72 : decode prog_13_method_3_code 72 = .ok (.areturn, 1) := by decide +kernel
theorem pn_1 : plainName "com/example/emex/emex/explain/Positions" = true := by first | (simp [plainName, overriddenIn]; done) | decide +kernel
theorem ef_1 (m : MethodId) (x0 : Addr) : entryFrame m #[(.ref x0)] 7 = mkF m 0 #[.val (.ref x0), .unset, .unset, .unset, .unset, .unset, .unset] [] := by first | (simp [entryFrame, mkF, argsToLocals, Value.category]; done) | rfl
def Q1_0 (Z : State) (r0 : Addr) (kk : ClassId) (dv : Value) (h0 : Heap) (n0 : Nat) (v : Option Value) (h : Heap) (L : List Loc) : Prop := ∃ (b t : Addr) (k : ClassId) (ln : Nat), ln ≤ 8 ∧ (∀ i, ln ≤ i → own_f0 i = 0) ∧ v = some (.ref b) ∧ Fr n0 L ∧ Keep h0 h [] ∧ n0 ≤ b ∧ Exa Z h b "com/example/emex/emex/explain/Positions" ∧ Fld Z h b "com/example/emex/emex/explain/Positions" "words" "[J" (.ref t) ∧ Fld Z h b "com/example/emex/emex/explain/Positions" "size" "I" (.int (own_cnt own_f0 ln)) ∧ Arv Z h t k .long (Int32.ofNat ln) (own_l8 own_f0) (.long (0 : Int64))
set_option maxRecDepth 65536 in
set_option maxHeartbeats 40000000 in
theorem rm1_0 (l : Launch) (Z : State) (a0 : Array Value) (hw : ∀ d ∈ tables_1, d.before a0 Z = true) (ws : List Jvm.Cond) (r0 : Addr) (kk : ClassId) (dv : Value) (h0 : Heap) (n0 : Nat) (Z0 : n0 ≤ h0.size) (V : Arv Z h0 r0 kk .int (0 : Int32) [] dv) :
    MetFree l (⟨"com/example/emex/emex/explain/Positions", "of", "([I)Lcom/example/emex/emex/explain/Positions;"⟩ : MethodName) (head1 (Jvm.Cond.code (⟨"com/example/emex/emex/explain/Positions", "of", "([I)Lcom/example/emex/emex/explain/Positions;"⟩ : MethodName) prog_13_method_3_code 7 (some (.object "com/example/emex/emex/explain/Positions")) :: ws) ({ frames := 2, cells := 2, slots := 2, locals := 35 } : Room)) (fun a U => a = #[(.ref r0)] ∧ Z.Warmed39 U.vm ∧ U.heap = h0) (fun _ _ _ _ _ => True) (fun _ U o U' => ∃ v L, o = .returned v ∧ Q1_0 Z r0 kk dv  h0 n0 v U'.heap L ∧ FrameEnd U o U' L ({ frames := 2, cells := 2, slots := 2, locals := 35 } : Room).cells ({ frames := 2, cells := 2, slots := 2, locals := 35 } : Room).slots) := by
  refine MetFree.of_bodySF (plainFor_of_name pn_1) hisR ?_
  intro p e s m args below meth c s₁ Bd hml0 hP hK
  obtain ⟨rfl, hZ, hh⟩ := hP
  have hx := Bd.exec
  have hby := Bd.bytes
  have hml : c.maxLocals = 7 := hml0
  have hown : s.vm.findClass "com/example/emex/emex/explain/Positions" = some m.cls := findClass_of_methodNamed Bd.named
  have hnm := (name_of_methodNamed Bd.named Bd.method).1
  have X0 : Stand p l e ({ frames := 2, cells := 2, slots := 2, locals := 35 } : Room) s m #[(.ref r0)] below meth c s₁ [] 0 0 := Stand.of_body Bd
  have e0 : s₁.heap = h0 := by rw [← hh, Bd.state]; rfl
  have N0 := Fr.nil n0
  have pre0 : ∀ t, Steps p.tables e below (s₁.setTop (mkF m 0 #[.val (.ref r0), .unset, .unset, .unset, .unset, .unset, .unset] [])) t → Steps p.tables e below (s₁.setTop (entryFrame m #[(.ref r0)] 7)) t := fun t k => castTop (ef_1 m r0) k
  have c2 : ∀ t, Steps p.tables e below (s₁.setTop (mkF m 1 #[.val (.ref r0), .unset, .unset, .unset, .unset, .unset, .unset] [(.int (0 : Int32))])) t → Steps p.tables e below (s₁.setTop (mkF m 0 #[.val (.ref r0), .unset, .unset, .unset, .unset, .unset, .unset] [])) t := by
    intro t kt
    show Steps p.tables e below (s₁.setTop (mkF m 0 #[.val (.ref r0), .unset, .unset, .unset, .unset, .unset, .unset] [])) _
    refine XS.iconst X0.here hx rfl (hb hby d1_0) ?_
    exact kt
  obtain ⟨T1, h1, k1, X1, e1, E1, A1, st1⟩ := newP X0 hx hZ (hw _ (List.mem_of_getElem? (i := 5) rfl)) e0 (g := (mkF m 1 #[.val (.ref r0), .unset, .unset, .unset, .unset, .unset, .unset] [(.int (0 : Int32))])) rfl (hb hby d1_1) rfl (by decide) (cap := 0) (by decide) (by decide) (by decide) (by decide)
  obtain ⟨b1, g1⟩ : ∃ z, z = h0.size := ⟨_, rfl⟩
  rw [← g1] at A1 st1
  have g_b1 : n0 ≤ b1 := Nat.le_trans Z0 (Nat.le_of_eq g1.symm)
  have sz_b1 : h0.size ≤ b1 := Nat.le_trans (Keep.refl h0 []).1 (Nat.le_of_eq g1.symm)
  have lt_r0_1 := V.lt
  have V1 : Arv Z h1 b1 k1 .long (0 : Int32) [] (.long (0 : Int64)) := (Arv.new A1 (by decide)).pad (pad_rep [] (.long (0 : Int64)) 0)
  have c3 : ∀ t, Steps p.tables e below (T1.setTop (mkF m 4 #[.val (.ref r0), .val (.ref b1), .unset, .unset, .unset, .unset, .unset] [])) t → Steps p.tables e below (T1.setTop (mkF m 3 #[.val (.ref r0), .unset, .unset, .unset, .unset, .unset, .unset] [(.ref b1)])) t := by
    intro t kt
    show Steps p.tables e below (T1.setTop (mkF m 3 #[.val (.ref r0), .unset, .unset, .unset, .unset, .unset, .unset] [(.ref b1)])) _
    refine XS.astoreN X1.here hx rfl (hb hby d1_3) rfl rfl (l' := #[.val (.ref r0), .val (.ref b1), .unset, .unset, .unset, .unset, .unset]) rfl ?_
    exact kt
  have VP4 : Arv Z h1 b1 k1 .long (Int32.ofNat 0) (own_l8 own_f0) (.long (0 : Int64)) := Arv.pad V1 (fun i => by by_cases h : i < 8; rw [own_at8 own_f0 i h]; rfl; rw [List.getD_eq_getElem?_getD, List.getElem?_eq_none (by simp [own_l8]; omega)]; rfl)
  have hz0 : ∀ i, 0 ≤ i → own_f0 i = 0 := fun _ _ => rfl
  have hl80 : 0 ≤ 8 := by decide
  have hla0 : (0 : Nat) = 0 ∨ own_f0 (0 - 1) ≠ 0 := Or.inl rfl
  have f5 := (V.ext E1)
  have Vc6 := f5
  obtain ⟨cl6, Ar6, qk6, S6, M6, H6, G6⟩ := Vc6
  have c8 : ∀ t, Steps p.tables e below (T1.setTop (mkF m 64 #[.val (.ref r0), .val (.ref b1), .val (.ref r0), .val (.int (0 : Int32)), .val (.int (0 : Int32)), .unset, .unset] [])) t → Steps p.tables e below (T1.setTop (mkF m 4 #[.val (.ref r0), .val (.ref b1), .unset, .unset, .unset, .unset, .unset] [])) t := by
    intro t kt
    show Steps p.tables e below (T1.setTop (mkF m 4 #[.val (.ref r0), .val (.ref b1), .unset, .unset, .unset, .unset, .unset] [])) _
    refine XS.aloadN X1.here hx rfl (hb hby d1_4) rfl rfl ?_
    show Steps p.tables e below (T1.setTop (mkF m 5 #[.val (.ref r0), .val (.ref b1), .unset, .unset, .unset, .unset, .unset] [(.ref r0)])) _
    refine XS.astoreN X1.here hx rfl (hb hby d1_5) rfl rfl (l' := #[.val (.ref r0), .val (.ref b1), .val (.ref r0), .unset, .unset, .unset, .unset]) rfl ?_
    show Steps p.tables e below (T1.setTop (mkF m 6 #[.val (.ref r0), .val (.ref b1), .val (.ref r0), .unset, .unset, .unset, .unset] [])) _
    refine XS.aloadN X1.here hx rfl (hb hby d1_6) rfl rfl ?_
    show Steps p.tables e below (T1.setTop (mkF m 7 #[.val (.ref r0), .val (.ref b1), .val (.ref r0), .unset, .unset, .unset, .unset] [(.ref r0)])) _
    refine X1.arraylength hx (by rw [e1]; exact Ar6.1) (State.isArrayOf_alike hZ.alike Ar6.2.1) (g := (mkF m 7 #[.val (.ref r0), .val (.ref b1), .val (.ref r0), .unset, .unset, .unset, .unset] [(.ref r0)])) rfl rfl (hb hby d1_7) _ ?_
    rw [len_of S6 M6]
    show Steps p.tables e below (T1.setTop (mkF m 8 #[.val (.ref r0), .val (.ref b1), .val (.ref r0), .unset, .unset, .unset, .unset] [(.int (0 : Int32))])) _
    refine XS.istoreN X1.here hx rfl (hb hby d1_8) rfl (l' := #[.val (.ref r0), .val (.ref b1), .val (.ref r0), .val (.int (0 : Int32)), .unset, .unset, .unset]) rfl ?_
    show Steps p.tables e below (T1.setTop (mkF m 9 #[.val (.ref r0), .val (.ref b1), .val (.ref r0), .val (.int (0 : Int32)), .unset, .unset, .unset] [])) _
    refine XS.iconst X1.here hx rfl (hb hby d1_9) ?_
    show Steps p.tables e below (T1.setTop (mkF m 10 #[.val (.ref r0), .val (.ref b1), .val (.ref r0), .val (.int (0 : Int32)), .unset, .unset, .unset] [(.int (0 : Int32))])) _
    refine XS.istore X1.here hx rfl (hb hby d1_10) rfl (l' := #[.val (.ref r0), .val (.ref b1), .val (.ref r0), .val (.int (0 : Int32)), .val (.int (0 : Int32)), .unset, .unset]) rfl ?_
    show Steps p.tables e below (T1.setTop (mkF m 12 #[.val (.ref r0), .val (.ref b1), .val (.ref r0), .val (.int (0 : Int32)), .val (.int (0 : Int32)), .unset, .unset] [])) _
    refine XS.iload X1.here hx rfl (hb hby d1_12) rfl ?_
    show Steps p.tables e below (T1.setTop (mkF m 14 #[.val (.ref r0), .val (.ref b1), .val (.ref r0), .val (.int (0 : Int32)), .val (.int (0 : Int32)), .unset, .unset] [(.int (0 : Int32))])) _
    refine XS.iloadN X1.here hx rfl (hb hby d1_14) rfl ?_
    show Steps p.tables e below (T1.setTop (mkF m 15 #[.val (.ref r0), .val (.ref b1), .val (.ref r0), .val (.int (0 : Int32)), .val (.int (0 : Int32)), .unset, .unset] [(.int (0 : Int32)), (.int (0 : Int32))])) _
    refine XS.icmpYes X1.here hx rfl (pc0 := 15) (pc' := 64) rfl (hb hby d1_15) rfl (flt (by decide : ¬ ((0 : Int32) < (0 : Int32)))).2.1 (by decide) (by decide) ?_
    exact kt
  obtain ⟨T7, h7, X7, e7, E7, A7, D7, U7, st7⟩ := newO X1 hx hZ hown (hw _ (List.mem_of_getElem? (i := 18) rfl)) (hw _ (List.mem_of_getElem? (i := 19) rfl)) (hw _ (List.mem_of_getElem? (i := 3) rfl)) e1 (g := (mkF m 64 #[.val (.ref r0), .val (.ref b1), .val (.ref r0), .val (.int (0 : Int32)), .val (.int (0 : Int32)), .unset, .unset] [])) rfl (hb hby d1_64) (by decide) (by decide)
  obtain ⟨b7, g7⟩ : ∃ z, z = h1.size := ⟨_, rfl⟩
  rw [← g7] at A7 D7 U7 st7
  have f9 := (Nat.le_trans Z0 E1.1)
  have f10 := ((Keep.refl h0 []).ext E1)
  have g_b7 : n0 ≤ b7 := Nat.le_trans f9 (Nat.le_of_eq g7.symm)
  have sz_b7 : h0.size ≤ b7 := Nat.le_trans f10.1 (Nat.le_of_eq g7.symm)
  have lt_r0_7 := f5.lt
  have lt_b1_7 := VP4.lt
  have F7_words : Fld Z h7 b7 "com/example/emex/emex/explain/Positions" "words" "[J" .null := D7 (Or.inr (hw _ (List.mem_of_getElem? (i := 27) rfl))) (ty := (.array .long)) (by decide)
  have F7_size : Fld Z h7 b7 "com/example/emex/emex/explain/Positions" "size" "I" (.int (0 : Int32)) := D7 (Or.inr (hw _ (List.mem_of_getElem? (i := 36) rfl))) (ty := .int) (by decide)
  have c11 : ∀ t, Steps p.tables e below (T7.setTop (mkF m 69 #[.val (.ref r0), .val (.ref b1), .val (.ref r0), .val (.int (0 : Int32)), .val (.int (0 : Int32)), .unset, .unset] [(.ref b1), (.ref b7), (.ref b7)])) t → Steps p.tables e below (T7.setTop (mkF m 67 #[.val (.ref r0), .val (.ref b1), .val (.ref r0), .val (.int (0 : Int32)), .val (.int (0 : Int32)), .unset, .unset] [(.ref b7)])) t := by
    intro t kt
    show Steps p.tables e below (T7.setTop (mkF m 67 #[.val (.ref r0), .val (.ref b1), .val (.ref r0), .val (.int (0 : Int32)), .val (.int (0 : Int32)), .unset, .unset] [(.ref b7)])) _
    refine XS.dup X7.here hx rfl (hb hby d1_67) rfl rfl ?_
    show Steps p.tables e below (T7.setTop (mkF m 68 #[.val (.ref r0), .val (.ref b1), .val (.ref r0), .val (.int (0 : Int32)), .val (.int (0 : Int32)), .unset, .unset] [(.ref b7), (.ref b7)])) _
    refine XS.aloadN X7.here hx rfl (hb hby d1_68) rfl rfl ?_
    exact kt
  have f12 := (Nat.le_trans f9 E7.1)
  have f13 := (VP4.ext E7)
  obtain ⟨_, _, ⟨T14, L14, k14, n14⟩, -, X14, ⟨Lc14, hQ14, l14, y14, z14⟩, st14⟩ := X7.specialBack hx (y := (⟨"com/example/emex/emex/explain/Positions", "<init>", "([J)V"⟩ : MethodName)) rfl hown (mvT hZ (hw _ (List.mem_of_getElem? (i := 20) rfl))) (mvT hZ (hw _ (List.mem_of_getElem? (i := 21) rfl))) (mvT hZ (hw _ (List.mem_of_getElem? (i := 22) rfl))) (by decide) (backOf (W := 1) (rm4 l Z a0 hw [] b7 b1 k1 0 own_f0 h7 n0 f12 f13 hl80 hla0 F7_words F7_size A7 g_b7 (Nat.ne_of_lt (Nat.lt_of_lt_of_le lt_b1_7 (Nat.le_of_eq g7.symm)))) hZ (hw _ (List.mem_of_getElem? (i := 22) rfl)) (hw _ (List.mem_of_getElem? (i := 3) rfl)) (by decide) (by decide)) (g := (mkF m 69 #[.val (.ref r0), .val (.ref b1), .val (.ref r0), .val (.int (0 : Int32)), .val (.int (0 : Int32)), .unset, .unset] [(.ref b1), (.ref b7), (.ref b7)])) rfl (by rw [hml]; rfl) (Steps.refl _) (a := b7) (argsL := [(.ref b1)]) (rest := [(.ref b7)]) (lenOf pd_2 rfl) rfl (by show 2 * 0 + _ ≤ _; exact Nat.le_of_eq rfl) (hb hby d1_69) (fun _ _ => ⟨rfl, e7, (by decide : 2 + 0 ≤ _), (by decide : 2 + 0 ≤ _)⟩)
  dsimp only [Pt.U, Pt.locs, Pt.cells, Pt.slots] at X14 l14 y14 z14 st14 hQ14
  subst l14 y14 z14
  obtain ⟨rfl, N14q, Kq14, Eq14, Fq14_0, Fq14_1⟩ := hQ14
  have N14 := Fr.app N0 N14q
  obtain ⟨fs, hr, hrun, hended, hW, hsame⟩ := X14.leave (v := some (.ref b7)) (fun h => by rw [Bd.returns] at h; cases h)
  have f16 := ((f10.ext E7).trans Kq14 (allS (Or.inr sz_b7) all0))
  have f17 := (f13.keep Kq14 (ninS (Nat.ne_of_lt (Nat.lt_of_lt_of_le lt_b1_7 (Nat.le_of_eq g7.symm))) nin0))
  refine ⟨_, _, pre0 _ (c2 _ (st1 _ (c3 _ (c8 _ (st7 _ (c11 _ (st14.trans (?_)))))))), hrun, hended, _, _, rfl, ?_, ⟨_, rfl⟩, hW, hsame.mono (by decide) (by decide)⟩
  · show Steps p.tables e below (T14.setTop (mkF m 72 #[.val (.ref r0), .val (.ref b1), .val (.ref r0), .val (.int (0 : Int32)), .val (.int (0 : Int32)), .unset, .unset] [(.ref b7)])) _
    jvm_step X14.here [X14.here.top, hx, (hb hby d1_72), X14.method', Bd.returns, Value.isRef, FieldType.isReference]
    first | (intro acts; rw [hr _ acts rfl rfl rfl]) | rw [hr _ _ rfl rfl rfl]
    exact Steps.refl _
  · show Q1_0 Z r0 kk dv  h0 n0 _ T14.heap _
    exact ⟨b7, b1, k1, 0, hl80, hz0, rfl, N14, f16, g_b7, Eq14, Fq14_0, Fq14_1, f17⟩
theorem d1_18 : decode prog_13_method_3_code 18 = .ok (.aload_n 2, 1) := by decide +kernel
theorem d1_19 : decode prog_13_method_3_code 19 = .ok (.iload 4, 2) := by decide +kernel
theorem d1_21 : decode prog_13_method_3_code 21 = .ok (.iaload, 1) := by decide +kernel
theorem d1_22 : decode prog_13_method_3_code 22 = .ok (.istore 5, 2) := by decide +kernel
theorem d1_24 : decode prog_13_method_3_code 24 = .ok (.iload 5, 2) := by decide +kernel
theorem d1_26 : decode prog_13_method_3_code 26 = .ok (.bipush 6, 2) := by decide +kernel
theorem d1_28 : decode prog_13_method_3_code 28 = .ok (.iushr, 1) := by decide +kernel
theorem d1_29 : decode prog_13_method_3_code 29 = .ok (.istore 6, 2) := by decide +kernel
theorem d1_31 : decode prog_13_method_3_code 31 = .ok (.iload 6, 2) := by decide +kernel
theorem d1_33 : decode prog_13_method_3_code 33 = .ok (.aload_n 1, 1) := by decide +kernel
theorem d1_34 : decode prog_13_method_3_code 34 = .ok (.arraylength, 1) := by decide +kernel
theorem d1_35 : decode prog_13_method_3_code 35 = .ok (.if_icmp .lt 12, 3) := by decide +kernel
theorem d1_38 : decode prog_13_method_3_code 38 = .ok (.aload_n 1, 1) := by decide +kernel
theorem d1_39 : decode prog_13_method_3_code 39 = .ok (.iload 6, 2) := by decide +kernel
theorem d1_41 : decode prog_13_method_3_code 41 = .ok (.iconst 1, 1) := by decide +kernel
theorem d1_42 : decode prog_13_method_3_code 42 = .ok (.iadd, 1) := by decide +kernel
theorem d1_43 : decode prog_13_method_3_code 43 = .ok (.invokestatic 7, 3) := by decide +kernel
theorem d1_46 : decode prog_13_method_3_code 46 = .ok (.astore_n 1, 1) := by decide +kernel
theorem d1_47 : decode prog_13_method_3_code 47 = .ok (.aload_n 1, 1) := by decide +kernel
theorem d1_48 : decode prog_13_method_3_code 48 = .ok (.iload 6, 2) := by decide +kernel
theorem d1_50 : decode prog_13_method_3_code 50 = .ok (.dup2, 1) := by decide +kernel
theorem d1_51 : decode prog_13_method_3_code 51 = .ok (.laload, 1) := by decide +kernel
theorem d1_52 : decode prog_13_method_3_code 52 = .ok (.lconst 1, 1) := by decide +kernel
theorem d1_53 : decode prog_13_method_3_code 53 = .ok (.iload 5, 2) := by decide +kernel
theorem d1_55 : decode prog_13_method_3_code 55 = .ok (.lshl, 1) := by decide +kernel
theorem d1_56 : decode prog_13_method_3_code 56 = .ok (.lor, 1) := by decide +kernel
theorem d1_57 : decode prog_13_method_3_code 57 = .ok (.lastore, 1) := by decide +kernel
theorem d1_58 : decode prog_13_method_3_code 58 = .ok (.iinc 4 1, 3) := by decide +kernel
theorem d1_61 : decode prog_13_method_3_code 61 = .ok (.goto (-49), 3) := by decide +kernel
def Q1_1 (Z : State) (r0 : Addr) (kk : ClassId) (dv : Value) (x : Nat) (h0 : Heap) (n0 : Nat) (v : Option Value) (h : Heap) (L : List Loc) : Prop := ∃ (b t : Addr) (k : ClassId) (ln : Nat), ln ≤ 8 ∧ (∀ i, ln ≤ i → (own_or own_f0 x) i = 0) ∧ x / 64 < ln ∧ v = some (.ref b) ∧ Fr n0 L ∧ Keep h0 h [] ∧ n0 ≤ b ∧ Exa Z h b "com/example/emex/emex/explain/Positions" ∧ Fld Z h b "com/example/emex/emex/explain/Positions" "words" "[J" (.ref t) ∧ Fld Z h b "com/example/emex/emex/explain/Positions" "size" "I" (.int (own_cnt (own_or own_f0 x) ln)) ∧ Arv Z h t k .long (Int32.ofNat ln) (own_l8 (own_or own_f0 x)) (.long (0 : Int64))
set_option maxRecDepth 65536 in
set_option maxHeartbeats 40000000 in
theorem rm1_1 (l : Launch) (Z : State) (a0 : Array Value) (hw : ∀ d ∈ tables_1, d.before a0 Z = true) (ws : List Jvm.Cond) (r0 : Addr) (kk : ClassId) (dv : Value) (x : Nat) (h0 : Heap) (n0 : Nat) (Z0 : n0 ≤ h0.size) (V : Arv Z h0 r0 kk .int (1 : Int32) [(.int (Int32.ofNat x))] dv) (hx : x < 512) :
    MetFree l (⟨"com/example/emex/emex/explain/Positions", "of", "([I)Lcom/example/emex/emex/explain/Positions;"⟩ : MethodName) (head1 (Jvm.Cond.code (⟨"com/example/emex/emex/explain/Positions", "of", "([I)Lcom/example/emex/emex/explain/Positions;"⟩ : MethodName) prog_13_method_3_code 7 (some (.object "com/example/emex/emex/explain/Positions")) :: ws) ({ frames := 2, cells := 3, slots := 10, locals := 78 } : Room)) (fun a U => a = #[(.ref r0)] ∧ Z.Warmed39 U.vm ∧ U.heap = h0) (fun _ _ _ _ _ => True) (fun _ U o U' => ∃ v L, o = .returned v ∧ Q1_1 Z r0 kk dv x h0 n0 v U'.heap L ∧ FrameEnd U o U' L ({ frames := 2, cells := 3, slots := 10, locals := 78 } : Room).cells ({ frames := 2, cells := 3, slots := 10, locals := 78 } : Room).slots) := by
  refine MetFree.of_bodySF (plainFor_of_name pn_1) hisR ?_
  intro p e s m args below meth c s₁ Bd hml0 hP hK
  obtain ⟨rfl, hZ, hh⟩ := hP
  have hx := Bd.exec
  have hby := Bd.bytes
  have hml : c.maxLocals = 7 := hml0
  have hown : s.vm.findClass "com/example/emex/emex/explain/Positions" = some m.cls := findClass_of_methodNamed Bd.named
  have hnm := (name_of_methodNamed Bd.named Bd.method).1
  have X0 : Stand p l e ({ frames := 2, cells := 3, slots := 10, locals := 78 } : Room) s m #[(.ref r0)] below meth c s₁ [] 0 0 := Stand.of_body Bd
  have e0 : s₁.heap = h0 := by rw [← hh, Bd.state]; rfl
  have N0 := Fr.nil n0
  have pre0 : ∀ t, Steps p.tables e below (s₁.setTop (mkF m 0 #[.val (.ref r0), .unset, .unset, .unset, .unset, .unset, .unset] [])) t → Steps p.tables e below (s₁.setTop (entryFrame m #[(.ref r0)] 7)) t := fun t k => castTop (ef_1 m r0) k
  have c2 : ∀ t, Steps p.tables e below (s₁.setTop (mkF m 1 #[.val (.ref r0), .unset, .unset, .unset, .unset, .unset, .unset] [(.int (0 : Int32))])) t → Steps p.tables e below (s₁.setTop (mkF m 0 #[.val (.ref r0), .unset, .unset, .unset, .unset, .unset, .unset] [])) t := by
    intro t kt
    show Steps p.tables e below (s₁.setTop (mkF m 0 #[.val (.ref r0), .unset, .unset, .unset, .unset, .unset, .unset] [])) _
    refine XS.iconst X0.here hx rfl (hb hby d1_0) ?_
    exact kt
  obtain ⟨T1, h1, k1, X1, e1, E1, A1, st1⟩ := newP X0 hx hZ (hw _ (List.mem_of_getElem? (i := 5) rfl)) e0 (g := (mkF m 1 #[.val (.ref r0), .unset, .unset, .unset, .unset, .unset, .unset] [(.int (0 : Int32))])) rfl (hb hby d1_1) rfl (by decide) (cap := 0) (by decide) (by decide) (by decide) (by decide)
  obtain ⟨b1, g1⟩ : ∃ z, z = h0.size := ⟨_, rfl⟩
  rw [← g1] at A1 st1
  have g_b1 : n0 ≤ b1 := Nat.le_trans Z0 (Nat.le_of_eq g1.symm)
  have sz_b1 : h0.size ≤ b1 := Nat.le_trans (Keep.refl h0 []).1 (Nat.le_of_eq g1.symm)
  have lt_r0_1 := V.lt
  have V1 : Arv Z h1 b1 k1 .long (0 : Int32) [] (.long (0 : Int64)) := (Arv.new A1 (by decide)).pad (pad_rep [] (.long (0 : Int64)) 0)
  have c3 : ∀ t, Steps p.tables e below (T1.setTop (mkF m 4 #[.val (.ref r0), .val (.ref b1), .unset, .unset, .unset, .unset, .unset] [])) t → Steps p.tables e below (T1.setTop (mkF m 3 #[.val (.ref r0), .unset, .unset, .unset, .unset, .unset, .unset] [(.ref b1)])) t := by
    intro t kt
    show Steps p.tables e below (T1.setTop (mkF m 3 #[.val (.ref r0), .unset, .unset, .unset, .unset, .unset, .unset] [(.ref b1)])) _
    refine XS.astoreN X1.here hx rfl (hb hby d1_3) rfl rfl (l' := #[.val (.ref r0), .val (.ref b1), .unset, .unset, .unset, .unset, .unset]) rfl ?_
    exact kt
  have VP4 : Arv Z h1 b1 k1 .long (Int32.ofNat 0) (own_l8 own_f0) (.long (0 : Int64)) := Arv.pad V1 (fun i => by by_cases h : i < 8; rw [own_at8 own_f0 i h]; rfl; rw [List.getD_eq_getElem?_getD, List.getElem?_eq_none (by simp [own_l8]; omega)]; rfl)
  have hz0 : ∀ i, 0 ≤ i → own_f0 i = 0 := fun _ _ => rfl
  have hl80 : 0 ≤ 8 := by decide
  have hla0 : (0 : Nat) = 0 ∨ own_f0 (0 - 1) ≠ 0 := Or.inl rfl
  have f5 := (V.ext E1)
  have Vc6 := f5
  obtain ⟨cl6, Ar6, qk6, S6, M6, H6, G6⟩ := Vc6
  have Vc7 := f5
  obtain ⟨cl7, Ar7, qk7, S7, M7, H7, G7⟩ := Vc7
  have hin7 : ¬ ((0 : Int32) < 0 ∨ cl7.slots.size ≤ ((0 : Int32)).toNatClampNeg) := inb_of S7 ⟨by decide, by decide⟩
  have hat7 : cl7.slots[((0 : Int32)).toNatClampNeg]? = some (.int (Int32.ofNat x)) := H7.at hin7 rfl
  have c8 : ∀ t, Steps p.tables e below (T1.setTop (mkF m 31 #[.val (.ref r0), .val (.ref b1), .val (.ref r0), .val (.int (1 : Int32)), .val (.int (0 : Int32)), .val (.int (Int32.ofNat x)), .val (.int (((Int32.ofNat x).toUInt32 >>> ((6 : Int32) &&& 31).toUInt32).toInt32))] [])) t → Steps p.tables e below (T1.setTop (mkF m 4 #[.val (.ref r0), .val (.ref b1), .unset, .unset, .unset, .unset, .unset] [])) t := by
    intro t kt
    show Steps p.tables e below (T1.setTop (mkF m 4 #[.val (.ref r0), .val (.ref b1), .unset, .unset, .unset, .unset, .unset] [])) _
    refine XS.aloadN X1.here hx rfl (hb hby d1_4) rfl rfl ?_
    show Steps p.tables e below (T1.setTop (mkF m 5 #[.val (.ref r0), .val (.ref b1), .unset, .unset, .unset, .unset, .unset] [(.ref r0)])) _
    refine XS.astoreN X1.here hx rfl (hb hby d1_5) rfl rfl (l' := #[.val (.ref r0), .val (.ref b1), .val (.ref r0), .unset, .unset, .unset, .unset]) rfl ?_
    show Steps p.tables e below (T1.setTop (mkF m 6 #[.val (.ref r0), .val (.ref b1), .val (.ref r0), .unset, .unset, .unset, .unset] [])) _
    refine XS.aloadN X1.here hx rfl (hb hby d1_6) rfl rfl ?_
    show Steps p.tables e below (T1.setTop (mkF m 7 #[.val (.ref r0), .val (.ref b1), .val (.ref r0), .unset, .unset, .unset, .unset] [(.ref r0)])) _
    refine X1.arraylength hx (by rw [e1]; exact Ar6.1) (State.isArrayOf_alike hZ.alike Ar6.2.1) (g := (mkF m 7 #[.val (.ref r0), .val (.ref b1), .val (.ref r0), .unset, .unset, .unset, .unset] [(.ref r0)])) rfl rfl (hb hby d1_7) _ ?_
    rw [len_of S6 M6]
    show Steps p.tables e below (T1.setTop (mkF m 8 #[.val (.ref r0), .val (.ref b1), .val (.ref r0), .unset, .unset, .unset, .unset] [(.int (1 : Int32))])) _
    refine XS.istoreN X1.here hx rfl (hb hby d1_8) rfl (l' := #[.val (.ref r0), .val (.ref b1), .val (.ref r0), .val (.int (1 : Int32)), .unset, .unset, .unset]) rfl ?_
    show Steps p.tables e below (T1.setTop (mkF m 9 #[.val (.ref r0), .val (.ref b1), .val (.ref r0), .val (.int (1 : Int32)), .unset, .unset, .unset] [])) _
    refine XS.iconst X1.here hx rfl (hb hby d1_9) ?_
    show Steps p.tables e below (T1.setTop (mkF m 10 #[.val (.ref r0), .val (.ref b1), .val (.ref r0), .val (.int (1 : Int32)), .unset, .unset, .unset] [(.int (0 : Int32))])) _
    refine XS.istore X1.here hx rfl (hb hby d1_10) rfl (l' := #[.val (.ref r0), .val (.ref b1), .val (.ref r0), .val (.int (1 : Int32)), .val (.int (0 : Int32)), .unset, .unset]) rfl ?_
    show Steps p.tables e below (T1.setTop (mkF m 12 #[.val (.ref r0), .val (.ref b1), .val (.ref r0), .val (.int (1 : Int32)), .val (.int (0 : Int32)), .unset, .unset] [])) _
    refine XS.iload X1.here hx rfl (hb hby d1_12) rfl ?_
    show Steps p.tables e below (T1.setTop (mkF m 14 #[.val (.ref r0), .val (.ref b1), .val (.ref r0), .val (.int (1 : Int32)), .val (.int (0 : Int32)), .unset, .unset] [(.int (0 : Int32))])) _
    refine XS.iloadN X1.here hx rfl (hb hby d1_14) rfl ?_
    show Steps p.tables e below (T1.setTop (mkF m 15 #[.val (.ref r0), .val (.ref b1), .val (.ref r0), .val (.int (1 : Int32)), .val (.int (0 : Int32)), .unset, .unset] [(.int (1 : Int32)), (.int (0 : Int32))])) _
    refine XS.icmpNo X1.here hx rfl (hb hby d1_15) rfl (tlt (by decide : (0 : Int32) < (1 : Int32))).2.1 ?_
    show Steps p.tables e below (T1.setTop (mkF m 18 #[.val (.ref r0), .val (.ref b1), .val (.ref r0), .val (.int (1 : Int32)), .val (.int (0 : Int32)), .unset, .unset] [])) _
    refine XS.aloadN X1.here hx rfl (hb hby d1_18) rfl rfl ?_
    show Steps p.tables e below (T1.setTop (mkF m 19 #[.val (.ref r0), .val (.ref b1), .val (.ref r0), .val (.int (1 : Int32)), .val (.int (0 : Int32)), .unset, .unset] [(.ref r0)])) _
    refine XS.iload X1.here hx rfl (hb hby d1_19) rfl ?_
    show Steps p.tables e below (T1.setTop (mkF m 21 #[.val (.ref r0), .val (.ref b1), .val (.ref r0), .val (.int (1 : Int32)), .val (.int (0 : Int32)), .unset, .unset] [(.int (0 : Int32)), (.ref r0)])) _
    refine X1.iaload hx (j := (0 : Int32)) (v := (.int (Int32.ofNat x))) (by rw [e1]; exact Ar7.1) (State.isArrayOf_alike hZ.alike Ar7.2.1) Ar7.2.2 hin7 hat7 (g := (mkF m 21 #[.val (.ref r0), .val (.ref b1), .val (.ref r0), .val (.int (1 : Int32)), .val (.int (0 : Int32)), .unset, .unset] [(.int (0 : Int32)), (.ref r0)])) rfl rfl (hb hby d1_21) _ ?_
    show Steps p.tables e below (T1.setTop (mkF m 22 #[.val (.ref r0), .val (.ref b1), .val (.ref r0), .val (.int (1 : Int32)), .val (.int (0 : Int32)), .unset, .unset] [(.int (Int32.ofNat x))])) _
    refine XS.istore X1.here hx rfl (hb hby d1_22) rfl (l' := #[.val (.ref r0), .val (.ref b1), .val (.ref r0), .val (.int (1 : Int32)), .val (.int (0 : Int32)), .val (.int (Int32.ofNat x)), .unset]) rfl ?_
    show Steps p.tables e below (T1.setTop (mkF m 24 #[.val (.ref r0), .val (.ref b1), .val (.ref r0), .val (.int (1 : Int32)), .val (.int (0 : Int32)), .val (.int (Int32.ofNat x)), .unset] [])) _
    refine XS.iload X1.here hx rfl (hb hby d1_24) rfl ?_
    show Steps p.tables e below (T1.setTop (mkF m 26 #[.val (.ref r0), .val (.ref b1), .val (.ref r0), .val (.int (1 : Int32)), .val (.int (0 : Int32)), .val (.int (Int32.ofNat x)), .unset] [(.int (Int32.ofNat x))])) _
    refine XS.bipush X1.here hx rfl (hb hby d1_26) ?_
    show Steps p.tables e below (T1.setTop (mkF m 28 #[.val (.ref r0), .val (.ref b1), .val (.ref r0), .val (.int (1 : Int32)), .val (.int (0 : Int32)), .val (.int (Int32.ofNat x)), .unset] [(.int (6 : Int32)), (.int (Int32.ofNat x))])) _
    refine XS.iushr X1.here hx rfl (hb hby d1_28) rfl ?_
    show Steps p.tables e below (T1.setTop (mkF m 29 #[.val (.ref r0), .val (.ref b1), .val (.ref r0), .val (.int (1 : Int32)), .val (.int (0 : Int32)), .val (.int (Int32.ofNat x)), .unset] [(.int (((Int32.ofNat x).toUInt32 >>> ((6 : Int32) &&& 31).toUInt32).toInt32))])) _
    refine XS.istore X1.here hx rfl (hb hby d1_29) rfl (l' := #[.val (.ref r0), .val (.ref b1), .val (.ref r0), .val (.int (1 : Int32)), .val (.int (0 : Int32)), .val (.int (Int32.ofNat x)), .val (.int (((Int32.ofNat x).toUInt32 >>> ((6 : Int32) &&& 31).toUInt32).toInt32))]) rfl ?_
    exact kt
  have c9 : ∀ t, Steps p.tables e below (T1.setTop (mkF m 31 #[.val (.ref r0), .val (.ref b1), .val (.ref r0), .val (.int (1 : Int32)), .val (.int (0 : Int32)), .val (.int (Int32.ofNat x)), .val (.int (Int32.ofNat (x / 64)))] [])) t → Steps p.tables e below (T1.setTop (mkF m 31 #[.val (.ref r0), .val (.ref b1), .val (.ref r0), .val (.int (1 : Int32)), .val (.int (0 : Int32)), .val (.int (Int32.ofNat x)), .val (.int (((Int32.ofNat x).toUInt32 >>> ((6 : Int32) &&& 31).toUInt32).toInt32))] [])) t := fun t kt => castTop (congrArg (fun zv => (mkF m 31 #[.val (.ref r0), .val (.ref b1), .val (.ref r0), .val (.int (1 : Int32)), .val (.int (0 : Int32)), .val (.int (Int32.ofNat x)), .val (.int zv)] [])) (show (((Int32.ofNat x).toUInt32 >>> ((6 : Int32) &&& 31).toUInt32).toInt32) = (Int32.ofNat (x / 64)) from own_w6 x (by omega))) kt
  have Vc10 := VP4
  obtain ⟨cl10, Ar10, qk10, S10, M10, H10, G10⟩ := Vc10
  have c12 : ∀ t, Steps p.tables e below (T1.setTop (mkF m 35 #[.val (.ref r0), .val (.ref b1), .val (.ref r0), .val (.int (1 : Int32)), .val (.int (0 : Int32)), .val (.int (Int32.ofNat x)), .val (.int (Int32.ofNat (x / 64)))] [(.int (Int32.ofNat 0)), (.int (Int32.ofNat (x / 64)))])) t → Steps p.tables e below (T1.setTop (mkF m 31 #[.val (.ref r0), .val (.ref b1), .val (.ref r0), .val (.int (1 : Int32)), .val (.int (0 : Int32)), .val (.int (Int32.ofNat x)), .val (.int (Int32.ofNat (x / 64)))] [])) t := by
    intro t kt
    show Steps p.tables e below (T1.setTop (mkF m 31 #[.val (.ref r0), .val (.ref b1), .val (.ref r0), .val (.int (1 : Int32)), .val (.int (0 : Int32)), .val (.int (Int32.ofNat x)), .val (.int (Int32.ofNat (x / 64)))] [])) _
    refine XS.iload X1.here hx rfl (hb hby d1_31) rfl ?_
    show Steps p.tables e below (T1.setTop (mkF m 33 #[.val (.ref r0), .val (.ref b1), .val (.ref r0), .val (.int (1 : Int32)), .val (.int (0 : Int32)), .val (.int (Int32.ofNat x)), .val (.int (Int32.ofNat (x / 64)))] [(.int (Int32.ofNat (x / 64)))])) _
    refine XS.aloadN X1.here hx rfl (hb hby d1_33) rfl rfl ?_
    show Steps p.tables e below (T1.setTop (mkF m 34 #[.val (.ref r0), .val (.ref b1), .val (.ref r0), .val (.int (1 : Int32)), .val (.int (0 : Int32)), .val (.int (Int32.ofNat x)), .val (.int (Int32.ofNat (x / 64)))] [(.ref b1), (.int (Int32.ofNat (x / 64)))])) _
    refine X1.arraylength hx (by rw [e1]; exact Ar10.1) (State.isArrayOf_alike hZ.alike Ar10.2.1) (g := (mkF m 34 #[.val (.ref r0), .val (.ref b1), .val (.ref r0), .val (.int (1 : Int32)), .val (.int (0 : Int32)), .val (.int (Int32.ofNat x)), .val (.int (Int32.ofNat (x / 64)))] [(.ref b1), (.int (Int32.ofNat (x / 64)))])) rfl rfl (hb hby d1_34) _ ?_
    rw [len_of S10 M10]
    exact kt
  have hd11 : ¬ ((Int32.ofNat (x / 64)) < (Int32.ofNat 0)) := by rw [own_lt _ _ (by omega) (by omega)]; omega
  have c13 : ∀ t, Steps p.tables e below (T1.setTop (mkF m 43 #[.val (.ref r0), .val (.ref b1), .val (.ref r0), .val (.int (1 : Int32)), .val (.int (0 : Int32)), .val (.int (Int32.ofNat x)), .val (.int (Int32.ofNat (x / 64)))] [(.int ((Int32.ofNat (x / 64)) + (1 : Int32))), (.ref b1)])) t → Steps p.tables e below (T1.setTop (mkF m 35 #[.val (.ref r0), .val (.ref b1), .val (.ref r0), .val (.int (1 : Int32)), .val (.int (0 : Int32)), .val (.int (Int32.ofNat x)), .val (.int (Int32.ofNat (x / 64)))] [(.int (Int32.ofNat 0)), (.int (Int32.ofNat (x / 64)))])) t := by
    intro t kt
    show Steps p.tables e below (T1.setTop (mkF m 35 #[.val (.ref r0), .val (.ref b1), .val (.ref r0), .val (.int (1 : Int32)), .val (.int (0 : Int32)), .val (.int (Int32.ofNat x)), .val (.int (Int32.ofNat (x / 64)))] [(.int (Int32.ofNat 0)), (.int (Int32.ofNat (x / 64)))])) _
    refine XS.icmpNo X1.here hx rfl (hb hby d1_35) rfl (flt (hd11)).1 ?_
    show Steps p.tables e below (T1.setTop (mkF m 38 #[.val (.ref r0), .val (.ref b1), .val (.ref r0), .val (.int (1 : Int32)), .val (.int (0 : Int32)), .val (.int (Int32.ofNat x)), .val (.int (Int32.ofNat (x / 64)))] [])) _
    refine XS.aloadN X1.here hx rfl (hb hby d1_38) rfl rfl ?_
    show Steps p.tables e below (T1.setTop (mkF m 39 #[.val (.ref r0), .val (.ref b1), .val (.ref r0), .val (.int (1 : Int32)), .val (.int (0 : Int32)), .val (.int (Int32.ofNat x)), .val (.int (Int32.ofNat (x / 64)))] [(.ref b1)])) _
    refine XS.iload X1.here hx rfl (hb hby d1_39) rfl ?_
    show Steps p.tables e below (T1.setTop (mkF m 41 #[.val (.ref r0), .val (.ref b1), .val (.ref r0), .val (.int (1 : Int32)), .val (.int (0 : Int32)), .val (.int (Int32.ofNat x)), .val (.int (Int32.ofNat (x / 64)))] [(.int (Int32.ofNat (x / 64))), (.ref b1)])) _
    refine XS.iconst X1.here hx rfl (hb hby d1_41) ?_
    show Steps p.tables e below (T1.setTop (mkF m 42 #[.val (.ref r0), .val (.ref b1), .val (.ref r0), .val (.int (1 : Int32)), .val (.int (0 : Int32)), .val (.int (Int32.ofNat x)), .val (.int (Int32.ofNat (x / 64)))] [(.int (1 : Int32)), (.int (Int32.ofNat (x / 64))), (.ref b1)])) _
    refine XS.iadd X1.here hx rfl (hb hby d1_42) rfl ?_
    exact kt
  have c14 : ∀ t, Steps p.tables e below (T1.setTop (mkF m 43 #[.val (.ref r0), .val (.ref b1), .val (.ref r0), .val (.int (1 : Int32)), .val (.int (0 : Int32)), .val (.int (Int32.ofNat x)), .val (.int (Int32.ofNat (x / 64)))] [(.int (Int32.ofNat (x / 64 + 1))), (.ref b1)])) t → Steps p.tables e below (T1.setTop (mkF m 43 #[.val (.ref r0), .val (.ref b1), .val (.ref r0), .val (.int (1 : Int32)), .val (.int (0 : Int32)), .val (.int (Int32.ofNat x)), .val (.int (Int32.ofNat (x / 64)))] [(.int ((Int32.ofNat (x / 64)) + (1 : Int32))), (.ref b1)])) t := fun t kt => castTop (congrArg (fun zv => (mkF m 43 #[.val (.ref r0), .val (.ref b1), .val (.ref r0), .val (.int (1 : Int32)), .val (.int (0 : Int32)), .val (.int (Int32.ofNat x)), .val (.int (Int32.ofNat (x / 64)))] [(.int zv), (.ref b1)])) (show ((Int32.ofNat (x / 64)) + (1 : Int32)) = (Int32.ofNat (x / 64 + 1)) from own_up _ (by omega))) kt
  have hl815 : x / 64 + 1 ≤ 8 := by omega
  have hzg15 : ∀ i, x / 64 + 1 ≤ i → own_f0 i = 0 := fun i hi => hz0 i (by omega)
  have f16 := (Nat.le_trans Z0 E1.1)
  obtain ⟨_, _, ⟨T17, L17, k17, n17⟩, -, X17, ⟨Lc17, hQ17, l17, y17, z17⟩, st17⟩ := Jvm.LawKit.callS X1 hx (y := (⟨"java/util/Arrays", "copyOf", "([JI)[J"⟩ : MethodName)) hown (mvT hZ (hw _ (List.mem_of_getElem? (i := 6) rfl))) (mvT hZ (hw _ (List.mem_of_getElem? (i := 7) rfl))) (mvT hZ (hw _ (List.mem_of_getElem? (i := 8) rfl))) (mvT hZ (hw _ (List.mem_of_getElem? (i := 9) rfl))) (by decide) (backOf (W := 0) (rm2 l Z a0 hw []  b1 (x / 64 + 1) k1 0 own_f0 h1 n0 f16 VP4 (by omega) (by omega) hl80 hz0) hZ (hw _ (List.mem_of_getElem? (i := 9) rfl)) (hw _ (List.mem_of_getElem? (i := 8) rfl)) (by decide) (by decide)) (g := (mkF m 43 #[.val (.ref r0), .val (.ref b1), .val (.ref r0), .val (.int (1 : Int32)), .val (.int (0 : Int32)), .val (.int (Int32.ofNat x)), .val (.int (Int32.ofNat (x / 64)))] [(.int (Int32.ofNat (x / 64 + 1))), (.ref b1)])) rfl (by rw [hml]; rfl) (argsL := [(.ref b1), (.int (Int32.ofNat (x / 64 + 1)))]) (rest := []) (lenOf pd_3 rfl) rfl (by show 2 * 0 + _ ≤ _; exact Nat.le_of_eq rfl) (hb hby d1_43) (fun _ _ => ⟨rfl, e1, (by decide : 1 + 1 ≤ _), (by decide : 0 + 8 ≤ _)⟩)
  dsimp only [Pt.U, Pt.locs, Pt.cells, Pt.slots] at X17 l17 y17 z17 st17 hQ17
  subst l17 y17 z17
  obtain ⟨ob17, kk17, rfl, N17q, Kq17, g_ob17, szq17, Vq17⟩ := hQ17
  have N17 := Fr.app N0 N17q
  have lt_r0_17 := f5.lt
  have lt_b1_17 := VP4.lt
  have f18 := ((Keep.refl h0 []).ext E1)
  have sz_ob17 : h0.size ≤ ob17 := Nat.le_trans f18.1 szq17
  have Vc19 := Vq17
  obtain ⟨cl19, Ar19, qk19, S19, M19, H19, G19⟩ := Vc19
  have hin19 : ¬ ((Int32.ofNat (x / 64)) < 0 ∨ cl19.slots.size ≤ ((Int32.ofNat (x / 64))).toNatClampNeg) := inb_of S19 (own_in (x / 64) (x / 64 + 1) (by omega) hl815)
  have hat19 : cl19.slots[((Int32.ofNat (x / 64))).toNatClampNeg]? = some (.long (own_f0 (x / 64))) := H19.at hin19 (own_at8' own_f0 (x / 64) (by omega) _)
  have c20 : ∀ t, Steps p.tables e below (T17.setTop (mkF m 57 #[.val (.ref r0), .val (.ref ob17), .val (.ref r0), .val (.int (1 : Int32)), .val (.int (0 : Int32)), .val (.int (Int32.ofNat x)), .val (.int (Int32.ofNat (x / 64)))] [(.long ((own_f0 (x / 64)) ||| ((1 : Int64) <<< ((Int32.ofNat x) &&& 0x3f).toInt64))), (.int (Int32.ofNat (x / 64))), (.ref ob17)])) t → Steps p.tables e below (T17.setTop (mkF m 46 #[.val (.ref r0), .val (.ref b1), .val (.ref r0), .val (.int (1 : Int32)), .val (.int (0 : Int32)), .val (.int (Int32.ofNat x)), .val (.int (Int32.ofNat (x / 64)))] [(.ref ob17)])) t := by
    intro t kt
    show Steps p.tables e below (T17.setTop (mkF m 46 #[.val (.ref r0), .val (.ref b1), .val (.ref r0), .val (.int (1 : Int32)), .val (.int (0 : Int32)), .val (.int (Int32.ofNat x)), .val (.int (Int32.ofNat (x / 64)))] [(.ref ob17)])) _
    refine XS.astoreN X17.here hx rfl (hb hby d1_46) rfl rfl (l' := #[.val (.ref r0), .val (.ref ob17), .val (.ref r0), .val (.int (1 : Int32)), .val (.int (0 : Int32)), .val (.int (Int32.ofNat x)), .val (.int (Int32.ofNat (x / 64)))]) rfl ?_
    show Steps p.tables e below (T17.setTop (mkF m 47 #[.val (.ref r0), .val (.ref ob17), .val (.ref r0), .val (.int (1 : Int32)), .val (.int (0 : Int32)), .val (.int (Int32.ofNat x)), .val (.int (Int32.ofNat (x / 64)))] [])) _
    refine XS.aloadN X17.here hx rfl (hb hby d1_47) rfl rfl ?_
    show Steps p.tables e below (T17.setTop (mkF m 48 #[.val (.ref r0), .val (.ref ob17), .val (.ref r0), .val (.int (1 : Int32)), .val (.int (0 : Int32)), .val (.int (Int32.ofNat x)), .val (.int (Int32.ofNat (x / 64)))] [(.ref ob17)])) _
    refine XS.iload X17.here hx rfl (hb hby d1_48) rfl ?_
    show Steps p.tables e below (T17.setTop (mkF m 50 #[.val (.ref r0), .val (.ref ob17), .val (.ref r0), .val (.int (1 : Int32)), .val (.int (0 : Int32)), .val (.int (Int32.ofNat x)), .val (.int (Int32.ofNat (x / 64)))] [(.int (Int32.ofNat (x / 64))), (.ref ob17)])) _
    refine Jvm.Free.XT.dup2 X17.here hx rfl (hb hby d1_50) rfl rfl rfl ?_
    show Steps p.tables e below (T17.setTop (mkF m 51 #[.val (.ref r0), .val (.ref ob17), .val (.ref r0), .val (.int (1 : Int32)), .val (.int (0 : Int32)), .val (.int (Int32.ofNat x)), .val (.int (Int32.ofNat (x / 64)))] [(.int (Int32.ofNat (x / 64))), (.ref ob17), (.int (Int32.ofNat (x / 64))), (.ref ob17)])) _
    refine X17.laload hx (j := (Int32.ofNat (x / 64))) (v := (.long (own_f0 (x / 64)))) Ar19.1 (State.isArrayOf_alike hZ.alike Ar19.2.1) Ar19.2.2 hin19 hat19 (g := (mkF m 51 #[.val (.ref r0), .val (.ref ob17), .val (.ref r0), .val (.int (1 : Int32)), .val (.int (0 : Int32)), .val (.int (Int32.ofNat x)), .val (.int (Int32.ofNat (x / 64)))] [(.int (Int32.ofNat (x / 64))), (.ref ob17), (.int (Int32.ofNat (x / 64))), (.ref ob17)])) rfl rfl (hb hby d1_51) _ ?_
    show Steps p.tables e below (T17.setTop (mkF m 52 #[.val (.ref r0), .val (.ref ob17), .val (.ref r0), .val (.int (1 : Int32)), .val (.int (0 : Int32)), .val (.int (Int32.ofNat x)), .val (.int (Int32.ofNat (x / 64)))] [(.long (own_f0 (x / 64))), (.int (Int32.ofNat (x / 64))), (.ref ob17)])) _
    refine XS.lconst X17.here hx rfl (hb hby d1_52) ?_
    show Steps p.tables e below (T17.setTop (mkF m 53 #[.val (.ref r0), .val (.ref ob17), .val (.ref r0), .val (.int (1 : Int32)), .val (.int (0 : Int32)), .val (.int (Int32.ofNat x)), .val (.int (Int32.ofNat (x / 64)))] [(.long (1 : Int64)), (.long (own_f0 (x / 64))), (.int (Int32.ofNat (x / 64))), (.ref ob17)])) _
    refine XS.iload X17.here hx rfl (hb hby d1_53) rfl ?_
    show Steps p.tables e below (T17.setTop (mkF m 55 #[.val (.ref r0), .val (.ref ob17), .val (.ref r0), .val (.int (1 : Int32)), .val (.int (0 : Int32)), .val (.int (Int32.ofNat x)), .val (.int (Int32.ofNat (x / 64)))] [(.int (Int32.ofNat x)), (.long (1 : Int64)), (.long (own_f0 (x / 64))), (.int (Int32.ofNat (x / 64))), (.ref ob17)])) _
    refine XS.lshl X17.here hx rfl (hb hby d1_55) rfl ?_
    show Steps p.tables e below (T17.setTop (mkF m 56 #[.val (.ref r0), .val (.ref ob17), .val (.ref r0), .val (.int (1 : Int32)), .val (.int (0 : Int32)), .val (.int (Int32.ofNat x)), .val (.int (Int32.ofNat (x / 64)))] [(.long ((1 : Int64) <<< ((Int32.ofNat x) &&& 0x3f).toInt64)), (.long (own_f0 (x / 64))), (.int (Int32.ofNat (x / 64))), (.ref ob17)])) _
    refine XS.lor X17.here hx rfl (hb hby d1_56) rfl ?_
    exact kt
  have Vc21 := Vq17
  obtain ⟨cl21, Ar21, qk21, S21, M21, H21, G21⟩ := Vc21
  have hin21 : ¬ ((Int32.ofNat (x / 64)) < 0 ∨ cl21.slots.size ≤ ((Int32.ofNat (x / 64))).toNatClampNeg) := inb_of S21 (own_in (x / 64) (x / 64 + 1) (by omega) hl815)
  obtain ⟨T22, h22, X22, e22, W22, st22⟩ := stJ X17 hx hZ rfl Ar21 (j := (Int32.ofNat (x / 64))) hin21 (g := (mkF m 57 #[.val (.ref r0), .val (.ref ob17), .val (.ref r0), .val (.int (1 : Int32)), .val (.int (0 : Int32)), .val (.int (Int32.ofNat x)), .val (.int (Int32.ofNat (x / 64)))] [(.long ((own_f0 (x / 64)) ||| ((1 : Int64) <<< ((Int32.ofNat x) &&& 0x3f).toInt64))), (.int (Int32.ofNat (x / 64))), (.ref ob17)])) rfl rfl (hb hby d1_57)
  have V22 : Arv Z h22 ob17 kk17 .long (Int32.ofNat (x / 64 + 1)) (own_l8 (own_or own_f0 x)) (.long (0 : Int64)) := by have q := Arv.set Ar21 qk21 S21 M21 H21 G21 rfl W22 (x / 64) (own_clamp _ (by omega)) (by rw [own_len8]; omega); rw [show (own_l8 own_f0).set (x / 64) (.long ((own_f0 (x / 64)) ||| ((1 : Int64) <<< ((Int32.ofNat x) &&& 0x3f).toInt64))) = own_l8 (own_or own_f0 x) from own_set8 own_f0 x (by omega)] at q; exact q
  have hz22 : ∀ i, (x / 64 + 1) ≤ i → (own_or own_f0 x) i = 0 := own_orz own_f0 x (x / 64 + 1) (by omega) hzg15
  have hla22 : (x / 64 + 1) = 0 ∨ (own_or own_f0 x) ((x / 64 + 1) - 1) ≠ 0 := Or.inr (own_ornew own_f0 x (by omega))
  have N22 := Fr.snoc X22 N17 g_ob17
  have c24 : ∀ t, Steps p.tables e below (T22.setTop (mkF m 64 #[.val (.ref r0), .val (.ref ob17), .val (.ref r0), .val (.int (1 : Int32)), .val (.int ((0 : Int32) + (1 : Int32))), .val (.int (Int32.ofNat x)), .val (.int (Int32.ofNat (x / 64)))] [])) t → Steps p.tables e below (T22.setTop (mkF m 58 #[.val (.ref r0), .val (.ref ob17), .val (.ref r0), .val (.int (1 : Int32)), .val (.int (0 : Int32)), .val (.int (Int32.ofNat x)), .val (.int (Int32.ofNat (x / 64)))] [])) t := by
    intro t kt
    show Steps p.tables e below (T22.setTop (mkF m 58 #[.val (.ref r0), .val (.ref ob17), .val (.ref r0), .val (.int (1 : Int32)), .val (.int (0 : Int32)), .val (.int (Int32.ofNat x)), .val (.int (Int32.ofNat (x / 64)))] [])) _
    refine XS.iinc X22.here hx rfl (hb hby d1_58) rfl (l' := #[.val (.ref r0), .val (.ref ob17), .val (.ref r0), .val (.int (1 : Int32)), .val (.int ((0 : Int32) + (1 : Int32))), .val (.int (Int32.ofNat x)), .val (.int (Int32.ofNat (x / 64)))]) rfl ?_
    show Steps p.tables e below (T22.setTop (mkF m 61 #[.val (.ref r0), .val (.ref ob17), .val (.ref r0), .val (.int (1 : Int32)), .val (.int ((0 : Int32) + (1 : Int32))), .val (.int (Int32.ofNat x)), .val (.int (Int32.ofNat (x / 64)))] [])) _
    refine XS.goto X22.here hx rfl (pc0 := 61) (pc' := 12) rfl (hb hby d1_61) (by decide) (by decide) ?_
    show Steps p.tables e below (T22.setTop (mkF m 12 #[.val (.ref r0), .val (.ref ob17), .val (.ref r0), .val (.int (1 : Int32)), .val (.int ((0 : Int32) + (1 : Int32))), .val (.int (Int32.ofNat x)), .val (.int (Int32.ofNat (x / 64)))] [])) _
    refine XS.iload X22.here hx rfl (hb hby d1_12) rfl ?_
    show Steps p.tables e below (T22.setTop (mkF m 14 #[.val (.ref r0), .val (.ref ob17), .val (.ref r0), .val (.int (1 : Int32)), .val (.int ((0 : Int32) + (1 : Int32))), .val (.int (Int32.ofNat x)), .val (.int (Int32.ofNat (x / 64)))] [(.int ((0 : Int32) + (1 : Int32)))])) _
    refine XS.iloadN X22.here hx rfl (hb hby d1_14) rfl ?_
    show Steps p.tables e below (T22.setTop (mkF m 15 #[.val (.ref r0), .val (.ref ob17), .val (.ref r0), .val (.int (1 : Int32)), .val (.int ((0 : Int32) + (1 : Int32))), .val (.int (Int32.ofNat x)), .val (.int (Int32.ofNat (x / 64)))] [(.int (1 : Int32)), (.int ((0 : Int32) + (1 : Int32)))])) _
    refine XS.icmpYes X22.here hx rfl (pc0 := 15) (pc' := 64) rfl (hb hby d1_15) rfl (flt (by decide : ¬ (((0 : Int32) + (1 : Int32)) < (1 : Int32)))).2.1 (by decide) (by decide) ?_
    exact kt
  obtain ⟨T23, h23, X23, e23, E23, A23, D23, U23, st23⟩ := newO X22 hx hZ hown (hw _ (List.mem_of_getElem? (i := 18) rfl)) (hw _ (List.mem_of_getElem? (i := 19) rfl)) (hw _ (List.mem_of_getElem? (i := 3) rfl)) e22 (g := (mkF m 64 #[.val (.ref r0), .val (.ref ob17), .val (.ref r0), .val (.int (1 : Int32)), .val (.int ((0 : Int32) + (1 : Int32))), .val (.int (Int32.ofNat x)), .val (.int (Int32.ofNat (x / 64)))] [])) rfl (hb hby d1_64) (by decide) (by decide)
  obtain ⟨b23, g23⟩ : ∃ z, z = h22.size := ⟨_, rfl⟩
  rw [← g23] at A23 D23 U23 st23
  have f25 := (Nat.le_trans (Nat.le_trans f16 Kq17.1) (Keep.of_wr W22).1)
  have f26 := ((f18.trans Kq17 all0).wr W22 (Or.inr sz_ob17))
  have g_b23 : n0 ≤ b23 := Nat.le_trans f25 (Nat.le_of_eq g23.symm)
  have sz_b23 : h0.size ≤ b23 := Nat.le_trans f26.1 (Nat.le_of_eq g23.symm)
  have f27 := ((f5.keep Kq17 nin0).other W22 (Nat.ne_of_lt (Nat.lt_of_lt_of_le lt_r0_17 szq17)))
  have lt_r0_23 := f27.lt
  have f28 := ((VP4.keep Kq17 nin0).other W22 (Nat.ne_of_lt (Nat.lt_of_lt_of_le lt_b1_17 szq17)))
  have lt_b1_23 := f28.lt
  have lt_ob17_23 := V22.lt
  have F23_words : Fld Z h23 b23 "com/example/emex/emex/explain/Positions" "words" "[J" .null := D23 (Or.inr (hw _ (List.mem_of_getElem? (i := 27) rfl))) (ty := (.array .long)) (by decide)
  have F23_size : Fld Z h23 b23 "com/example/emex/emex/explain/Positions" "size" "I" (.int (0 : Int32)) := D23 (Or.inr (hw _ (List.mem_of_getElem? (i := 36) rfl))) (ty := .int) (by decide)
  have c29 : ∀ t, Steps p.tables e below (T23.setTop (mkF m 69 #[.val (.ref r0), .val (.ref ob17), .val (.ref r0), .val (.int (1 : Int32)), .val (.int ((0 : Int32) + (1 : Int32))), .val (.int (Int32.ofNat x)), .val (.int (Int32.ofNat (x / 64)))] [(.ref ob17), (.ref b23), (.ref b23)])) t → Steps p.tables e below (T23.setTop (mkF m 67 #[.val (.ref r0), .val (.ref ob17), .val (.ref r0), .val (.int (1 : Int32)), .val (.int ((0 : Int32) + (1 : Int32))), .val (.int (Int32.ofNat x)), .val (.int (Int32.ofNat (x / 64)))] [(.ref b23)])) t := by
    intro t kt
    show Steps p.tables e below (T23.setTop (mkF m 67 #[.val (.ref r0), .val (.ref ob17), .val (.ref r0), .val (.int (1 : Int32)), .val (.int ((0 : Int32) + (1 : Int32))), .val (.int (Int32.ofNat x)), .val (.int (Int32.ofNat (x / 64)))] [(.ref b23)])) _
    refine XS.dup X23.here hx rfl (hb hby d1_67) rfl rfl ?_
    show Steps p.tables e below (T23.setTop (mkF m 68 #[.val (.ref r0), .val (.ref ob17), .val (.ref r0), .val (.int (1 : Int32)), .val (.int ((0 : Int32) + (1 : Int32))), .val (.int (Int32.ofNat x)), .val (.int (Int32.ofNat (x / 64)))] [(.ref b23), (.ref b23)])) _
    refine XS.aloadN X23.here hx rfl (hb hby d1_68) rfl rfl ?_
    exact kt
  have f30 := (Nat.le_trans f25 E23.1)
  have f31 := (V22.ext E23)
  obtain ⟨_, _, ⟨T32, L32, k32, n32⟩, -, X32, ⟨Lc32, hQ32, l32, y32, z32⟩, st32⟩ := X23.specialBack hx (y := (⟨"com/example/emex/emex/explain/Positions", "<init>", "([J)V"⟩ : MethodName)) rfl hown (mvT hZ (hw _ (List.mem_of_getElem? (i := 20) rfl))) (mvT hZ (hw _ (List.mem_of_getElem? (i := 21) rfl))) (mvT hZ (hw _ (List.mem_of_getElem? (i := 22) rfl))) (by decide) (backOf (W := 1) (rm4 l Z a0 hw [] b23 ob17 kk17 (x / 64 + 1) (own_or own_f0 x) h23 n0 f30 f31 hl815 hla22 F23_words F23_size A23 g_b23 (Nat.ne_of_lt (Nat.lt_of_lt_of_le lt_ob17_23 (Nat.le_of_eq g23.symm)))) hZ (hw _ (List.mem_of_getElem? (i := 22) rfl)) (hw _ (List.mem_of_getElem? (i := 3) rfl)) (by decide) (by decide)) (g := (mkF m 69 #[.val (.ref r0), .val (.ref ob17), .val (.ref r0), .val (.int (1 : Int32)), .val (.int ((0 : Int32) + (1 : Int32))), .val (.int (Int32.ofNat x)), .val (.int (Int32.ofNat (x / 64)))] [(.ref ob17), (.ref b23), (.ref b23)])) rfl (by rw [hml]; rfl) (Steps.refl _) (a := b23) (argsL := [(.ref ob17)]) (rest := [(.ref b23)]) (lenOf pd_2 rfl) rfl (by show 2 * 0 + _ ≤ _; exact Nat.le_of_eq rfl) (hb hby d1_69) (fun _ _ => ⟨rfl, e23, (by decide : 3 + 0 ≤ _), (by decide : 10 + 0 ≤ _)⟩)
  dsimp only [Pt.U, Pt.locs, Pt.cells, Pt.slots] at X32 l32 y32 z32 st32 hQ32
  subst l32 y32 z32
  obtain ⟨rfl, N32q, Kq32, Eq32, Fq32_0, Fq32_1⟩ := hQ32
  have N32 := Fr.app N22 N32q
  obtain ⟨fs, hr, hrun, hended, hW, hsame⟩ := X32.leave (v := some (.ref b23)) (fun h => by rw [Bd.returns] at h; cases h)
  have f34 := ((f26.ext E23).trans Kq32 (allS (Or.inr sz_b23) all0))
  have f35 := (f31.keep Kq32 (ninS (Nat.ne_of_lt (Nat.lt_of_lt_of_le lt_ob17_23 (Nat.le_of_eq g23.symm))) nin0))
  refine ⟨_, _, pre0 _ (c2 _ (st1 _ (c3 _ (c8 _ (c9 _ (c12 _ (c13 _ (c14 _ (st17 _ (c20 _ (st22 _ (c24 _ (st23 _ (c29 _ (st32.trans (?_)))))))))))))))), hrun, hended, _, _, rfl, ?_, ⟨_, rfl⟩, hW, hsame.mono (by decide) (by decide)⟩
  · show Steps p.tables e below (T32.setTop (mkF m 72 #[.val (.ref r0), .val (.ref ob17), .val (.ref r0), .val (.int (1 : Int32)), .val (.int ((0 : Int32) + (1 : Int32))), .val (.int (Int32.ofNat x)), .val (.int (Int32.ofNat (x / 64)))] [(.ref b23)])) _
    jvm_step X32.here [X32.here.top, hx, (hb hby d1_72), X32.method', Bd.returns, Value.isRef, FieldType.isReference]
    first | (intro acts; rw [hr _ acts rfl rfl rfl]) | rw [hr _ _ rfl rfl rfl]
    exact Steps.refl _
  · show Q1_1 Z r0 kk dv x h0 n0 _ T32.heap _
    exact ⟨b23, ob17, kk17, (x / 64 + 1), hl815, hz22, by omega, rfl, N32, f34, g_b23, Eq32, Fq32_0, Fq32_1, f35⟩
def Q1_2 (Z : State) (r0 : Addr) (kk : ClassId) (dv : Value) (x y : Nat) (h0 : Heap) (n0 : Nat) (v : Option Value) (h : Heap) (L : List Loc) : Prop := ∃ (b t : Addr) (k : ClassId) (ln : Nat), ln ≤ 8 ∧ (∀ i, ln ≤ i → (own_or (own_or own_f0 x) y) i = 0) ∧ x / 64 < ln ∧ y / 64 < ln ∧ v = some (.ref b) ∧ Fr n0 L ∧ Keep h0 h [] ∧ n0 ≤ b ∧ Exa Z h b "com/example/emex/emex/explain/Positions" ∧ Fld Z h b "com/example/emex/emex/explain/Positions" "words" "[J" (.ref t) ∧ Fld Z h b "com/example/emex/emex/explain/Positions" "size" "I" (.int (own_cnt (own_or (own_or own_f0 x) y) ln)) ∧ Arv Z h t k .long (Int32.ofNat ln) (own_l8 (own_or (own_or own_f0 x) y)) (.long (0 : Int64))
set_option maxRecDepth 65536 in
set_option maxHeartbeats 40000000 in
theorem rm1_2 (l : Launch) (Z : State) (a0 : Array Value) (hw : ∀ d ∈ tables_1, d.before a0 Z = true) (ws : List Jvm.Cond) (r0 : Addr) (kk : ClassId) (dv : Value) (x y : Nat) (h0 : Heap) (n0 : Nat) (Z0 : n0 ≤ h0.size) (V : Arv Z h0 r0 kk .int (2 : Int32) [(.int (Int32.ofNat x)), (.int (Int32.ofNat y))] dv) (hx : x < 512) (hy : y < 512) :
    MetFree l (⟨"com/example/emex/emex/explain/Positions", "of", "([I)Lcom/example/emex/emex/explain/Positions;"⟩ : MethodName) (head1 (Jvm.Cond.code (⟨"com/example/emex/emex/explain/Positions", "of", "([I)Lcom/example/emex/emex/explain/Positions;"⟩ : MethodName) prog_13_method_3_code 7 (some (.object "com/example/emex/emex/explain/Positions")) :: ws) ({ frames := 2, cells := 4, slots := 18, locals := 78 } : Room)) (fun a U => a = #[(.ref r0)] ∧ Z.Warmed39 U.vm ∧ U.heap = h0) (fun _ _ _ _ _ => True) (fun _ U o U' => ∃ v L, o = .returned v ∧ Q1_2 Z r0 kk dv x y h0 n0 v U'.heap L ∧ FrameEnd U o U' L ({ frames := 2, cells := 4, slots := 18, locals := 78 } : Room).cells ({ frames := 2, cells := 4, slots := 18, locals := 78 } : Room).slots) := by
  refine MetFree.of_bodySF (plainFor_of_name pn_1) hisR ?_
  intro p e s m args below meth c s₁ Bd hml0 hP hK
  obtain ⟨rfl, hZ, hh⟩ := hP
  have hx := Bd.exec
  have hby := Bd.bytes
  have hml : c.maxLocals = 7 := hml0
  have hown : s.vm.findClass "com/example/emex/emex/explain/Positions" = some m.cls := findClass_of_methodNamed Bd.named
  have hnm := (name_of_methodNamed Bd.named Bd.method).1
  have X0 : Stand p l e ({ frames := 2, cells := 4, slots := 18, locals := 78 } : Room) s m #[(.ref r0)] below meth c s₁ [] 0 0 := Stand.of_body Bd
  have e0 : s₁.heap = h0 := by rw [← hh, Bd.state]; rfl
  have N0 := Fr.nil n0
  have pre0 : ∀ t, Steps p.tables e below (s₁.setTop (mkF m 0 #[.val (.ref r0), .unset, .unset, .unset, .unset, .unset, .unset] [])) t → Steps p.tables e below (s₁.setTop (entryFrame m #[(.ref r0)] 7)) t := fun t k => castTop (ef_1 m r0) k
  have c2 : ∀ t, Steps p.tables e below (s₁.setTop (mkF m 1 #[.val (.ref r0), .unset, .unset, .unset, .unset, .unset, .unset] [(.int (0 : Int32))])) t → Steps p.tables e below (s₁.setTop (mkF m 0 #[.val (.ref r0), .unset, .unset, .unset, .unset, .unset, .unset] [])) t := by
    intro t kt
    show Steps p.tables e below (s₁.setTop (mkF m 0 #[.val (.ref r0), .unset, .unset, .unset, .unset, .unset, .unset] [])) _
    refine XS.iconst X0.here hx rfl (hb hby d1_0) ?_
    exact kt
  obtain ⟨T1, h1, k1, X1, e1, E1, A1, st1⟩ := newP X0 hx hZ (hw _ (List.mem_of_getElem? (i := 5) rfl)) e0 (g := (mkF m 1 #[.val (.ref r0), .unset, .unset, .unset, .unset, .unset, .unset] [(.int (0 : Int32))])) rfl (hb hby d1_1) rfl (by decide) (cap := 0) (by decide) (by decide) (by decide) (by decide)
  obtain ⟨b1, g1⟩ : ∃ z, z = h0.size := ⟨_, rfl⟩
  rw [← g1] at A1 st1
  have g_b1 : n0 ≤ b1 := Nat.le_trans Z0 (Nat.le_of_eq g1.symm)
  have sz_b1 : h0.size ≤ b1 := Nat.le_trans (Keep.refl h0 []).1 (Nat.le_of_eq g1.symm)
  have lt_r0_1 := V.lt
  have V1 : Arv Z h1 b1 k1 .long (0 : Int32) [] (.long (0 : Int64)) := (Arv.new A1 (by decide)).pad (pad_rep [] (.long (0 : Int64)) 0)
  have c3 : ∀ t, Steps p.tables e below (T1.setTop (mkF m 4 #[.val (.ref r0), .val (.ref b1), .unset, .unset, .unset, .unset, .unset] [])) t → Steps p.tables e below (T1.setTop (mkF m 3 #[.val (.ref r0), .unset, .unset, .unset, .unset, .unset, .unset] [(.ref b1)])) t := by
    intro t kt
    show Steps p.tables e below (T1.setTop (mkF m 3 #[.val (.ref r0), .unset, .unset, .unset, .unset, .unset, .unset] [(.ref b1)])) _
    refine XS.astoreN X1.here hx rfl (hb hby d1_3) rfl rfl (l' := #[.val (.ref r0), .val (.ref b1), .unset, .unset, .unset, .unset, .unset]) rfl ?_
    exact kt
  have VP4 : Arv Z h1 b1 k1 .long (Int32.ofNat 0) (own_l8 own_f0) (.long (0 : Int64)) := Arv.pad V1 (fun i => by by_cases h : i < 8; rw [own_at8 own_f0 i h]; rfl; rw [List.getD_eq_getElem?_getD, List.getElem?_eq_none (by simp [own_l8]; omega)]; rfl)
  have hz0 : ∀ i, 0 ≤ i → own_f0 i = 0 := fun _ _ => rfl
  have hl80 : 0 ≤ 8 := by decide
  have hla0 : (0 : Nat) = 0 ∨ own_f0 (0 - 1) ≠ 0 := Or.inl rfl
  have f5 := (V.ext E1)
  have Vc6 := f5
  obtain ⟨cl6, Ar6, qk6, S6, M6, H6, G6⟩ := Vc6
  have Vc7 := f5
  obtain ⟨cl7, Ar7, qk7, S7, M7, H7, G7⟩ := Vc7
  have hin7 : ¬ ((0 : Int32) < 0 ∨ cl7.slots.size ≤ ((0 : Int32)).toNatClampNeg) := inb_of S7 ⟨by decide, by decide⟩
  have hat7 : cl7.slots[((0 : Int32)).toNatClampNeg]? = some (.int (Int32.ofNat x)) := H7.at hin7 rfl
  have c8 : ∀ t, Steps p.tables e below (T1.setTop (mkF m 31 #[.val (.ref r0), .val (.ref b1), .val (.ref r0), .val (.int (2 : Int32)), .val (.int (0 : Int32)), .val (.int (Int32.ofNat x)), .val (.int (((Int32.ofNat x).toUInt32 >>> ((6 : Int32) &&& 31).toUInt32).toInt32))] [])) t → Steps p.tables e below (T1.setTop (mkF m 4 #[.val (.ref r0), .val (.ref b1), .unset, .unset, .unset, .unset, .unset] [])) t := by
    intro t kt
    show Steps p.tables e below (T1.setTop (mkF m 4 #[.val (.ref r0), .val (.ref b1), .unset, .unset, .unset, .unset, .unset] [])) _
    refine XS.aloadN X1.here hx rfl (hb hby d1_4) rfl rfl ?_
    show Steps p.tables e below (T1.setTop (mkF m 5 #[.val (.ref r0), .val (.ref b1), .unset, .unset, .unset, .unset, .unset] [(.ref r0)])) _
    refine XS.astoreN X1.here hx rfl (hb hby d1_5) rfl rfl (l' := #[.val (.ref r0), .val (.ref b1), .val (.ref r0), .unset, .unset, .unset, .unset]) rfl ?_
    show Steps p.tables e below (T1.setTop (mkF m 6 #[.val (.ref r0), .val (.ref b1), .val (.ref r0), .unset, .unset, .unset, .unset] [])) _
    refine XS.aloadN X1.here hx rfl (hb hby d1_6) rfl rfl ?_
    show Steps p.tables e below (T1.setTop (mkF m 7 #[.val (.ref r0), .val (.ref b1), .val (.ref r0), .unset, .unset, .unset, .unset] [(.ref r0)])) _
    refine X1.arraylength hx (by rw [e1]; exact Ar6.1) (State.isArrayOf_alike hZ.alike Ar6.2.1) (g := (mkF m 7 #[.val (.ref r0), .val (.ref b1), .val (.ref r0), .unset, .unset, .unset, .unset] [(.ref r0)])) rfl rfl (hb hby d1_7) _ ?_
    rw [len_of S6 M6]
    show Steps p.tables e below (T1.setTop (mkF m 8 #[.val (.ref r0), .val (.ref b1), .val (.ref r0), .unset, .unset, .unset, .unset] [(.int (2 : Int32))])) _
    refine XS.istoreN X1.here hx rfl (hb hby d1_8) rfl (l' := #[.val (.ref r0), .val (.ref b1), .val (.ref r0), .val (.int (2 : Int32)), .unset, .unset, .unset]) rfl ?_
    show Steps p.tables e below (T1.setTop (mkF m 9 #[.val (.ref r0), .val (.ref b1), .val (.ref r0), .val (.int (2 : Int32)), .unset, .unset, .unset] [])) _
    refine XS.iconst X1.here hx rfl (hb hby d1_9) ?_
    show Steps p.tables e below (T1.setTop (mkF m 10 #[.val (.ref r0), .val (.ref b1), .val (.ref r0), .val (.int (2 : Int32)), .unset, .unset, .unset] [(.int (0 : Int32))])) _
    refine XS.istore X1.here hx rfl (hb hby d1_10) rfl (l' := #[.val (.ref r0), .val (.ref b1), .val (.ref r0), .val (.int (2 : Int32)), .val (.int (0 : Int32)), .unset, .unset]) rfl ?_
    show Steps p.tables e below (T1.setTop (mkF m 12 #[.val (.ref r0), .val (.ref b1), .val (.ref r0), .val (.int (2 : Int32)), .val (.int (0 : Int32)), .unset, .unset] [])) _
    refine XS.iload X1.here hx rfl (hb hby d1_12) rfl ?_
    show Steps p.tables e below (T1.setTop (mkF m 14 #[.val (.ref r0), .val (.ref b1), .val (.ref r0), .val (.int (2 : Int32)), .val (.int (0 : Int32)), .unset, .unset] [(.int (0 : Int32))])) _
    refine XS.iloadN X1.here hx rfl (hb hby d1_14) rfl ?_
    show Steps p.tables e below (T1.setTop (mkF m 15 #[.val (.ref r0), .val (.ref b1), .val (.ref r0), .val (.int (2 : Int32)), .val (.int (0 : Int32)), .unset, .unset] [(.int (2 : Int32)), (.int (0 : Int32))])) _
    refine XS.icmpNo X1.here hx rfl (hb hby d1_15) rfl (tlt (by decide : (0 : Int32) < (2 : Int32))).2.1 ?_
    show Steps p.tables e below (T1.setTop (mkF m 18 #[.val (.ref r0), .val (.ref b1), .val (.ref r0), .val (.int (2 : Int32)), .val (.int (0 : Int32)), .unset, .unset] [])) _
    refine XS.aloadN X1.here hx rfl (hb hby d1_18) rfl rfl ?_
    show Steps p.tables e below (T1.setTop (mkF m 19 #[.val (.ref r0), .val (.ref b1), .val (.ref r0), .val (.int (2 : Int32)), .val (.int (0 : Int32)), .unset, .unset] [(.ref r0)])) _
    refine XS.iload X1.here hx rfl (hb hby d1_19) rfl ?_
    show Steps p.tables e below (T1.setTop (mkF m 21 #[.val (.ref r0), .val (.ref b1), .val (.ref r0), .val (.int (2 : Int32)), .val (.int (0 : Int32)), .unset, .unset] [(.int (0 : Int32)), (.ref r0)])) _
    refine X1.iaload hx (j := (0 : Int32)) (v := (.int (Int32.ofNat x))) (by rw [e1]; exact Ar7.1) (State.isArrayOf_alike hZ.alike Ar7.2.1) Ar7.2.2 hin7 hat7 (g := (mkF m 21 #[.val (.ref r0), .val (.ref b1), .val (.ref r0), .val (.int (2 : Int32)), .val (.int (0 : Int32)), .unset, .unset] [(.int (0 : Int32)), (.ref r0)])) rfl rfl (hb hby d1_21) _ ?_
    show Steps p.tables e below (T1.setTop (mkF m 22 #[.val (.ref r0), .val (.ref b1), .val (.ref r0), .val (.int (2 : Int32)), .val (.int (0 : Int32)), .unset, .unset] [(.int (Int32.ofNat x))])) _
    refine XS.istore X1.here hx rfl (hb hby d1_22) rfl (l' := #[.val (.ref r0), .val (.ref b1), .val (.ref r0), .val (.int (2 : Int32)), .val (.int (0 : Int32)), .val (.int (Int32.ofNat x)), .unset]) rfl ?_
    show Steps p.tables e below (T1.setTop (mkF m 24 #[.val (.ref r0), .val (.ref b1), .val (.ref r0), .val (.int (2 : Int32)), .val (.int (0 : Int32)), .val (.int (Int32.ofNat x)), .unset] [])) _
    refine XS.iload X1.here hx rfl (hb hby d1_24) rfl ?_
    show Steps p.tables e below (T1.setTop (mkF m 26 #[.val (.ref r0), .val (.ref b1), .val (.ref r0), .val (.int (2 : Int32)), .val (.int (0 : Int32)), .val (.int (Int32.ofNat x)), .unset] [(.int (Int32.ofNat x))])) _
    refine XS.bipush X1.here hx rfl (hb hby d1_26) ?_
    show Steps p.tables e below (T1.setTop (mkF m 28 #[.val (.ref r0), .val (.ref b1), .val (.ref r0), .val (.int (2 : Int32)), .val (.int (0 : Int32)), .val (.int (Int32.ofNat x)), .unset] [(.int (6 : Int32)), (.int (Int32.ofNat x))])) _
    refine XS.iushr X1.here hx rfl (hb hby d1_28) rfl ?_
    show Steps p.tables e below (T1.setTop (mkF m 29 #[.val (.ref r0), .val (.ref b1), .val (.ref r0), .val (.int (2 : Int32)), .val (.int (0 : Int32)), .val (.int (Int32.ofNat x)), .unset] [(.int (((Int32.ofNat x).toUInt32 >>> ((6 : Int32) &&& 31).toUInt32).toInt32))])) _
    refine XS.istore X1.here hx rfl (hb hby d1_29) rfl (l' := #[.val (.ref r0), .val (.ref b1), .val (.ref r0), .val (.int (2 : Int32)), .val (.int (0 : Int32)), .val (.int (Int32.ofNat x)), .val (.int (((Int32.ofNat x).toUInt32 >>> ((6 : Int32) &&& 31).toUInt32).toInt32))]) rfl ?_
    exact kt
  have c9 : ∀ t, Steps p.tables e below (T1.setTop (mkF m 31 #[.val (.ref r0), .val (.ref b1), .val (.ref r0), .val (.int (2 : Int32)), .val (.int (0 : Int32)), .val (.int (Int32.ofNat x)), .val (.int (Int32.ofNat (x / 64)))] [])) t → Steps p.tables e below (T1.setTop (mkF m 31 #[.val (.ref r0), .val (.ref b1), .val (.ref r0), .val (.int (2 : Int32)), .val (.int (0 : Int32)), .val (.int (Int32.ofNat x)), .val (.int (((Int32.ofNat x).toUInt32 >>> ((6 : Int32) &&& 31).toUInt32).toInt32))] [])) t := fun t kt => castTop (congrArg (fun zv => (mkF m 31 #[.val (.ref r0), .val (.ref b1), .val (.ref r0), .val (.int (2 : Int32)), .val (.int (0 : Int32)), .val (.int (Int32.ofNat x)), .val (.int zv)] [])) (show (((Int32.ofNat x).toUInt32 >>> ((6 : Int32) &&& 31).toUInt32).toInt32) = (Int32.ofNat (x / 64)) from own_w6 x (by omega))) kt
  have Vc10 := VP4
  obtain ⟨cl10, Ar10, qk10, S10, M10, H10, G10⟩ := Vc10
  have c12 : ∀ t, Steps p.tables e below (T1.setTop (mkF m 35 #[.val (.ref r0), .val (.ref b1), .val (.ref r0), .val (.int (2 : Int32)), .val (.int (0 : Int32)), .val (.int (Int32.ofNat x)), .val (.int (Int32.ofNat (x / 64)))] [(.int (Int32.ofNat 0)), (.int (Int32.ofNat (x / 64)))])) t → Steps p.tables e below (T1.setTop (mkF m 31 #[.val (.ref r0), .val (.ref b1), .val (.ref r0), .val (.int (2 : Int32)), .val (.int (0 : Int32)), .val (.int (Int32.ofNat x)), .val (.int (Int32.ofNat (x / 64)))] [])) t := by
    intro t kt
    show Steps p.tables e below (T1.setTop (mkF m 31 #[.val (.ref r0), .val (.ref b1), .val (.ref r0), .val (.int (2 : Int32)), .val (.int (0 : Int32)), .val (.int (Int32.ofNat x)), .val (.int (Int32.ofNat (x / 64)))] [])) _
    refine XS.iload X1.here hx rfl (hb hby d1_31) rfl ?_
    show Steps p.tables e below (T1.setTop (mkF m 33 #[.val (.ref r0), .val (.ref b1), .val (.ref r0), .val (.int (2 : Int32)), .val (.int (0 : Int32)), .val (.int (Int32.ofNat x)), .val (.int (Int32.ofNat (x / 64)))] [(.int (Int32.ofNat (x / 64)))])) _
    refine XS.aloadN X1.here hx rfl (hb hby d1_33) rfl rfl ?_
    show Steps p.tables e below (T1.setTop (mkF m 34 #[.val (.ref r0), .val (.ref b1), .val (.ref r0), .val (.int (2 : Int32)), .val (.int (0 : Int32)), .val (.int (Int32.ofNat x)), .val (.int (Int32.ofNat (x / 64)))] [(.ref b1), (.int (Int32.ofNat (x / 64)))])) _
    refine X1.arraylength hx (by rw [e1]; exact Ar10.1) (State.isArrayOf_alike hZ.alike Ar10.2.1) (g := (mkF m 34 #[.val (.ref r0), .val (.ref b1), .val (.ref r0), .val (.int (2 : Int32)), .val (.int (0 : Int32)), .val (.int (Int32.ofNat x)), .val (.int (Int32.ofNat (x / 64)))] [(.ref b1), (.int (Int32.ofNat (x / 64)))])) rfl rfl (hb hby d1_34) _ ?_
    rw [len_of S10 M10]
    exact kt
  have hd11 : ¬ ((Int32.ofNat (x / 64)) < (Int32.ofNat 0)) := by rw [own_lt _ _ (by omega) (by omega)]; omega
  have c13 : ∀ t, Steps p.tables e below (T1.setTop (mkF m 43 #[.val (.ref r0), .val (.ref b1), .val (.ref r0), .val (.int (2 : Int32)), .val (.int (0 : Int32)), .val (.int (Int32.ofNat x)), .val (.int (Int32.ofNat (x / 64)))] [(.int ((Int32.ofNat (x / 64)) + (1 : Int32))), (.ref b1)])) t → Steps p.tables e below (T1.setTop (mkF m 35 #[.val (.ref r0), .val (.ref b1), .val (.ref r0), .val (.int (2 : Int32)), .val (.int (0 : Int32)), .val (.int (Int32.ofNat x)), .val (.int (Int32.ofNat (x / 64)))] [(.int (Int32.ofNat 0)), (.int (Int32.ofNat (x / 64)))])) t := by
    intro t kt
    show Steps p.tables e below (T1.setTop (mkF m 35 #[.val (.ref r0), .val (.ref b1), .val (.ref r0), .val (.int (2 : Int32)), .val (.int (0 : Int32)), .val (.int (Int32.ofNat x)), .val (.int (Int32.ofNat (x / 64)))] [(.int (Int32.ofNat 0)), (.int (Int32.ofNat (x / 64)))])) _
    refine XS.icmpNo X1.here hx rfl (hb hby d1_35) rfl (flt (hd11)).1 ?_
    show Steps p.tables e below (T1.setTop (mkF m 38 #[.val (.ref r0), .val (.ref b1), .val (.ref r0), .val (.int (2 : Int32)), .val (.int (0 : Int32)), .val (.int (Int32.ofNat x)), .val (.int (Int32.ofNat (x / 64)))] [])) _
    refine XS.aloadN X1.here hx rfl (hb hby d1_38) rfl rfl ?_
    show Steps p.tables e below (T1.setTop (mkF m 39 #[.val (.ref r0), .val (.ref b1), .val (.ref r0), .val (.int (2 : Int32)), .val (.int (0 : Int32)), .val (.int (Int32.ofNat x)), .val (.int (Int32.ofNat (x / 64)))] [(.ref b1)])) _
    refine XS.iload X1.here hx rfl (hb hby d1_39) rfl ?_
    show Steps p.tables e below (T1.setTop (mkF m 41 #[.val (.ref r0), .val (.ref b1), .val (.ref r0), .val (.int (2 : Int32)), .val (.int (0 : Int32)), .val (.int (Int32.ofNat x)), .val (.int (Int32.ofNat (x / 64)))] [(.int (Int32.ofNat (x / 64))), (.ref b1)])) _
    refine XS.iconst X1.here hx rfl (hb hby d1_41) ?_
    show Steps p.tables e below (T1.setTop (mkF m 42 #[.val (.ref r0), .val (.ref b1), .val (.ref r0), .val (.int (2 : Int32)), .val (.int (0 : Int32)), .val (.int (Int32.ofNat x)), .val (.int (Int32.ofNat (x / 64)))] [(.int (1 : Int32)), (.int (Int32.ofNat (x / 64))), (.ref b1)])) _
    refine XS.iadd X1.here hx rfl (hb hby d1_42) rfl ?_
    exact kt
  have c14 : ∀ t, Steps p.tables e below (T1.setTop (mkF m 43 #[.val (.ref r0), .val (.ref b1), .val (.ref r0), .val (.int (2 : Int32)), .val (.int (0 : Int32)), .val (.int (Int32.ofNat x)), .val (.int (Int32.ofNat (x / 64)))] [(.int (Int32.ofNat (x / 64 + 1))), (.ref b1)])) t → Steps p.tables e below (T1.setTop (mkF m 43 #[.val (.ref r0), .val (.ref b1), .val (.ref r0), .val (.int (2 : Int32)), .val (.int (0 : Int32)), .val (.int (Int32.ofNat x)), .val (.int (Int32.ofNat (x / 64)))] [(.int ((Int32.ofNat (x / 64)) + (1 : Int32))), (.ref b1)])) t := fun t kt => castTop (congrArg (fun zv => (mkF m 43 #[.val (.ref r0), .val (.ref b1), .val (.ref r0), .val (.int (2 : Int32)), .val (.int (0 : Int32)), .val (.int (Int32.ofNat x)), .val (.int (Int32.ofNat (x / 64)))] [(.int zv), (.ref b1)])) (show ((Int32.ofNat (x / 64)) + (1 : Int32)) = (Int32.ofNat (x / 64 + 1)) from own_up _ (by omega))) kt
  have hl815 : x / 64 + 1 ≤ 8 := by omega
  have hzg15 : ∀ i, x / 64 + 1 ≤ i → own_f0 i = 0 := fun i hi => hz0 i (by omega)
  have f16 := (Nat.le_trans Z0 E1.1)
  obtain ⟨_, _, ⟨T17, L17, k17, n17⟩, -, X17, ⟨Lc17, hQ17, l17, y17, z17⟩, st17⟩ := Jvm.LawKit.callS X1 hx (y := (⟨"java/util/Arrays", "copyOf", "([JI)[J"⟩ : MethodName)) hown (mvT hZ (hw _ (List.mem_of_getElem? (i := 6) rfl))) (mvT hZ (hw _ (List.mem_of_getElem? (i := 7) rfl))) (mvT hZ (hw _ (List.mem_of_getElem? (i := 8) rfl))) (mvT hZ (hw _ (List.mem_of_getElem? (i := 9) rfl))) (by decide) (backOf (W := 0) (rm2 l Z a0 hw []  b1 (x / 64 + 1) k1 0 own_f0 h1 n0 f16 VP4 (by omega) (by omega) hl80 hz0) hZ (hw _ (List.mem_of_getElem? (i := 9) rfl)) (hw _ (List.mem_of_getElem? (i := 8) rfl)) (by decide) (by decide)) (g := (mkF m 43 #[.val (.ref r0), .val (.ref b1), .val (.ref r0), .val (.int (2 : Int32)), .val (.int (0 : Int32)), .val (.int (Int32.ofNat x)), .val (.int (Int32.ofNat (x / 64)))] [(.int (Int32.ofNat (x / 64 + 1))), (.ref b1)])) rfl (by rw [hml]; rfl) (argsL := [(.ref b1), (.int (Int32.ofNat (x / 64 + 1)))]) (rest := []) (lenOf pd_3 rfl) rfl (by show 2 * 0 + _ ≤ _; exact Nat.le_of_eq rfl) (hb hby d1_43) (fun _ _ => ⟨rfl, e1, (by decide : 1 + 1 ≤ _), (by decide : 0 + 8 ≤ _)⟩)
  dsimp only [Pt.U, Pt.locs, Pt.cells, Pt.slots] at X17 l17 y17 z17 st17 hQ17
  subst l17 y17 z17
  obtain ⟨ob17, kk17, rfl, N17q, Kq17, g_ob17, szq17, Vq17⟩ := hQ17
  have N17 := Fr.app N0 N17q
  have lt_r0_17 := f5.lt
  have lt_b1_17 := VP4.lt
  have f18 := ((Keep.refl h0 []).ext E1)
  have sz_ob17 : h0.size ≤ ob17 := Nat.le_trans f18.1 szq17
  have Vc19 := Vq17
  obtain ⟨cl19, Ar19, qk19, S19, M19, H19, G19⟩ := Vc19
  have hin19 : ¬ ((Int32.ofNat (x / 64)) < 0 ∨ cl19.slots.size ≤ ((Int32.ofNat (x / 64))).toNatClampNeg) := inb_of S19 (own_in (x / 64) (x / 64 + 1) (by omega) hl815)
  have hat19 : cl19.slots[((Int32.ofNat (x / 64))).toNatClampNeg]? = some (.long (own_f0 (x / 64))) := H19.at hin19 (own_at8' own_f0 (x / 64) (by omega) _)
  have c20 : ∀ t, Steps p.tables e below (T17.setTop (mkF m 57 #[.val (.ref r0), .val (.ref ob17), .val (.ref r0), .val (.int (2 : Int32)), .val (.int (0 : Int32)), .val (.int (Int32.ofNat x)), .val (.int (Int32.ofNat (x / 64)))] [(.long ((own_f0 (x / 64)) ||| ((1 : Int64) <<< ((Int32.ofNat x) &&& 0x3f).toInt64))), (.int (Int32.ofNat (x / 64))), (.ref ob17)])) t → Steps p.tables e below (T17.setTop (mkF m 46 #[.val (.ref r0), .val (.ref b1), .val (.ref r0), .val (.int (2 : Int32)), .val (.int (0 : Int32)), .val (.int (Int32.ofNat x)), .val (.int (Int32.ofNat (x / 64)))] [(.ref ob17)])) t := by
    intro t kt
    show Steps p.tables e below (T17.setTop (mkF m 46 #[.val (.ref r0), .val (.ref b1), .val (.ref r0), .val (.int (2 : Int32)), .val (.int (0 : Int32)), .val (.int (Int32.ofNat x)), .val (.int (Int32.ofNat (x / 64)))] [(.ref ob17)])) _
    refine XS.astoreN X17.here hx rfl (hb hby d1_46) rfl rfl (l' := #[.val (.ref r0), .val (.ref ob17), .val (.ref r0), .val (.int (2 : Int32)), .val (.int (0 : Int32)), .val (.int (Int32.ofNat x)), .val (.int (Int32.ofNat (x / 64)))]) rfl ?_
    show Steps p.tables e below (T17.setTop (mkF m 47 #[.val (.ref r0), .val (.ref ob17), .val (.ref r0), .val (.int (2 : Int32)), .val (.int (0 : Int32)), .val (.int (Int32.ofNat x)), .val (.int (Int32.ofNat (x / 64)))] [])) _
    refine XS.aloadN X17.here hx rfl (hb hby d1_47) rfl rfl ?_
    show Steps p.tables e below (T17.setTop (mkF m 48 #[.val (.ref r0), .val (.ref ob17), .val (.ref r0), .val (.int (2 : Int32)), .val (.int (0 : Int32)), .val (.int (Int32.ofNat x)), .val (.int (Int32.ofNat (x / 64)))] [(.ref ob17)])) _
    refine XS.iload X17.here hx rfl (hb hby d1_48) rfl ?_
    show Steps p.tables e below (T17.setTop (mkF m 50 #[.val (.ref r0), .val (.ref ob17), .val (.ref r0), .val (.int (2 : Int32)), .val (.int (0 : Int32)), .val (.int (Int32.ofNat x)), .val (.int (Int32.ofNat (x / 64)))] [(.int (Int32.ofNat (x / 64))), (.ref ob17)])) _
    refine Jvm.Free.XT.dup2 X17.here hx rfl (hb hby d1_50) rfl rfl rfl ?_
    show Steps p.tables e below (T17.setTop (mkF m 51 #[.val (.ref r0), .val (.ref ob17), .val (.ref r0), .val (.int (2 : Int32)), .val (.int (0 : Int32)), .val (.int (Int32.ofNat x)), .val (.int (Int32.ofNat (x / 64)))] [(.int (Int32.ofNat (x / 64))), (.ref ob17), (.int (Int32.ofNat (x / 64))), (.ref ob17)])) _
    refine X17.laload hx (j := (Int32.ofNat (x / 64))) (v := (.long (own_f0 (x / 64)))) Ar19.1 (State.isArrayOf_alike hZ.alike Ar19.2.1) Ar19.2.2 hin19 hat19 (g := (mkF m 51 #[.val (.ref r0), .val (.ref ob17), .val (.ref r0), .val (.int (2 : Int32)), .val (.int (0 : Int32)), .val (.int (Int32.ofNat x)), .val (.int (Int32.ofNat (x / 64)))] [(.int (Int32.ofNat (x / 64))), (.ref ob17), (.int (Int32.ofNat (x / 64))), (.ref ob17)])) rfl rfl (hb hby d1_51) _ ?_
    show Steps p.tables e below (T17.setTop (mkF m 52 #[.val (.ref r0), .val (.ref ob17), .val (.ref r0), .val (.int (2 : Int32)), .val (.int (0 : Int32)), .val (.int (Int32.ofNat x)), .val (.int (Int32.ofNat (x / 64)))] [(.long (own_f0 (x / 64))), (.int (Int32.ofNat (x / 64))), (.ref ob17)])) _
    refine XS.lconst X17.here hx rfl (hb hby d1_52) ?_
    show Steps p.tables e below (T17.setTop (mkF m 53 #[.val (.ref r0), .val (.ref ob17), .val (.ref r0), .val (.int (2 : Int32)), .val (.int (0 : Int32)), .val (.int (Int32.ofNat x)), .val (.int (Int32.ofNat (x / 64)))] [(.long (1 : Int64)), (.long (own_f0 (x / 64))), (.int (Int32.ofNat (x / 64))), (.ref ob17)])) _
    refine XS.iload X17.here hx rfl (hb hby d1_53) rfl ?_
    show Steps p.tables e below (T17.setTop (mkF m 55 #[.val (.ref r0), .val (.ref ob17), .val (.ref r0), .val (.int (2 : Int32)), .val (.int (0 : Int32)), .val (.int (Int32.ofNat x)), .val (.int (Int32.ofNat (x / 64)))] [(.int (Int32.ofNat x)), (.long (1 : Int64)), (.long (own_f0 (x / 64))), (.int (Int32.ofNat (x / 64))), (.ref ob17)])) _
    refine XS.lshl X17.here hx rfl (hb hby d1_55) rfl ?_
    show Steps p.tables e below (T17.setTop (mkF m 56 #[.val (.ref r0), .val (.ref ob17), .val (.ref r0), .val (.int (2 : Int32)), .val (.int (0 : Int32)), .val (.int (Int32.ofNat x)), .val (.int (Int32.ofNat (x / 64)))] [(.long ((1 : Int64) <<< ((Int32.ofNat x) &&& 0x3f).toInt64)), (.long (own_f0 (x / 64))), (.int (Int32.ofNat (x / 64))), (.ref ob17)])) _
    refine XS.lor X17.here hx rfl (hb hby d1_56) rfl ?_
    exact kt
  have Vc21 := Vq17
  obtain ⟨cl21, Ar21, qk21, S21, M21, H21, G21⟩ := Vc21
  have hin21 : ¬ ((Int32.ofNat (x / 64)) < 0 ∨ cl21.slots.size ≤ ((Int32.ofNat (x / 64))).toNatClampNeg) := inb_of S21 (own_in (x / 64) (x / 64 + 1) (by omega) hl815)
  obtain ⟨T22, h22, X22, e22, W22, st22⟩ := stJ X17 hx hZ rfl Ar21 (j := (Int32.ofNat (x / 64))) hin21 (g := (mkF m 57 #[.val (.ref r0), .val (.ref ob17), .val (.ref r0), .val (.int (2 : Int32)), .val (.int (0 : Int32)), .val (.int (Int32.ofNat x)), .val (.int (Int32.ofNat (x / 64)))] [(.long ((own_f0 (x / 64)) ||| ((1 : Int64) <<< ((Int32.ofNat x) &&& 0x3f).toInt64))), (.int (Int32.ofNat (x / 64))), (.ref ob17)])) rfl rfl (hb hby d1_57)
  have V22 : Arv Z h22 ob17 kk17 .long (Int32.ofNat (x / 64 + 1)) (own_l8 (own_or own_f0 x)) (.long (0 : Int64)) := by have q := Arv.set Ar21 qk21 S21 M21 H21 G21 rfl W22 (x / 64) (own_clamp _ (by omega)) (by rw [own_len8]; omega); rw [show (own_l8 own_f0).set (x / 64) (.long ((own_f0 (x / 64)) ||| ((1 : Int64) <<< ((Int32.ofNat x) &&& 0x3f).toInt64))) = own_l8 (own_or own_f0 x) from own_set8 own_f0 x (by omega)] at q; exact q
  have hz22 : ∀ i, (x / 64 + 1) ≤ i → (own_or own_f0 x) i = 0 := own_orz own_f0 x (x / 64 + 1) (by omega) hzg15
  have hla22 : (x / 64 + 1) = 0 ∨ (own_or own_f0 x) ((x / 64 + 1) - 1) ≠ 0 := Or.inr (own_ornew own_f0 x (by omega))
  have N22 := Fr.snoc X22 N17 g_ob17
  have f23 := ((f5.keep Kq17 nin0).other W22 (Nat.ne_of_lt (Nat.lt_of_lt_of_le lt_r0_17 szq17)))
  have Vc24 := f23
  obtain ⟨cl24, Ar24, qk24, S24, M24, H24, G24⟩ := Vc24
  have hin24 : ¬ (((0 : Int32) + (1 : Int32)) < 0 ∨ cl24.slots.size ≤ (((0 : Int32) + (1 : Int32))).toNatClampNeg) := inb_of S24 ⟨by decide, by decide⟩
  have hat24 : cl24.slots[(((0 : Int32) + (1 : Int32))).toNatClampNeg]? = some (.int (Int32.ofNat y)) := H24.at hin24 rfl
  have c25 : ∀ t, Steps p.tables e below (T22.setTop (mkF m 31 #[.val (.ref r0), .val (.ref ob17), .val (.ref r0), .val (.int (2 : Int32)), .val (.int ((0 : Int32) + (1 : Int32))), .val (.int (Int32.ofNat y)), .val (.int (((Int32.ofNat y).toUInt32 >>> ((6 : Int32) &&& 31).toUInt32).toInt32))] [])) t → Steps p.tables e below (T22.setTop (mkF m 58 #[.val (.ref r0), .val (.ref ob17), .val (.ref r0), .val (.int (2 : Int32)), .val (.int (0 : Int32)), .val (.int (Int32.ofNat x)), .val (.int (Int32.ofNat (x / 64)))] [])) t := by
    intro t kt
    show Steps p.tables e below (T22.setTop (mkF m 58 #[.val (.ref r0), .val (.ref ob17), .val (.ref r0), .val (.int (2 : Int32)), .val (.int (0 : Int32)), .val (.int (Int32.ofNat x)), .val (.int (Int32.ofNat (x / 64)))] [])) _
    refine XS.iinc X22.here hx rfl (hb hby d1_58) rfl (l' := #[.val (.ref r0), .val (.ref ob17), .val (.ref r0), .val (.int (2 : Int32)), .val (.int ((0 : Int32) + (1 : Int32))), .val (.int (Int32.ofNat x)), .val (.int (Int32.ofNat (x / 64)))]) rfl ?_
    show Steps p.tables e below (T22.setTop (mkF m 61 #[.val (.ref r0), .val (.ref ob17), .val (.ref r0), .val (.int (2 : Int32)), .val (.int ((0 : Int32) + (1 : Int32))), .val (.int (Int32.ofNat x)), .val (.int (Int32.ofNat (x / 64)))] [])) _
    refine XS.goto X22.here hx rfl (pc0 := 61) (pc' := 12) rfl (hb hby d1_61) (by decide) (by decide) ?_
    show Steps p.tables e below (T22.setTop (mkF m 12 #[.val (.ref r0), .val (.ref ob17), .val (.ref r0), .val (.int (2 : Int32)), .val (.int ((0 : Int32) + (1 : Int32))), .val (.int (Int32.ofNat x)), .val (.int (Int32.ofNat (x / 64)))] [])) _
    refine XS.iload X22.here hx rfl (hb hby d1_12) rfl ?_
    show Steps p.tables e below (T22.setTop (mkF m 14 #[.val (.ref r0), .val (.ref ob17), .val (.ref r0), .val (.int (2 : Int32)), .val (.int ((0 : Int32) + (1 : Int32))), .val (.int (Int32.ofNat x)), .val (.int (Int32.ofNat (x / 64)))] [(.int ((0 : Int32) + (1 : Int32)))])) _
    refine XS.iloadN X22.here hx rfl (hb hby d1_14) rfl ?_
    show Steps p.tables e below (T22.setTop (mkF m 15 #[.val (.ref r0), .val (.ref ob17), .val (.ref r0), .val (.int (2 : Int32)), .val (.int ((0 : Int32) + (1 : Int32))), .val (.int (Int32.ofNat x)), .val (.int (Int32.ofNat (x / 64)))] [(.int (2 : Int32)), (.int ((0 : Int32) + (1 : Int32)))])) _
    refine XS.icmpNo X22.here hx rfl (hb hby d1_15) rfl (tlt (by decide : ((0 : Int32) + (1 : Int32)) < (2 : Int32))).2.1 ?_
    show Steps p.tables e below (T22.setTop (mkF m 18 #[.val (.ref r0), .val (.ref ob17), .val (.ref r0), .val (.int (2 : Int32)), .val (.int ((0 : Int32) + (1 : Int32))), .val (.int (Int32.ofNat x)), .val (.int (Int32.ofNat (x / 64)))] [])) _
    refine XS.aloadN X22.here hx rfl (hb hby d1_18) rfl rfl ?_
    show Steps p.tables e below (T22.setTop (mkF m 19 #[.val (.ref r0), .val (.ref ob17), .val (.ref r0), .val (.int (2 : Int32)), .val (.int ((0 : Int32) + (1 : Int32))), .val (.int (Int32.ofNat x)), .val (.int (Int32.ofNat (x / 64)))] [(.ref r0)])) _
    refine XS.iload X22.here hx rfl (hb hby d1_19) rfl ?_
    show Steps p.tables e below (T22.setTop (mkF m 21 #[.val (.ref r0), .val (.ref ob17), .val (.ref r0), .val (.int (2 : Int32)), .val (.int ((0 : Int32) + (1 : Int32))), .val (.int (Int32.ofNat x)), .val (.int (Int32.ofNat (x / 64)))] [(.int ((0 : Int32) + (1 : Int32))), (.ref r0)])) _
    refine X22.iaload hx (j := ((0 : Int32) + (1 : Int32))) (v := (.int (Int32.ofNat y))) (by rw [e22]; exact Ar24.1) (State.isArrayOf_alike hZ.alike Ar24.2.1) Ar24.2.2 hin24 hat24 (g := (mkF m 21 #[.val (.ref r0), .val (.ref ob17), .val (.ref r0), .val (.int (2 : Int32)), .val (.int ((0 : Int32) + (1 : Int32))), .val (.int (Int32.ofNat x)), .val (.int (Int32.ofNat (x / 64)))] [(.int ((0 : Int32) + (1 : Int32))), (.ref r0)])) rfl rfl (hb hby d1_21) _ ?_
    show Steps p.tables e below (T22.setTop (mkF m 22 #[.val (.ref r0), .val (.ref ob17), .val (.ref r0), .val (.int (2 : Int32)), .val (.int ((0 : Int32) + (1 : Int32))), .val (.int (Int32.ofNat x)), .val (.int (Int32.ofNat (x / 64)))] [(.int (Int32.ofNat y))])) _
    refine XS.istore X22.here hx rfl (hb hby d1_22) rfl (l' := #[.val (.ref r0), .val (.ref ob17), .val (.ref r0), .val (.int (2 : Int32)), .val (.int ((0 : Int32) + (1 : Int32))), .val (.int (Int32.ofNat y)), .val (.int (Int32.ofNat (x / 64)))]) rfl ?_
    show Steps p.tables e below (T22.setTop (mkF m 24 #[.val (.ref r0), .val (.ref ob17), .val (.ref r0), .val (.int (2 : Int32)), .val (.int ((0 : Int32) + (1 : Int32))), .val (.int (Int32.ofNat y)), .val (.int (Int32.ofNat (x / 64)))] [])) _
    refine XS.iload X22.here hx rfl (hb hby d1_24) rfl ?_
    show Steps p.tables e below (T22.setTop (mkF m 26 #[.val (.ref r0), .val (.ref ob17), .val (.ref r0), .val (.int (2 : Int32)), .val (.int ((0 : Int32) + (1 : Int32))), .val (.int (Int32.ofNat y)), .val (.int (Int32.ofNat (x / 64)))] [(.int (Int32.ofNat y))])) _
    refine XS.bipush X22.here hx rfl (hb hby d1_26) ?_
    show Steps p.tables e below (T22.setTop (mkF m 28 #[.val (.ref r0), .val (.ref ob17), .val (.ref r0), .val (.int (2 : Int32)), .val (.int ((0 : Int32) + (1 : Int32))), .val (.int (Int32.ofNat y)), .val (.int (Int32.ofNat (x / 64)))] [(.int (6 : Int32)), (.int (Int32.ofNat y))])) _
    refine XS.iushr X22.here hx rfl (hb hby d1_28) rfl ?_
    show Steps p.tables e below (T22.setTop (mkF m 29 #[.val (.ref r0), .val (.ref ob17), .val (.ref r0), .val (.int (2 : Int32)), .val (.int ((0 : Int32) + (1 : Int32))), .val (.int (Int32.ofNat y)), .val (.int (Int32.ofNat (x / 64)))] [(.int (((Int32.ofNat y).toUInt32 >>> ((6 : Int32) &&& 31).toUInt32).toInt32))])) _
    refine XS.istore X22.here hx rfl (hb hby d1_29) rfl (l' := #[.val (.ref r0), .val (.ref ob17), .val (.ref r0), .val (.int (2 : Int32)), .val (.int ((0 : Int32) + (1 : Int32))), .val (.int (Int32.ofNat y)), .val (.int (((Int32.ofNat y).toUInt32 >>> ((6 : Int32) &&& 31).toUInt32).toInt32))]) rfl ?_
    exact kt
  have c26 : ∀ t, Steps p.tables e below (T22.setTop (mkF m 31 #[.val (.ref r0), .val (.ref ob17), .val (.ref r0), .val (.int (2 : Int32)), .val (.int ((0 : Int32) + (1 : Int32))), .val (.int (Int32.ofNat y)), .val (.int (Int32.ofNat (y / 64)))] [])) t → Steps p.tables e below (T22.setTop (mkF m 31 #[.val (.ref r0), .val (.ref ob17), .val (.ref r0), .val (.int (2 : Int32)), .val (.int ((0 : Int32) + (1 : Int32))), .val (.int (Int32.ofNat y)), .val (.int (((Int32.ofNat y).toUInt32 >>> ((6 : Int32) &&& 31).toUInt32).toInt32))] [])) t := fun t kt => castTop (congrArg (fun zv => (mkF m 31 #[.val (.ref r0), .val (.ref ob17), .val (.ref r0), .val (.int (2 : Int32)), .val (.int ((0 : Int32) + (1 : Int32))), .val (.int (Int32.ofNat y)), .val (.int zv)] [])) (show (((Int32.ofNat y).toUInt32 >>> ((6 : Int32) &&& 31).toUInt32).toInt32) = (Int32.ofNat (y / 64)) from own_w6 y (by omega))) kt
  by_cases hg27 : y / 64 < (x / 64 + 1)
  · skip
    have Vc28 := V22
    obtain ⟨cl28, Ar28, qk28, S28, M28, H28, G28⟩ := Vc28
    have c30 : ∀ t, Steps p.tables e below (T22.setTop (mkF m 35 #[.val (.ref r0), .val (.ref ob17), .val (.ref r0), .val (.int (2 : Int32)), .val (.int ((0 : Int32) + (1 : Int32))), .val (.int (Int32.ofNat y)), .val (.int (Int32.ofNat (y / 64)))] [(.int (Int32.ofNat (x / 64 + 1))), (.int (Int32.ofNat (y / 64)))])) t → Steps p.tables e below (T22.setTop (mkF m 31 #[.val (.ref r0), .val (.ref ob17), .val (.ref r0), .val (.int (2 : Int32)), .val (.int ((0 : Int32) + (1 : Int32))), .val (.int (Int32.ofNat y)), .val (.int (Int32.ofNat (y / 64)))] [])) t := by
      intro t kt
      show Steps p.tables e below (T22.setTop (mkF m 31 #[.val (.ref r0), .val (.ref ob17), .val (.ref r0), .val (.int (2 : Int32)), .val (.int ((0 : Int32) + (1 : Int32))), .val (.int (Int32.ofNat y)), .val (.int (Int32.ofNat (y / 64)))] [])) _
      refine XS.iload X22.here hx rfl (hb hby d1_31) rfl ?_
      show Steps p.tables e below (T22.setTop (mkF m 33 #[.val (.ref r0), .val (.ref ob17), .val (.ref r0), .val (.int (2 : Int32)), .val (.int ((0 : Int32) + (1 : Int32))), .val (.int (Int32.ofNat y)), .val (.int (Int32.ofNat (y / 64)))] [(.int (Int32.ofNat (y / 64)))])) _
      refine XS.aloadN X22.here hx rfl (hb hby d1_33) rfl rfl ?_
      show Steps p.tables e below (T22.setTop (mkF m 34 #[.val (.ref r0), .val (.ref ob17), .val (.ref r0), .val (.int (2 : Int32)), .val (.int ((0 : Int32) + (1 : Int32))), .val (.int (Int32.ofNat y)), .val (.int (Int32.ofNat (y / 64)))] [(.ref ob17), (.int (Int32.ofNat (y / 64)))])) _
      refine X22.arraylength hx (by rw [e22]; exact Ar28.1) (State.isArrayOf_alike hZ.alike Ar28.2.1) (g := (mkF m 34 #[.val (.ref r0), .val (.ref ob17), .val (.ref r0), .val (.int (2 : Int32)), .val (.int ((0 : Int32) + (1 : Int32))), .val (.int (Int32.ofNat y)), .val (.int (Int32.ofNat (y / 64)))] [(.ref ob17), (.int (Int32.ofNat (y / 64)))])) rfl rfl (hb hby d1_34) _ ?_
      rw [len_of S28 M28]
      exact kt
    have hd29 : (Int32.ofNat (y / 64)) < (Int32.ofNat (x / 64 + 1)) := by rw [own_lt _ _ (by omega) (by omega)]; omega
    have Vc31 := V22
    obtain ⟨cl31, Ar31, qk31, S31, M31, H31, G31⟩ := Vc31
    have hin31 : ¬ ((Int32.ofNat (y / 64)) < 0 ∨ cl31.slots.size ≤ ((Int32.ofNat (y / 64))).toNatClampNeg) := inb_of S31 (own_in (y / 64) (x / 64 + 1) (by omega) hl815)
    have hat31 : cl31.slots[((Int32.ofNat (y / 64))).toNatClampNeg]? = some (.long ((own_or own_f0 x) (y / 64))) := H31.at hin31 (own_at8' (own_or own_f0 x) (y / 64) (by omega) _)
    have c32 : ∀ t, Steps p.tables e below (T22.setTop (mkF m 57 #[.val (.ref r0), .val (.ref ob17), .val (.ref r0), .val (.int (2 : Int32)), .val (.int ((0 : Int32) + (1 : Int32))), .val (.int (Int32.ofNat y)), .val (.int (Int32.ofNat (y / 64)))] [(.long (((own_or own_f0 x) (y / 64)) ||| ((1 : Int64) <<< ((Int32.ofNat y) &&& 0x3f).toInt64))), (.int (Int32.ofNat (y / 64))), (.ref ob17)])) t → Steps p.tables e below (T22.setTop (mkF m 35 #[.val (.ref r0), .val (.ref ob17), .val (.ref r0), .val (.int (2 : Int32)), .val (.int ((0 : Int32) + (1 : Int32))), .val (.int (Int32.ofNat y)), .val (.int (Int32.ofNat (y / 64)))] [(.int (Int32.ofNat (x / 64 + 1))), (.int (Int32.ofNat (y / 64)))])) t := by
      intro t kt
      show Steps p.tables e below (T22.setTop (mkF m 35 #[.val (.ref r0), .val (.ref ob17), .val (.ref r0), .val (.int (2 : Int32)), .val (.int ((0 : Int32) + (1 : Int32))), .val (.int (Int32.ofNat y)), .val (.int (Int32.ofNat (y / 64)))] [(.int (Int32.ofNat (x / 64 + 1))), (.int (Int32.ofNat (y / 64)))])) _
      refine XS.icmpYes X22.here hx rfl (pc0 := 35) (pc' := 47) rfl (hb hby d1_35) rfl (tlt (hd29)).1 (by decide) (by decide) ?_
      show Steps p.tables e below (T22.setTop (mkF m 47 #[.val (.ref r0), .val (.ref ob17), .val (.ref r0), .val (.int (2 : Int32)), .val (.int ((0 : Int32) + (1 : Int32))), .val (.int (Int32.ofNat y)), .val (.int (Int32.ofNat (y / 64)))] [])) _
      refine XS.aloadN X22.here hx rfl (hb hby d1_47) rfl rfl ?_
      show Steps p.tables e below (T22.setTop (mkF m 48 #[.val (.ref r0), .val (.ref ob17), .val (.ref r0), .val (.int (2 : Int32)), .val (.int ((0 : Int32) + (1 : Int32))), .val (.int (Int32.ofNat y)), .val (.int (Int32.ofNat (y / 64)))] [(.ref ob17)])) _
      refine XS.iload X22.here hx rfl (hb hby d1_48) rfl ?_
      show Steps p.tables e below (T22.setTop (mkF m 50 #[.val (.ref r0), .val (.ref ob17), .val (.ref r0), .val (.int (2 : Int32)), .val (.int ((0 : Int32) + (1 : Int32))), .val (.int (Int32.ofNat y)), .val (.int (Int32.ofNat (y / 64)))] [(.int (Int32.ofNat (y / 64))), (.ref ob17)])) _
      refine Jvm.Free.XT.dup2 X22.here hx rfl (hb hby d1_50) rfl rfl rfl ?_
      show Steps p.tables e below (T22.setTop (mkF m 51 #[.val (.ref r0), .val (.ref ob17), .val (.ref r0), .val (.int (2 : Int32)), .val (.int ((0 : Int32) + (1 : Int32))), .val (.int (Int32.ofNat y)), .val (.int (Int32.ofNat (y / 64)))] [(.int (Int32.ofNat (y / 64))), (.ref ob17), (.int (Int32.ofNat (y / 64))), (.ref ob17)])) _
      refine X22.laload hx (j := (Int32.ofNat (y / 64))) (v := (.long ((own_or own_f0 x) (y / 64)))) (by rw [e22]; exact Ar31.1) (State.isArrayOf_alike hZ.alike Ar31.2.1) Ar31.2.2 hin31 hat31 (g := (mkF m 51 #[.val (.ref r0), .val (.ref ob17), .val (.ref r0), .val (.int (2 : Int32)), .val (.int ((0 : Int32) + (1 : Int32))), .val (.int (Int32.ofNat y)), .val (.int (Int32.ofNat (y / 64)))] [(.int (Int32.ofNat (y / 64))), (.ref ob17), (.int (Int32.ofNat (y / 64))), (.ref ob17)])) rfl rfl (hb hby d1_51) _ ?_
      show Steps p.tables e below (T22.setTop (mkF m 52 #[.val (.ref r0), .val (.ref ob17), .val (.ref r0), .val (.int (2 : Int32)), .val (.int ((0 : Int32) + (1 : Int32))), .val (.int (Int32.ofNat y)), .val (.int (Int32.ofNat (y / 64)))] [(.long ((own_or own_f0 x) (y / 64))), (.int (Int32.ofNat (y / 64))), (.ref ob17)])) _
      refine XS.lconst X22.here hx rfl (hb hby d1_52) ?_
      show Steps p.tables e below (T22.setTop (mkF m 53 #[.val (.ref r0), .val (.ref ob17), .val (.ref r0), .val (.int (2 : Int32)), .val (.int ((0 : Int32) + (1 : Int32))), .val (.int (Int32.ofNat y)), .val (.int (Int32.ofNat (y / 64)))] [(.long (1 : Int64)), (.long ((own_or own_f0 x) (y / 64))), (.int (Int32.ofNat (y / 64))), (.ref ob17)])) _
      refine XS.iload X22.here hx rfl (hb hby d1_53) rfl ?_
      show Steps p.tables e below (T22.setTop (mkF m 55 #[.val (.ref r0), .val (.ref ob17), .val (.ref r0), .val (.int (2 : Int32)), .val (.int ((0 : Int32) + (1 : Int32))), .val (.int (Int32.ofNat y)), .val (.int (Int32.ofNat (y / 64)))] [(.int (Int32.ofNat y)), (.long (1 : Int64)), (.long ((own_or own_f0 x) (y / 64))), (.int (Int32.ofNat (y / 64))), (.ref ob17)])) _
      refine XS.lshl X22.here hx rfl (hb hby d1_55) rfl ?_
      show Steps p.tables e below (T22.setTop (mkF m 56 #[.val (.ref r0), .val (.ref ob17), .val (.ref r0), .val (.int (2 : Int32)), .val (.int ((0 : Int32) + (1 : Int32))), .val (.int (Int32.ofNat y)), .val (.int (Int32.ofNat (y / 64)))] [(.long ((1 : Int64) <<< ((Int32.ofNat y) &&& 0x3f).toInt64)), (.long ((own_or own_f0 x) (y / 64))), (.int (Int32.ofNat (y / 64))), (.ref ob17)])) _
      refine XS.lor X22.here hx rfl (hb hby d1_56) rfl ?_
      exact kt
    have Vc33 := V22
    obtain ⟨cl33, Ar33, qk33, S33, M33, H33, G33⟩ := Vc33
    have hin33 : ¬ ((Int32.ofNat (y / 64)) < 0 ∨ cl33.slots.size ≤ ((Int32.ofNat (y / 64))).toNatClampNeg) := inb_of S33 (own_in (y / 64) (x / 64 + 1) (by omega) hl815)
    obtain ⟨T34, h34, X34, e34, W34, st34⟩ := stJ X22 hx hZ e22 Ar33 (j := (Int32.ofNat (y / 64))) hin33 (g := (mkF m 57 #[.val (.ref r0), .val (.ref ob17), .val (.ref r0), .val (.int (2 : Int32)), .val (.int ((0 : Int32) + (1 : Int32))), .val (.int (Int32.ofNat y)), .val (.int (Int32.ofNat (y / 64)))] [(.long (((own_or own_f0 x) (y / 64)) ||| ((1 : Int64) <<< ((Int32.ofNat y) &&& 0x3f).toInt64))), (.int (Int32.ofNat (y / 64))), (.ref ob17)])) rfl rfl (hb hby d1_57)
    have V34 : Arv Z h34 ob17 kk17 .long (Int32.ofNat (x / 64 + 1)) (own_l8 (own_or (own_or own_f0 x) y)) (.long (0 : Int64)) := by have q := Arv.set Ar33 qk33 S33 M33 H33 G33 rfl W34 (y / 64) (own_clamp _ (by omega)) (by rw [own_len8]; omega); rw [show (own_l8 (own_or own_f0 x)).set (y / 64) (.long (((own_or own_f0 x) (y / 64)) ||| ((1 : Int64) <<< ((Int32.ofNat y) &&& 0x3f).toInt64))) = own_l8 (own_or (own_or own_f0 x) y) from own_set8 (own_or own_f0 x) y (by omega)] at q; exact q
    have hz34 : ∀ i, (x / 64 + 1) ≤ i → (own_or (own_or own_f0 x) y) i = 0 := own_orz (own_or own_f0 x) y (x / 64 + 1) (by omega) hz22
    have hla34 : (x / 64 + 1) = 0 ∨ (own_or (own_or own_f0 x) y) ((x / 64 + 1) - 1) ≠ 0 := hla22.imp id (own_orne (own_or own_f0 x) y _)
    have N34 := Fr.snoc X34 N22 g_ob17
    have c36 : ∀ t, Steps p.tables e below (T34.setTop (mkF m 64 #[.val (.ref r0), .val (.ref ob17), .val (.ref r0), .val (.int (2 : Int32)), .val (.int (((0 : Int32) + (1 : Int32)) + (1 : Int32))), .val (.int (Int32.ofNat y)), .val (.int (Int32.ofNat (y / 64)))] [])) t → Steps p.tables e below (T34.setTop (mkF m 58 #[.val (.ref r0), .val (.ref ob17), .val (.ref r0), .val (.int (2 : Int32)), .val (.int ((0 : Int32) + (1 : Int32))), .val (.int (Int32.ofNat y)), .val (.int (Int32.ofNat (y / 64)))] [])) t := by
      intro t kt
      show Steps p.tables e below (T34.setTop (mkF m 58 #[.val (.ref r0), .val (.ref ob17), .val (.ref r0), .val (.int (2 : Int32)), .val (.int ((0 : Int32) + (1 : Int32))), .val (.int (Int32.ofNat y)), .val (.int (Int32.ofNat (y / 64)))] [])) _
      refine XS.iinc X34.here hx rfl (hb hby d1_58) rfl (l' := #[.val (.ref r0), .val (.ref ob17), .val (.ref r0), .val (.int (2 : Int32)), .val (.int (((0 : Int32) + (1 : Int32)) + (1 : Int32))), .val (.int (Int32.ofNat y)), .val (.int (Int32.ofNat (y / 64)))]) rfl ?_
      show Steps p.tables e below (T34.setTop (mkF m 61 #[.val (.ref r0), .val (.ref ob17), .val (.ref r0), .val (.int (2 : Int32)), .val (.int (((0 : Int32) + (1 : Int32)) + (1 : Int32))), .val (.int (Int32.ofNat y)), .val (.int (Int32.ofNat (y / 64)))] [])) _
      refine XS.goto X34.here hx rfl (pc0 := 61) (pc' := 12) rfl (hb hby d1_61) (by decide) (by decide) ?_
      show Steps p.tables e below (T34.setTop (mkF m 12 #[.val (.ref r0), .val (.ref ob17), .val (.ref r0), .val (.int (2 : Int32)), .val (.int (((0 : Int32) + (1 : Int32)) + (1 : Int32))), .val (.int (Int32.ofNat y)), .val (.int (Int32.ofNat (y / 64)))] [])) _
      refine XS.iload X34.here hx rfl (hb hby d1_12) rfl ?_
      show Steps p.tables e below (T34.setTop (mkF m 14 #[.val (.ref r0), .val (.ref ob17), .val (.ref r0), .val (.int (2 : Int32)), .val (.int (((0 : Int32) + (1 : Int32)) + (1 : Int32))), .val (.int (Int32.ofNat y)), .val (.int (Int32.ofNat (y / 64)))] [(.int (((0 : Int32) + (1 : Int32)) + (1 : Int32)))])) _
      refine XS.iloadN X34.here hx rfl (hb hby d1_14) rfl ?_
      show Steps p.tables e below (T34.setTop (mkF m 15 #[.val (.ref r0), .val (.ref ob17), .val (.ref r0), .val (.int (2 : Int32)), .val (.int (((0 : Int32) + (1 : Int32)) + (1 : Int32))), .val (.int (Int32.ofNat y)), .val (.int (Int32.ofNat (y / 64)))] [(.int (2 : Int32)), (.int (((0 : Int32) + (1 : Int32)) + (1 : Int32)))])) _
      refine XS.icmpYes X34.here hx rfl (pc0 := 15) (pc' := 64) rfl (hb hby d1_15) rfl (flt (by decide : ¬ ((((0 : Int32) + (1 : Int32)) + (1 : Int32)) < (2 : Int32)))).2.1 (by decide) (by decide) ?_
      exact kt
    obtain ⟨T35, h35, X35, e35, E35, A35, D35, U35, st35⟩ := newO X34 hx hZ hown (hw _ (List.mem_of_getElem? (i := 18) rfl)) (hw _ (List.mem_of_getElem? (i := 19) rfl)) (hw _ (List.mem_of_getElem? (i := 3) rfl)) e34 (g := (mkF m 64 #[.val (.ref r0), .val (.ref ob17), .val (.ref r0), .val (.int (2 : Int32)), .val (.int (((0 : Int32) + (1 : Int32)) + (1 : Int32))), .val (.int (Int32.ofNat y)), .val (.int (Int32.ofNat (y / 64)))] [])) rfl (hb hby d1_64) (by decide) (by decide)
    obtain ⟨b35, g35⟩ : ∃ z, z = h34.size := ⟨_, rfl⟩
    rw [← g35] at A35 D35 U35 st35
    have f37 := (Nat.le_trans (Nat.le_trans (Nat.le_trans f16 Kq17.1) (Keep.of_wr W22).1) (Keep.of_wr W34).1)
    have f38 := (((f18.trans Kq17 all0).wr W22 (Or.inr sz_ob17)).wr W34 (Or.inr sz_ob17))
    have g_b35 : n0 ≤ b35 := Nat.le_trans f37 (Nat.le_of_eq g35.symm)
    have sz_b35 : h0.size ≤ b35 := Nat.le_trans f38.1 (Nat.le_of_eq g35.symm)
    have f39 := (f23.other W34 (Nat.ne_of_lt (Nat.lt_of_lt_of_le lt_r0_17 szq17)))
    have lt_r0_35 := f39.lt
    have f40 := (((VP4.keep Kq17 nin0).other W22 (Nat.ne_of_lt (Nat.lt_of_lt_of_le lt_b1_17 szq17))).other W34 (Nat.ne_of_lt (Nat.lt_of_lt_of_le lt_b1_17 szq17)))
    have lt_b1_35 := f40.lt
    have lt_ob17_35 := V34.lt
    have F35_words : Fld Z h35 b35 "com/example/emex/emex/explain/Positions" "words" "[J" .null := D35 (Or.inr (hw _ (List.mem_of_getElem? (i := 27) rfl))) (ty := (.array .long)) (by decide)
    have F35_size : Fld Z h35 b35 "com/example/emex/emex/explain/Positions" "size" "I" (.int (0 : Int32)) := D35 (Or.inr (hw _ (List.mem_of_getElem? (i := 36) rfl))) (ty := .int) (by decide)
    have c41 : ∀ t, Steps p.tables e below (T35.setTop (mkF m 69 #[.val (.ref r0), .val (.ref ob17), .val (.ref r0), .val (.int (2 : Int32)), .val (.int (((0 : Int32) + (1 : Int32)) + (1 : Int32))), .val (.int (Int32.ofNat y)), .val (.int (Int32.ofNat (y / 64)))] [(.ref ob17), (.ref b35), (.ref b35)])) t → Steps p.tables e below (T35.setTop (mkF m 67 #[.val (.ref r0), .val (.ref ob17), .val (.ref r0), .val (.int (2 : Int32)), .val (.int (((0 : Int32) + (1 : Int32)) + (1 : Int32))), .val (.int (Int32.ofNat y)), .val (.int (Int32.ofNat (y / 64)))] [(.ref b35)])) t := by
      intro t kt
      show Steps p.tables e below (T35.setTop (mkF m 67 #[.val (.ref r0), .val (.ref ob17), .val (.ref r0), .val (.int (2 : Int32)), .val (.int (((0 : Int32) + (1 : Int32)) + (1 : Int32))), .val (.int (Int32.ofNat y)), .val (.int (Int32.ofNat (y / 64)))] [(.ref b35)])) _
      refine XS.dup X35.here hx rfl (hb hby d1_67) rfl rfl ?_
      show Steps p.tables e below (T35.setTop (mkF m 68 #[.val (.ref r0), .val (.ref ob17), .val (.ref r0), .val (.int (2 : Int32)), .val (.int (((0 : Int32) + (1 : Int32)) + (1 : Int32))), .val (.int (Int32.ofNat y)), .val (.int (Int32.ofNat (y / 64)))] [(.ref b35), (.ref b35)])) _
      refine XS.aloadN X35.here hx rfl (hb hby d1_68) rfl rfl ?_
      exact kt
    have f42 := (Nat.le_trans f37 E35.1)
    have f43 := (V34.ext E35)
    obtain ⟨_, _, ⟨T44, L44, k44, n44⟩, -, X44, ⟨Lc44, hQ44, l44, y44, z44⟩, st44⟩ := X35.specialBack hx (y := (⟨"com/example/emex/emex/explain/Positions", "<init>", "([J)V"⟩ : MethodName)) rfl hown (mvT hZ (hw _ (List.mem_of_getElem? (i := 20) rfl))) (mvT hZ (hw _ (List.mem_of_getElem? (i := 21) rfl))) (mvT hZ (hw _ (List.mem_of_getElem? (i := 22) rfl))) (by decide) (backOf (W := 1) (rm4 l Z a0 hw [] b35 ob17 kk17 (x / 64 + 1) (own_or (own_or own_f0 x) y) h35 n0 f42 f43 hl815 hla34 F35_words F35_size A35 g_b35 (Nat.ne_of_lt (Nat.lt_of_lt_of_le lt_ob17_35 (Nat.le_of_eq g35.symm)))) hZ (hw _ (List.mem_of_getElem? (i := 22) rfl)) (hw _ (List.mem_of_getElem? (i := 3) rfl)) (by decide) (by decide)) (g := (mkF m 69 #[.val (.ref r0), .val (.ref ob17), .val (.ref r0), .val (.int (2 : Int32)), .val (.int (((0 : Int32) + (1 : Int32)) + (1 : Int32))), .val (.int (Int32.ofNat y)), .val (.int (Int32.ofNat (y / 64)))] [(.ref ob17), (.ref b35), (.ref b35)])) rfl (by rw [hml]; rfl) (Steps.refl _) (a := b35) (argsL := [(.ref ob17)]) (rest := [(.ref b35)]) (lenOf pd_2 rfl) rfl (by show 2 * 0 + _ ≤ _; exact Nat.le_of_eq rfl) (hb hby d1_69) (fun _ _ => ⟨rfl, e35, (by decide : 3 + 0 ≤ _), (by decide : 10 + 0 ≤ _)⟩)
    dsimp only [Pt.U, Pt.locs, Pt.cells, Pt.slots] at X44 l44 y44 z44 st44 hQ44
    subst l44 y44 z44
    obtain ⟨rfl, N44q, Kq44, Eq44, Fq44_0, Fq44_1⟩ := hQ44
    have N44 := Fr.app N34 N44q
    obtain ⟨fs, hr, hrun, hended, hW, hsame⟩ := X44.leave (v := some (.ref b35)) (fun h => by rw [Bd.returns] at h; cases h)
    have f46 := ((f38.ext E35).trans Kq44 (allS (Or.inr sz_b35) all0))
    have f47 := (f43.keep Kq44 (ninS (Nat.ne_of_lt (Nat.lt_of_lt_of_le lt_ob17_35 (Nat.le_of_eq g35.symm))) nin0))
    refine ⟨_, _, pre0 _ (c2 _ (st1 _ (c3 _ (c8 _ (c9 _ (c12 _ (c13 _ (c14 _ (st17 _ (c20 _ (st22 _ (c25 _ (c26 _ (c30 _ (c32 _ (st34 _ (c36 _ (st35 _ (c41 _ (st44.trans (?_))))))))))))))))))))), hrun, hended, _, _, rfl, ?_, ⟨_, rfl⟩, hW, hsame.mono (by decide) (by decide)⟩
    · show Steps p.tables e below (T44.setTop (mkF m 72 #[.val (.ref r0), .val (.ref ob17), .val (.ref r0), .val (.int (2 : Int32)), .val (.int (((0 : Int32) + (1 : Int32)) + (1 : Int32))), .val (.int (Int32.ofNat y)), .val (.int (Int32.ofNat (y / 64)))] [(.ref b35)])) _
      jvm_step X44.here [X44.here.top, hx, (hb hby d1_72), X44.method', Bd.returns, Value.isRef, FieldType.isReference]
      first | (intro acts; rw [hr _ acts rfl rfl rfl]) | rw [hr _ _ rfl rfl rfl]
      exact Steps.refl _
    · show Q1_2 Z r0 kk dv x y h0 n0 _ T44.heap _
      exact ⟨b35, ob17, kk17, (x / 64 + 1), hl815, hz34, by omega, by omega, rfl, N44, f46, g_b35, Eq44, Fq44_0, Fq44_1, f47⟩
  · skip
    have Vc48 := V22
    obtain ⟨cl48, Ar48, qk48, S48, M48, H48, G48⟩ := Vc48
    have c50 : ∀ t, Steps p.tables e below (T22.setTop (mkF m 35 #[.val (.ref r0), .val (.ref ob17), .val (.ref r0), .val (.int (2 : Int32)), .val (.int ((0 : Int32) + (1 : Int32))), .val (.int (Int32.ofNat y)), .val (.int (Int32.ofNat (y / 64)))] [(.int (Int32.ofNat (x / 64 + 1))), (.int (Int32.ofNat (y / 64)))])) t → Steps p.tables e below (T22.setTop (mkF m 31 #[.val (.ref r0), .val (.ref ob17), .val (.ref r0), .val (.int (2 : Int32)), .val (.int ((0 : Int32) + (1 : Int32))), .val (.int (Int32.ofNat y)), .val (.int (Int32.ofNat (y / 64)))] [])) t := by
      intro t kt
      show Steps p.tables e below (T22.setTop (mkF m 31 #[.val (.ref r0), .val (.ref ob17), .val (.ref r0), .val (.int (2 : Int32)), .val (.int ((0 : Int32) + (1 : Int32))), .val (.int (Int32.ofNat y)), .val (.int (Int32.ofNat (y / 64)))] [])) _
      refine XS.iload X22.here hx rfl (hb hby d1_31) rfl ?_
      show Steps p.tables e below (T22.setTop (mkF m 33 #[.val (.ref r0), .val (.ref ob17), .val (.ref r0), .val (.int (2 : Int32)), .val (.int ((0 : Int32) + (1 : Int32))), .val (.int (Int32.ofNat y)), .val (.int (Int32.ofNat (y / 64)))] [(.int (Int32.ofNat (y / 64)))])) _
      refine XS.aloadN X22.here hx rfl (hb hby d1_33) rfl rfl ?_
      show Steps p.tables e below (T22.setTop (mkF m 34 #[.val (.ref r0), .val (.ref ob17), .val (.ref r0), .val (.int (2 : Int32)), .val (.int ((0 : Int32) + (1 : Int32))), .val (.int (Int32.ofNat y)), .val (.int (Int32.ofNat (y / 64)))] [(.ref ob17), (.int (Int32.ofNat (y / 64)))])) _
      refine X22.arraylength hx (by rw [e22]; exact Ar48.1) (State.isArrayOf_alike hZ.alike Ar48.2.1) (g := (mkF m 34 #[.val (.ref r0), .val (.ref ob17), .val (.ref r0), .val (.int (2 : Int32)), .val (.int ((0 : Int32) + (1 : Int32))), .val (.int (Int32.ofNat y)), .val (.int (Int32.ofNat (y / 64)))] [(.ref ob17), (.int (Int32.ofNat (y / 64)))])) rfl rfl (hb hby d1_34) _ ?_
      rw [len_of S48 M48]
      exact kt
    have hd49 : ¬ ((Int32.ofNat (y / 64)) < (Int32.ofNat (x / 64 + 1))) := by rw [own_lt _ _ (by omega) (by omega)]; omega
    have c51 : ∀ t, Steps p.tables e below (T22.setTop (mkF m 43 #[.val (.ref r0), .val (.ref ob17), .val (.ref r0), .val (.int (2 : Int32)), .val (.int ((0 : Int32) + (1 : Int32))), .val (.int (Int32.ofNat y)), .val (.int (Int32.ofNat (y / 64)))] [(.int ((Int32.ofNat (y / 64)) + (1 : Int32))), (.ref ob17)])) t → Steps p.tables e below (T22.setTop (mkF m 35 #[.val (.ref r0), .val (.ref ob17), .val (.ref r0), .val (.int (2 : Int32)), .val (.int ((0 : Int32) + (1 : Int32))), .val (.int (Int32.ofNat y)), .val (.int (Int32.ofNat (y / 64)))] [(.int (Int32.ofNat (x / 64 + 1))), (.int (Int32.ofNat (y / 64)))])) t := by
      intro t kt
      show Steps p.tables e below (T22.setTop (mkF m 35 #[.val (.ref r0), .val (.ref ob17), .val (.ref r0), .val (.int (2 : Int32)), .val (.int ((0 : Int32) + (1 : Int32))), .val (.int (Int32.ofNat y)), .val (.int (Int32.ofNat (y / 64)))] [(.int (Int32.ofNat (x / 64 + 1))), (.int (Int32.ofNat (y / 64)))])) _
      refine XS.icmpNo X22.here hx rfl (hb hby d1_35) rfl (flt (hd49)).1 ?_
      show Steps p.tables e below (T22.setTop (mkF m 38 #[.val (.ref r0), .val (.ref ob17), .val (.ref r0), .val (.int (2 : Int32)), .val (.int ((0 : Int32) + (1 : Int32))), .val (.int (Int32.ofNat y)), .val (.int (Int32.ofNat (y / 64)))] [])) _
      refine XS.aloadN X22.here hx rfl (hb hby d1_38) rfl rfl ?_
      show Steps p.tables e below (T22.setTop (mkF m 39 #[.val (.ref r0), .val (.ref ob17), .val (.ref r0), .val (.int (2 : Int32)), .val (.int ((0 : Int32) + (1 : Int32))), .val (.int (Int32.ofNat y)), .val (.int (Int32.ofNat (y / 64)))] [(.ref ob17)])) _
      refine XS.iload X22.here hx rfl (hb hby d1_39) rfl ?_
      show Steps p.tables e below (T22.setTop (mkF m 41 #[.val (.ref r0), .val (.ref ob17), .val (.ref r0), .val (.int (2 : Int32)), .val (.int ((0 : Int32) + (1 : Int32))), .val (.int (Int32.ofNat y)), .val (.int (Int32.ofNat (y / 64)))] [(.int (Int32.ofNat (y / 64))), (.ref ob17)])) _
      refine XS.iconst X22.here hx rfl (hb hby d1_41) ?_
      show Steps p.tables e below (T22.setTop (mkF m 42 #[.val (.ref r0), .val (.ref ob17), .val (.ref r0), .val (.int (2 : Int32)), .val (.int ((0 : Int32) + (1 : Int32))), .val (.int (Int32.ofNat y)), .val (.int (Int32.ofNat (y / 64)))] [(.int (1 : Int32)), (.int (Int32.ofNat (y / 64))), (.ref ob17)])) _
      refine XS.iadd X22.here hx rfl (hb hby d1_42) rfl ?_
      exact kt
    have c52 : ∀ t, Steps p.tables e below (T22.setTop (mkF m 43 #[.val (.ref r0), .val (.ref ob17), .val (.ref r0), .val (.int (2 : Int32)), .val (.int ((0 : Int32) + (1 : Int32))), .val (.int (Int32.ofNat y)), .val (.int (Int32.ofNat (y / 64)))] [(.int (Int32.ofNat (y / 64 + 1))), (.ref ob17)])) t → Steps p.tables e below (T22.setTop (mkF m 43 #[.val (.ref r0), .val (.ref ob17), .val (.ref r0), .val (.int (2 : Int32)), .val (.int ((0 : Int32) + (1 : Int32))), .val (.int (Int32.ofNat y)), .val (.int (Int32.ofNat (y / 64)))] [(.int ((Int32.ofNat (y / 64)) + (1 : Int32))), (.ref ob17)])) t := fun t kt => castTop (congrArg (fun zv => (mkF m 43 #[.val (.ref r0), .val (.ref ob17), .val (.ref r0), .val (.int (2 : Int32)), .val (.int ((0 : Int32) + (1 : Int32))), .val (.int (Int32.ofNat y)), .val (.int (Int32.ofNat (y / 64)))] [(.int zv), (.ref ob17)])) (show ((Int32.ofNat (y / 64)) + (1 : Int32)) = (Int32.ofNat (y / 64 + 1)) from own_up _ (by omega))) kt
    have hl853 : y / 64 + 1 ≤ 8 := by omega
    have hzg53 : ∀ i, y / 64 + 1 ≤ i → (own_or own_f0 x) i = 0 := fun i hi => hz22 i (by omega)
    have f54 := (Nat.le_trans (Nat.le_trans f16 Kq17.1) (Keep.of_wr W22).1)
    obtain ⟨_, _, ⟨T55, L55, k55, n55⟩, -, X55, ⟨Lc55, hQ55, l55, y55, z55⟩, st55⟩ := Jvm.LawKit.callS X22 hx (y := (⟨"java/util/Arrays", "copyOf", "([JI)[J"⟩ : MethodName)) hown (mvT hZ (hw _ (List.mem_of_getElem? (i := 6) rfl))) (mvT hZ (hw _ (List.mem_of_getElem? (i := 7) rfl))) (mvT hZ (hw _ (List.mem_of_getElem? (i := 8) rfl))) (mvT hZ (hw _ (List.mem_of_getElem? (i := 9) rfl))) (by decide) (backOf (W := 0) (rm2 l Z a0 hw []  ob17 (y / 64 + 1) kk17 (x / 64 + 1) (own_or own_f0 x) h22 n0 f54 V22 (by omega) (by omega) hl815 hz22) hZ (hw _ (List.mem_of_getElem? (i := 9) rfl)) (hw _ (List.mem_of_getElem? (i := 8) rfl)) (by decide) (by decide)) (g := (mkF m 43 #[.val (.ref r0), .val (.ref ob17), .val (.ref r0), .val (.int (2 : Int32)), .val (.int ((0 : Int32) + (1 : Int32))), .val (.int (Int32.ofNat y)), .val (.int (Int32.ofNat (y / 64)))] [(.int (Int32.ofNat (y / 64 + 1))), (.ref ob17)])) rfl (by rw [hml]; rfl) (argsL := [(.ref ob17), (.int (Int32.ofNat (y / 64 + 1)))]) (rest := []) (lenOf pd_3 rfl) rfl (by show 2 * 0 + _ ≤ _; exact Nat.le_of_eq rfl) (hb hby d1_43) (fun _ _ => ⟨rfl, e22, (by decide : 2 + 1 ≤ _), (by decide : 8 + 8 ≤ _)⟩)
    dsimp only [Pt.U, Pt.locs, Pt.cells, Pt.slots] at X55 l55 y55 z55 st55 hQ55
    subst l55 y55 z55
    obtain ⟨ob55, kk55, rfl, N55q, Kq55, g_ob55, szq55, Vq55⟩ := hQ55
    have N55 := Fr.app N22 N55q
    have lt_r0_55 := f23.lt
    have f56 := ((VP4.keep Kq17 nin0).other W22 (Nat.ne_of_lt (Nat.lt_of_lt_of_le lt_b1_17 szq17)))
    have lt_b1_55 := f56.lt
    have lt_ob17_55 := V22.lt
    have f57 := ((f18.trans Kq17 all0).wr W22 (Or.inr sz_ob17))
    have sz_ob55 : h0.size ≤ ob55 := Nat.le_trans f57.1 szq55
    have Vc58 := Vq55
    obtain ⟨cl58, Ar58, qk58, S58, M58, H58, G58⟩ := Vc58
    have hin58 : ¬ ((Int32.ofNat (y / 64)) < 0 ∨ cl58.slots.size ≤ ((Int32.ofNat (y / 64))).toNatClampNeg) := inb_of S58 (own_in (y / 64) (y / 64 + 1) (by omega) hl853)
    have hat58 : cl58.slots[((Int32.ofNat (y / 64))).toNatClampNeg]? = some (.long ((own_or own_f0 x) (y / 64))) := H58.at hin58 (own_at8' (own_or own_f0 x) (y / 64) (by omega) _)
    have c59 : ∀ t, Steps p.tables e below (T55.setTop (mkF m 57 #[.val (.ref r0), .val (.ref ob55), .val (.ref r0), .val (.int (2 : Int32)), .val (.int ((0 : Int32) + (1 : Int32))), .val (.int (Int32.ofNat y)), .val (.int (Int32.ofNat (y / 64)))] [(.long (((own_or own_f0 x) (y / 64)) ||| ((1 : Int64) <<< ((Int32.ofNat y) &&& 0x3f).toInt64))), (.int (Int32.ofNat (y / 64))), (.ref ob55)])) t → Steps p.tables e below (T55.setTop (mkF m 46 #[.val (.ref r0), .val (.ref ob17), .val (.ref r0), .val (.int (2 : Int32)), .val (.int ((0 : Int32) + (1 : Int32))), .val (.int (Int32.ofNat y)), .val (.int (Int32.ofNat (y / 64)))] [(.ref ob55)])) t := by
      intro t kt
      show Steps p.tables e below (T55.setTop (mkF m 46 #[.val (.ref r0), .val (.ref ob17), .val (.ref r0), .val (.int (2 : Int32)), .val (.int ((0 : Int32) + (1 : Int32))), .val (.int (Int32.ofNat y)), .val (.int (Int32.ofNat (y / 64)))] [(.ref ob55)])) _
      refine XS.astoreN X55.here hx rfl (hb hby d1_46) rfl rfl (l' := #[.val (.ref r0), .val (.ref ob55), .val (.ref r0), .val (.int (2 : Int32)), .val (.int ((0 : Int32) + (1 : Int32))), .val (.int (Int32.ofNat y)), .val (.int (Int32.ofNat (y / 64)))]) rfl ?_
      show Steps p.tables e below (T55.setTop (mkF m 47 #[.val (.ref r0), .val (.ref ob55), .val (.ref r0), .val (.int (2 : Int32)), .val (.int ((0 : Int32) + (1 : Int32))), .val (.int (Int32.ofNat y)), .val (.int (Int32.ofNat (y / 64)))] [])) _
      refine XS.aloadN X55.here hx rfl (hb hby d1_47) rfl rfl ?_
      show Steps p.tables e below (T55.setTop (mkF m 48 #[.val (.ref r0), .val (.ref ob55), .val (.ref r0), .val (.int (2 : Int32)), .val (.int ((0 : Int32) + (1 : Int32))), .val (.int (Int32.ofNat y)), .val (.int (Int32.ofNat (y / 64)))] [(.ref ob55)])) _
      refine XS.iload X55.here hx rfl (hb hby d1_48) rfl ?_
      show Steps p.tables e below (T55.setTop (mkF m 50 #[.val (.ref r0), .val (.ref ob55), .val (.ref r0), .val (.int (2 : Int32)), .val (.int ((0 : Int32) + (1 : Int32))), .val (.int (Int32.ofNat y)), .val (.int (Int32.ofNat (y / 64)))] [(.int (Int32.ofNat (y / 64))), (.ref ob55)])) _
      refine Jvm.Free.XT.dup2 X55.here hx rfl (hb hby d1_50) rfl rfl rfl ?_
      show Steps p.tables e below (T55.setTop (mkF m 51 #[.val (.ref r0), .val (.ref ob55), .val (.ref r0), .val (.int (2 : Int32)), .val (.int ((0 : Int32) + (1 : Int32))), .val (.int (Int32.ofNat y)), .val (.int (Int32.ofNat (y / 64)))] [(.int (Int32.ofNat (y / 64))), (.ref ob55), (.int (Int32.ofNat (y / 64))), (.ref ob55)])) _
      refine X55.laload hx (j := (Int32.ofNat (y / 64))) (v := (.long ((own_or own_f0 x) (y / 64)))) Ar58.1 (State.isArrayOf_alike hZ.alike Ar58.2.1) Ar58.2.2 hin58 hat58 (g := (mkF m 51 #[.val (.ref r0), .val (.ref ob55), .val (.ref r0), .val (.int (2 : Int32)), .val (.int ((0 : Int32) + (1 : Int32))), .val (.int (Int32.ofNat y)), .val (.int (Int32.ofNat (y / 64)))] [(.int (Int32.ofNat (y / 64))), (.ref ob55), (.int (Int32.ofNat (y / 64))), (.ref ob55)])) rfl rfl (hb hby d1_51) _ ?_
      show Steps p.tables e below (T55.setTop (mkF m 52 #[.val (.ref r0), .val (.ref ob55), .val (.ref r0), .val (.int (2 : Int32)), .val (.int ((0 : Int32) + (1 : Int32))), .val (.int (Int32.ofNat y)), .val (.int (Int32.ofNat (y / 64)))] [(.long ((own_or own_f0 x) (y / 64))), (.int (Int32.ofNat (y / 64))), (.ref ob55)])) _
      refine XS.lconst X55.here hx rfl (hb hby d1_52) ?_
      show Steps p.tables e below (T55.setTop (mkF m 53 #[.val (.ref r0), .val (.ref ob55), .val (.ref r0), .val (.int (2 : Int32)), .val (.int ((0 : Int32) + (1 : Int32))), .val (.int (Int32.ofNat y)), .val (.int (Int32.ofNat (y / 64)))] [(.long (1 : Int64)), (.long ((own_or own_f0 x) (y / 64))), (.int (Int32.ofNat (y / 64))), (.ref ob55)])) _
      refine XS.iload X55.here hx rfl (hb hby d1_53) rfl ?_
      show Steps p.tables e below (T55.setTop (mkF m 55 #[.val (.ref r0), .val (.ref ob55), .val (.ref r0), .val (.int (2 : Int32)), .val (.int ((0 : Int32) + (1 : Int32))), .val (.int (Int32.ofNat y)), .val (.int (Int32.ofNat (y / 64)))] [(.int (Int32.ofNat y)), (.long (1 : Int64)), (.long ((own_or own_f0 x) (y / 64))), (.int (Int32.ofNat (y / 64))), (.ref ob55)])) _
      refine XS.lshl X55.here hx rfl (hb hby d1_55) rfl ?_
      show Steps p.tables e below (T55.setTop (mkF m 56 #[.val (.ref r0), .val (.ref ob55), .val (.ref r0), .val (.int (2 : Int32)), .val (.int ((0 : Int32) + (1 : Int32))), .val (.int (Int32.ofNat y)), .val (.int (Int32.ofNat (y / 64)))] [(.long ((1 : Int64) <<< ((Int32.ofNat y) &&& 0x3f).toInt64)), (.long ((own_or own_f0 x) (y / 64))), (.int (Int32.ofNat (y / 64))), (.ref ob55)])) _
      refine XS.lor X55.here hx rfl (hb hby d1_56) rfl ?_
      exact kt
    have Vc60 := Vq55
    obtain ⟨cl60, Ar60, qk60, S60, M60, H60, G60⟩ := Vc60
    have hin60 : ¬ ((Int32.ofNat (y / 64)) < 0 ∨ cl60.slots.size ≤ ((Int32.ofNat (y / 64))).toNatClampNeg) := inb_of S60 (own_in (y / 64) (y / 64 + 1) (by omega) hl853)
    obtain ⟨T61, h61, X61, e61, W61, st61⟩ := stJ X55 hx hZ rfl Ar60 (j := (Int32.ofNat (y / 64))) hin60 (g := (mkF m 57 #[.val (.ref r0), .val (.ref ob55), .val (.ref r0), .val (.int (2 : Int32)), .val (.int ((0 : Int32) + (1 : Int32))), .val (.int (Int32.ofNat y)), .val (.int (Int32.ofNat (y / 64)))] [(.long (((own_or own_f0 x) (y / 64)) ||| ((1 : Int64) <<< ((Int32.ofNat y) &&& 0x3f).toInt64))), (.int (Int32.ofNat (y / 64))), (.ref ob55)])) rfl rfl (hb hby d1_57)
    have V61 : Arv Z h61 ob55 kk55 .long (Int32.ofNat (y / 64 + 1)) (own_l8 (own_or (own_or own_f0 x) y)) (.long (0 : Int64)) := by have q := Arv.set Ar60 qk60 S60 M60 H60 G60 rfl W61 (y / 64) (own_clamp _ (by omega)) (by rw [own_len8]; omega); rw [show (own_l8 (own_or own_f0 x)).set (y / 64) (.long (((own_or own_f0 x) (y / 64)) ||| ((1 : Int64) <<< ((Int32.ofNat y) &&& 0x3f).toInt64))) = own_l8 (own_or (own_or own_f0 x) y) from own_set8 (own_or own_f0 x) y (by omega)] at q; exact q
    have hz61 : ∀ i, (y / 64 + 1) ≤ i → (own_or (own_or own_f0 x) y) i = 0 := own_orz (own_or own_f0 x) y (y / 64 + 1) (by omega) hzg53
    have hla61 : (y / 64 + 1) = 0 ∨ (own_or (own_or own_f0 x) y) ((y / 64 + 1) - 1) ≠ 0 := Or.inr (own_ornew (own_or own_f0 x) y (by omega))
    have N61 := Fr.snoc X61 N55 g_ob55
    have c63 : ∀ t, Steps p.tables e below (T61.setTop (mkF m 64 #[.val (.ref r0), .val (.ref ob55), .val (.ref r0), .val (.int (2 : Int32)), .val (.int (((0 : Int32) + (1 : Int32)) + (1 : Int32))), .val (.int (Int32.ofNat y)), .val (.int (Int32.ofNat (y / 64)))] [])) t → Steps p.tables e below (T61.setTop (mkF m 58 #[.val (.ref r0), .val (.ref ob55), .val (.ref r0), .val (.int (2 : Int32)), .val (.int ((0 : Int32) + (1 : Int32))), .val (.int (Int32.ofNat y)), .val (.int (Int32.ofNat (y / 64)))] [])) t := by
      intro t kt
      show Steps p.tables e below (T61.setTop (mkF m 58 #[.val (.ref r0), .val (.ref ob55), .val (.ref r0), .val (.int (2 : Int32)), .val (.int ((0 : Int32) + (1 : Int32))), .val (.int (Int32.ofNat y)), .val (.int (Int32.ofNat (y / 64)))] [])) _
      refine XS.iinc X61.here hx rfl (hb hby d1_58) rfl (l' := #[.val (.ref r0), .val (.ref ob55), .val (.ref r0), .val (.int (2 : Int32)), .val (.int (((0 : Int32) + (1 : Int32)) + (1 : Int32))), .val (.int (Int32.ofNat y)), .val (.int (Int32.ofNat (y / 64)))]) rfl ?_
      show Steps p.tables e below (T61.setTop (mkF m 61 #[.val (.ref r0), .val (.ref ob55), .val (.ref r0), .val (.int (2 : Int32)), .val (.int (((0 : Int32) + (1 : Int32)) + (1 : Int32))), .val (.int (Int32.ofNat y)), .val (.int (Int32.ofNat (y / 64)))] [])) _
      refine XS.goto X61.here hx rfl (pc0 := 61) (pc' := 12) rfl (hb hby d1_61) (by decide) (by decide) ?_
      show Steps p.tables e below (T61.setTop (mkF m 12 #[.val (.ref r0), .val (.ref ob55), .val (.ref r0), .val (.int (2 : Int32)), .val (.int (((0 : Int32) + (1 : Int32)) + (1 : Int32))), .val (.int (Int32.ofNat y)), .val (.int (Int32.ofNat (y / 64)))] [])) _
      refine XS.iload X61.here hx rfl (hb hby d1_12) rfl ?_
      show Steps p.tables e below (T61.setTop (mkF m 14 #[.val (.ref r0), .val (.ref ob55), .val (.ref r0), .val (.int (2 : Int32)), .val (.int (((0 : Int32) + (1 : Int32)) + (1 : Int32))), .val (.int (Int32.ofNat y)), .val (.int (Int32.ofNat (y / 64)))] [(.int (((0 : Int32) + (1 : Int32)) + (1 : Int32)))])) _
      refine XS.iloadN X61.here hx rfl (hb hby d1_14) rfl ?_
      show Steps p.tables e below (T61.setTop (mkF m 15 #[.val (.ref r0), .val (.ref ob55), .val (.ref r0), .val (.int (2 : Int32)), .val (.int (((0 : Int32) + (1 : Int32)) + (1 : Int32))), .val (.int (Int32.ofNat y)), .val (.int (Int32.ofNat (y / 64)))] [(.int (2 : Int32)), (.int (((0 : Int32) + (1 : Int32)) + (1 : Int32)))])) _
      refine XS.icmpYes X61.here hx rfl (pc0 := 15) (pc' := 64) rfl (hb hby d1_15) rfl (flt (by decide : ¬ ((((0 : Int32) + (1 : Int32)) + (1 : Int32)) < (2 : Int32)))).2.1 (by decide) (by decide) ?_
      exact kt
    obtain ⟨T62, h62, X62, e62, E62, A62, D62, U62, st62⟩ := newO X61 hx hZ hown (hw _ (List.mem_of_getElem? (i := 18) rfl)) (hw _ (List.mem_of_getElem? (i := 19) rfl)) (hw _ (List.mem_of_getElem? (i := 3) rfl)) e61 (g := (mkF m 64 #[.val (.ref r0), .val (.ref ob55), .val (.ref r0), .val (.int (2 : Int32)), .val (.int (((0 : Int32) + (1 : Int32)) + (1 : Int32))), .val (.int (Int32.ofNat y)), .val (.int (Int32.ofNat (y / 64)))] [])) rfl (hb hby d1_64) (by decide) (by decide)
    obtain ⟨b62, g62⟩ : ∃ z, z = h61.size := ⟨_, rfl⟩
    rw [← g62] at A62 D62 U62 st62
    have f64 := (Nat.le_trans (Nat.le_trans f54 Kq55.1) (Keep.of_wr W61).1)
    have f65 := ((f57.trans Kq55 all0).wr W61 (Or.inr sz_ob55))
    have g_b62 : n0 ≤ b62 := Nat.le_trans f64 (Nat.le_of_eq g62.symm)
    have sz_b62 : h0.size ≤ b62 := Nat.le_trans f65.1 (Nat.le_of_eq g62.symm)
    have f66 := ((f23.keep Kq55 nin0).other W61 (Nat.ne_of_lt (Nat.lt_of_lt_of_le lt_r0_55 szq55)))
    have lt_r0_62 := f66.lt
    have f67 := ((f56.keep Kq55 nin0).other W61 (Nat.ne_of_lt (Nat.lt_of_lt_of_le lt_b1_55 szq55)))
    have lt_b1_62 := f67.lt
    have f68 := ((V22.keep Kq55 nin0).other W61 (Nat.ne_of_lt (Nat.lt_of_lt_of_le lt_ob17_55 szq55)))
    have lt_ob17_62 := f68.lt
    have lt_ob55_62 := V61.lt
    have F62_words : Fld Z h62 b62 "com/example/emex/emex/explain/Positions" "words" "[J" .null := D62 (Or.inr (hw _ (List.mem_of_getElem? (i := 27) rfl))) (ty := (.array .long)) (by decide)
    have F62_size : Fld Z h62 b62 "com/example/emex/emex/explain/Positions" "size" "I" (.int (0 : Int32)) := D62 (Or.inr (hw _ (List.mem_of_getElem? (i := 36) rfl))) (ty := .int) (by decide)
    have c69 : ∀ t, Steps p.tables e below (T62.setTop (mkF m 69 #[.val (.ref r0), .val (.ref ob55), .val (.ref r0), .val (.int (2 : Int32)), .val (.int (((0 : Int32) + (1 : Int32)) + (1 : Int32))), .val (.int (Int32.ofNat y)), .val (.int (Int32.ofNat (y / 64)))] [(.ref ob55), (.ref b62), (.ref b62)])) t → Steps p.tables e below (T62.setTop (mkF m 67 #[.val (.ref r0), .val (.ref ob55), .val (.ref r0), .val (.int (2 : Int32)), .val (.int (((0 : Int32) + (1 : Int32)) + (1 : Int32))), .val (.int (Int32.ofNat y)), .val (.int (Int32.ofNat (y / 64)))] [(.ref b62)])) t := by
      intro t kt
      show Steps p.tables e below (T62.setTop (mkF m 67 #[.val (.ref r0), .val (.ref ob55), .val (.ref r0), .val (.int (2 : Int32)), .val (.int (((0 : Int32) + (1 : Int32)) + (1 : Int32))), .val (.int (Int32.ofNat y)), .val (.int (Int32.ofNat (y / 64)))] [(.ref b62)])) _
      refine XS.dup X62.here hx rfl (hb hby d1_67) rfl rfl ?_
      show Steps p.tables e below (T62.setTop (mkF m 68 #[.val (.ref r0), .val (.ref ob55), .val (.ref r0), .val (.int (2 : Int32)), .val (.int (((0 : Int32) + (1 : Int32)) + (1 : Int32))), .val (.int (Int32.ofNat y)), .val (.int (Int32.ofNat (y / 64)))] [(.ref b62), (.ref b62)])) _
      refine XS.aloadN X62.here hx rfl (hb hby d1_68) rfl rfl ?_
      exact kt
    have f70 := (Nat.le_trans f64 E62.1)
    have f71 := (V61.ext E62)
    obtain ⟨_, _, ⟨T72, L72, k72, n72⟩, -, X72, ⟨Lc72, hQ72, l72, y72, z72⟩, st72⟩ := X62.specialBack hx (y := (⟨"com/example/emex/emex/explain/Positions", "<init>", "([J)V"⟩ : MethodName)) rfl hown (mvT hZ (hw _ (List.mem_of_getElem? (i := 20) rfl))) (mvT hZ (hw _ (List.mem_of_getElem? (i := 21) rfl))) (mvT hZ (hw _ (List.mem_of_getElem? (i := 22) rfl))) (by decide) (backOf (W := 1) (rm4 l Z a0 hw [] b62 ob55 kk55 (y / 64 + 1) (own_or (own_or own_f0 x) y) h62 n0 f70 f71 hl853 hla61 F62_words F62_size A62 g_b62 (Nat.ne_of_lt (Nat.lt_of_lt_of_le lt_ob55_62 (Nat.le_of_eq g62.symm)))) hZ (hw _ (List.mem_of_getElem? (i := 22) rfl)) (hw _ (List.mem_of_getElem? (i := 3) rfl)) (by decide) (by decide)) (g := (mkF m 69 #[.val (.ref r0), .val (.ref ob55), .val (.ref r0), .val (.int (2 : Int32)), .val (.int (((0 : Int32) + (1 : Int32)) + (1 : Int32))), .val (.int (Int32.ofNat y)), .val (.int (Int32.ofNat (y / 64)))] [(.ref ob55), (.ref b62), (.ref b62)])) rfl (by rw [hml]; rfl) (Steps.refl _) (a := b62) (argsL := [(.ref ob55)]) (rest := [(.ref b62)]) (lenOf pd_2 rfl) rfl (by show 2 * 0 + _ ≤ _; exact Nat.le_of_eq rfl) (hb hby d1_69) (fun _ _ => ⟨rfl, e62, (by decide : 4 + 0 ≤ _), (by decide : 18 + 0 ≤ _)⟩)
    dsimp only [Pt.U, Pt.locs, Pt.cells, Pt.slots] at X72 l72 y72 z72 st72 hQ72
    subst l72 y72 z72
    obtain ⟨rfl, N72q, Kq72, Eq72, Fq72_0, Fq72_1⟩ := hQ72
    have N72 := Fr.app N61 N72q
    obtain ⟨fs, hr, hrun, hended, hW, hsame⟩ := X72.leave (v := some (.ref b62)) (fun h => by rw [Bd.returns] at h; cases h)
    have f74 := ((f65.ext E62).trans Kq72 (allS (Or.inr sz_b62) all0))
    have f75 := (f71.keep Kq72 (ninS (Nat.ne_of_lt (Nat.lt_of_lt_of_le lt_ob55_62 (Nat.le_of_eq g62.symm))) nin0))
    refine ⟨_, _, pre0 _ (c2 _ (st1 _ (c3 _ (c8 _ (c9 _ (c12 _ (c13 _ (c14 _ (st17 _ (c20 _ (st22 _ (c25 _ (c26 _ (c50 _ (c51 _ (c52 _ (st55 _ (c59 _ (st61 _ (c63 _ (st62 _ (c69 _ (st72.trans (?_)))))))))))))))))))))))), hrun, hended, _, _, rfl, ?_, ⟨_, rfl⟩, hW, hsame.mono (by decide) (by decide)⟩
    · show Steps p.tables e below (T72.setTop (mkF m 72 #[.val (.ref r0), .val (.ref ob55), .val (.ref r0), .val (.int (2 : Int32)), .val (.int (((0 : Int32) + (1 : Int32)) + (1 : Int32))), .val (.int (Int32.ofNat y)), .val (.int (Int32.ofNat (y / 64)))] [(.ref b62)])) _
      jvm_step X72.here [X72.here.top, hx, (hb hby d1_72), X72.method', Bd.returns, Value.isRef, FieldType.isReference]
      first | (intro acts; rw [hr _ acts rfl rfl rfl]) | rw [hr _ _ rfl rfl rfl]
      exact Steps.refl _
    · show Q1_2 Z r0 kk dv x y h0 n0 _ T72.heap _
      exact ⟨b62, ob55, kk55, (y / 64 + 1), hl853, hz61, by omega, by omega, rfl, N72, f74, g_b62, Eq72, Fq72_0, Fq72_1, f75⟩
def Q1_3 (Z : State) (r0 : Addr) (kk : ClassId) (dv : Value) (x y z : Nat) (h0 : Heap) (n0 : Nat) (v : Option Value) (h : Heap) (L : List Loc) : Prop := ∃ (b t : Addr) (k : ClassId) (ln : Nat), ln ≤ 8 ∧ (∀ i, ln ≤ i → (own_or (own_or (own_or own_f0 x) y) z) i = 0) ∧ x / 64 < ln ∧ y / 64 < ln ∧ z / 64 < ln ∧ v = some (.ref b) ∧ Fr n0 L ∧ Keep h0 h [] ∧ n0 ≤ b ∧ Exa Z h b "com/example/emex/emex/explain/Positions" ∧ Fld Z h b "com/example/emex/emex/explain/Positions" "words" "[J" (.ref t) ∧ Fld Z h b "com/example/emex/emex/explain/Positions" "size" "I" (.int (own_cnt (own_or (own_or (own_or own_f0 x) y) z) ln)) ∧ Arv Z h t k .long (Int32.ofNat ln) (own_l8 (own_or (own_or (own_or own_f0 x) y) z)) (.long (0 : Int64))
set_option maxRecDepth 65536 in
set_option maxHeartbeats 40000000 in
theorem rm1_3 (l : Launch) (Z : State) (a0 : Array Value) (hw : ∀ d ∈ tables_1, d.before a0 Z = true) (ws : List Jvm.Cond) (r0 : Addr) (kk : ClassId) (dv : Value) (x y z : Nat) (h0 : Heap) (n0 : Nat) (Z0 : n0 ≤ h0.size) (V : Arv Z h0 r0 kk .int (3 : Int32) [(.int (Int32.ofNat x)), (.int (Int32.ofNat y)), (.int (Int32.ofNat z))] dv) (hx : x < 512) (hy : y < 512) (hz : z < 512) :
    MetFree l (⟨"com/example/emex/emex/explain/Positions", "of", "([I)Lcom/example/emex/emex/explain/Positions;"⟩ : MethodName) (head1 (Jvm.Cond.code (⟨"com/example/emex/emex/explain/Positions", "of", "([I)Lcom/example/emex/emex/explain/Positions;"⟩ : MethodName) prog_13_method_3_code 7 (some (.object "com/example/emex/emex/explain/Positions")) :: ws) ({ frames := 2, cells := 5, slots := 26, locals := 78 } : Room)) (fun a U => a = #[(.ref r0)] ∧ Z.Warmed39 U.vm ∧ U.heap = h0) (fun _ _ _ _ _ => True) (fun _ U o U' => ∃ v L, o = .returned v ∧ Q1_3 Z r0 kk dv x y z h0 n0 v U'.heap L ∧ FrameEnd U o U' L ({ frames := 2, cells := 5, slots := 26, locals := 78 } : Room).cells ({ frames := 2, cells := 5, slots := 26, locals := 78 } : Room).slots) := by
  refine MetFree.of_bodySF (plainFor_of_name pn_1) hisR ?_
  intro p e s m args below meth c s₁ Bd hml0 hP hK
  obtain ⟨rfl, hZ, hh⟩ := hP
  have hx := Bd.exec
  have hby := Bd.bytes
  have hml : c.maxLocals = 7 := hml0
  have hown : s.vm.findClass "com/example/emex/emex/explain/Positions" = some m.cls := findClass_of_methodNamed Bd.named
  have hnm := (name_of_methodNamed Bd.named Bd.method).1
  have X0 : Stand p l e ({ frames := 2, cells := 5, slots := 26, locals := 78 } : Room) s m #[(.ref r0)] below meth c s₁ [] 0 0 := Stand.of_body Bd
  have e0 : s₁.heap = h0 := by rw [← hh, Bd.state]; rfl
  have N0 := Fr.nil n0
  have pre0 : ∀ t, Steps p.tables e below (s₁.setTop (mkF m 0 #[.val (.ref r0), .unset, .unset, .unset, .unset, .unset, .unset] [])) t → Steps p.tables e below (s₁.setTop (entryFrame m #[(.ref r0)] 7)) t := fun t k => castTop (ef_1 m r0) k
  have c2 : ∀ t, Steps p.tables e below (s₁.setTop (mkF m 1 #[.val (.ref r0), .unset, .unset, .unset, .unset, .unset, .unset] [(.int (0 : Int32))])) t → Steps p.tables e below (s₁.setTop (mkF m 0 #[.val (.ref r0), .unset, .unset, .unset, .unset, .unset, .unset] [])) t := by
    intro t kt
    show Steps p.tables e below (s₁.setTop (mkF m 0 #[.val (.ref r0), .unset, .unset, .unset, .unset, .unset, .unset] [])) _
    refine XS.iconst X0.here hx rfl (hb hby d1_0) ?_
    exact kt
  obtain ⟨T1, h1, k1, X1, e1, E1, A1, st1⟩ := newP X0 hx hZ (hw _ (List.mem_of_getElem? (i := 5) rfl)) e0 (g := (mkF m 1 #[.val (.ref r0), .unset, .unset, .unset, .unset, .unset, .unset] [(.int (0 : Int32))])) rfl (hb hby d1_1) rfl (by decide) (cap := 0) (by decide) (by decide) (by decide) (by decide)
  obtain ⟨b1, g1⟩ : ∃ z, z = h0.size := ⟨_, rfl⟩
  rw [← g1] at A1 st1
  have g_b1 : n0 ≤ b1 := Nat.le_trans Z0 (Nat.le_of_eq g1.symm)
  have sz_b1 : h0.size ≤ b1 := Nat.le_trans (Keep.refl h0 []).1 (Nat.le_of_eq g1.symm)
  have lt_r0_1 := V.lt
  have V1 : Arv Z h1 b1 k1 .long (0 : Int32) [] (.long (0 : Int64)) := (Arv.new A1 (by decide)).pad (pad_rep [] (.long (0 : Int64)) 0)
  have c3 : ∀ t, Steps p.tables e below (T1.setTop (mkF m 4 #[.val (.ref r0), .val (.ref b1), .unset, .unset, .unset, .unset, .unset] [])) t → Steps p.tables e below (T1.setTop (mkF m 3 #[.val (.ref r0), .unset, .unset, .unset, .unset, .unset, .unset] [(.ref b1)])) t := by
    intro t kt
    show Steps p.tables e below (T1.setTop (mkF m 3 #[.val (.ref r0), .unset, .unset, .unset, .unset, .unset, .unset] [(.ref b1)])) _
    refine XS.astoreN X1.here hx rfl (hb hby d1_3) rfl rfl (l' := #[.val (.ref r0), .val (.ref b1), .unset, .unset, .unset, .unset, .unset]) rfl ?_
    exact kt
  have VP4 : Arv Z h1 b1 k1 .long (Int32.ofNat 0) (own_l8 own_f0) (.long (0 : Int64)) := Arv.pad V1 (fun i => by by_cases h : i < 8; rw [own_at8 own_f0 i h]; rfl; rw [List.getD_eq_getElem?_getD, List.getElem?_eq_none (by simp [own_l8]; omega)]; rfl)
  have hz0 : ∀ i, 0 ≤ i → own_f0 i = 0 := fun _ _ => rfl
  have hl80 : 0 ≤ 8 := by decide
  have hla0 : (0 : Nat) = 0 ∨ own_f0 (0 - 1) ≠ 0 := Or.inl rfl
  have f5 := (V.ext E1)
  have Vc6 := f5
  obtain ⟨cl6, Ar6, qk6, S6, M6, H6, G6⟩ := Vc6
  have Vc7 := f5
  obtain ⟨cl7, Ar7, qk7, S7, M7, H7, G7⟩ := Vc7
  have hin7 : ¬ ((0 : Int32) < 0 ∨ cl7.slots.size ≤ ((0 : Int32)).toNatClampNeg) := inb_of S7 ⟨by decide, by decide⟩
  have hat7 : cl7.slots[((0 : Int32)).toNatClampNeg]? = some (.int (Int32.ofNat x)) := H7.at hin7 rfl
  have c8 : ∀ t, Steps p.tables e below (T1.setTop (mkF m 31 #[.val (.ref r0), .val (.ref b1), .val (.ref r0), .val (.int (3 : Int32)), .val (.int (0 : Int32)), .val (.int (Int32.ofNat x)), .val (.int (((Int32.ofNat x).toUInt32 >>> ((6 : Int32) &&& 31).toUInt32).toInt32))] [])) t → Steps p.tables e below (T1.setTop (mkF m 4 #[.val (.ref r0), .val (.ref b1), .unset, .unset, .unset, .unset, .unset] [])) t := by
    intro t kt
    show Steps p.tables e below (T1.setTop (mkF m 4 #[.val (.ref r0), .val (.ref b1), .unset, .unset, .unset, .unset, .unset] [])) _
    refine XS.aloadN X1.here hx rfl (hb hby d1_4) rfl rfl ?_
    show Steps p.tables e below (T1.setTop (mkF m 5 #[.val (.ref r0), .val (.ref b1), .unset, .unset, .unset, .unset, .unset] [(.ref r0)])) _
    refine XS.astoreN X1.here hx rfl (hb hby d1_5) rfl rfl (l' := #[.val (.ref r0), .val (.ref b1), .val (.ref r0), .unset, .unset, .unset, .unset]) rfl ?_
    show Steps p.tables e below (T1.setTop (mkF m 6 #[.val (.ref r0), .val (.ref b1), .val (.ref r0), .unset, .unset, .unset, .unset] [])) _
    refine XS.aloadN X1.here hx rfl (hb hby d1_6) rfl rfl ?_
    show Steps p.tables e below (T1.setTop (mkF m 7 #[.val (.ref r0), .val (.ref b1), .val (.ref r0), .unset, .unset, .unset, .unset] [(.ref r0)])) _
    refine X1.arraylength hx (by rw [e1]; exact Ar6.1) (State.isArrayOf_alike hZ.alike Ar6.2.1) (g := (mkF m 7 #[.val (.ref r0), .val (.ref b1), .val (.ref r0), .unset, .unset, .unset, .unset] [(.ref r0)])) rfl rfl (hb hby d1_7) _ ?_
    rw [len_of S6 M6]
    show Steps p.tables e below (T1.setTop (mkF m 8 #[.val (.ref r0), .val (.ref b1), .val (.ref r0), .unset, .unset, .unset, .unset] [(.int (3 : Int32))])) _
    refine XS.istoreN X1.here hx rfl (hb hby d1_8) rfl (l' := #[.val (.ref r0), .val (.ref b1), .val (.ref r0), .val (.int (3 : Int32)), .unset, .unset, .unset]) rfl ?_
    show Steps p.tables e below (T1.setTop (mkF m 9 #[.val (.ref r0), .val (.ref b1), .val (.ref r0), .val (.int (3 : Int32)), .unset, .unset, .unset] [])) _
    refine XS.iconst X1.here hx rfl (hb hby d1_9) ?_
    show Steps p.tables e below (T1.setTop (mkF m 10 #[.val (.ref r0), .val (.ref b1), .val (.ref r0), .val (.int (3 : Int32)), .unset, .unset, .unset] [(.int (0 : Int32))])) _
    refine XS.istore X1.here hx rfl (hb hby d1_10) rfl (l' := #[.val (.ref r0), .val (.ref b1), .val (.ref r0), .val (.int (3 : Int32)), .val (.int (0 : Int32)), .unset, .unset]) rfl ?_
    show Steps p.tables e below (T1.setTop (mkF m 12 #[.val (.ref r0), .val (.ref b1), .val (.ref r0), .val (.int (3 : Int32)), .val (.int (0 : Int32)), .unset, .unset] [])) _
    refine XS.iload X1.here hx rfl (hb hby d1_12) rfl ?_
    show Steps p.tables e below (T1.setTop (mkF m 14 #[.val (.ref r0), .val (.ref b1), .val (.ref r0), .val (.int (3 : Int32)), .val (.int (0 : Int32)), .unset, .unset] [(.int (0 : Int32))])) _
    refine XS.iloadN X1.here hx rfl (hb hby d1_14) rfl ?_
    show Steps p.tables e below (T1.setTop (mkF m 15 #[.val (.ref r0), .val (.ref b1), .val (.ref r0), .val (.int (3 : Int32)), .val (.int (0 : Int32)), .unset, .unset] [(.int (3 : Int32)), (.int (0 : Int32))])) _
    refine XS.icmpNo X1.here hx rfl (hb hby d1_15) rfl (tlt (by decide : (0 : Int32) < (3 : Int32))).2.1 ?_
    show Steps p.tables e below (T1.setTop (mkF m 18 #[.val (.ref r0), .val (.ref b1), .val (.ref r0), .val (.int (3 : Int32)), .val (.int (0 : Int32)), .unset, .unset] [])) _
    refine XS.aloadN X1.here hx rfl (hb hby d1_18) rfl rfl ?_
    show Steps p.tables e below (T1.setTop (mkF m 19 #[.val (.ref r0), .val (.ref b1), .val (.ref r0), .val (.int (3 : Int32)), .val (.int (0 : Int32)), .unset, .unset] [(.ref r0)])) _
    refine XS.iload X1.here hx rfl (hb hby d1_19) rfl ?_
    show Steps p.tables e below (T1.setTop (mkF m 21 #[.val (.ref r0), .val (.ref b1), .val (.ref r0), .val (.int (3 : Int32)), .val (.int (0 : Int32)), .unset, .unset] [(.int (0 : Int32)), (.ref r0)])) _
    refine X1.iaload hx (j := (0 : Int32)) (v := (.int (Int32.ofNat x))) (by rw [e1]; exact Ar7.1) (State.isArrayOf_alike hZ.alike Ar7.2.1) Ar7.2.2 hin7 hat7 (g := (mkF m 21 #[.val (.ref r0), .val (.ref b1), .val (.ref r0), .val (.int (3 : Int32)), .val (.int (0 : Int32)), .unset, .unset] [(.int (0 : Int32)), (.ref r0)])) rfl rfl (hb hby d1_21) _ ?_
    show Steps p.tables e below (T1.setTop (mkF m 22 #[.val (.ref r0), .val (.ref b1), .val (.ref r0), .val (.int (3 : Int32)), .val (.int (0 : Int32)), .unset, .unset] [(.int (Int32.ofNat x))])) _
    refine XS.istore X1.here hx rfl (hb hby d1_22) rfl (l' := #[.val (.ref r0), .val (.ref b1), .val (.ref r0), .val (.int (3 : Int32)), .val (.int (0 : Int32)), .val (.int (Int32.ofNat x)), .unset]) rfl ?_
    show Steps p.tables e below (T1.setTop (mkF m 24 #[.val (.ref r0), .val (.ref b1), .val (.ref r0), .val (.int (3 : Int32)), .val (.int (0 : Int32)), .val (.int (Int32.ofNat x)), .unset] [])) _
    refine XS.iload X1.here hx rfl (hb hby d1_24) rfl ?_
    show Steps p.tables e below (T1.setTop (mkF m 26 #[.val (.ref r0), .val (.ref b1), .val (.ref r0), .val (.int (3 : Int32)), .val (.int (0 : Int32)), .val (.int (Int32.ofNat x)), .unset] [(.int (Int32.ofNat x))])) _
    refine XS.bipush X1.here hx rfl (hb hby d1_26) ?_
    show Steps p.tables e below (T1.setTop (mkF m 28 #[.val (.ref r0), .val (.ref b1), .val (.ref r0), .val (.int (3 : Int32)), .val (.int (0 : Int32)), .val (.int (Int32.ofNat x)), .unset] [(.int (6 : Int32)), (.int (Int32.ofNat x))])) _
    refine XS.iushr X1.here hx rfl (hb hby d1_28) rfl ?_
    show Steps p.tables e below (T1.setTop (mkF m 29 #[.val (.ref r0), .val (.ref b1), .val (.ref r0), .val (.int (3 : Int32)), .val (.int (0 : Int32)), .val (.int (Int32.ofNat x)), .unset] [(.int (((Int32.ofNat x).toUInt32 >>> ((6 : Int32) &&& 31).toUInt32).toInt32))])) _
    refine XS.istore X1.here hx rfl (hb hby d1_29) rfl (l' := #[.val (.ref r0), .val (.ref b1), .val (.ref r0), .val (.int (3 : Int32)), .val (.int (0 : Int32)), .val (.int (Int32.ofNat x)), .val (.int (((Int32.ofNat x).toUInt32 >>> ((6 : Int32) &&& 31).toUInt32).toInt32))]) rfl ?_
    exact kt
  have c9 : ∀ t, Steps p.tables e below (T1.setTop (mkF m 31 #[.val (.ref r0), .val (.ref b1), .val (.ref r0), .val (.int (3 : Int32)), .val (.int (0 : Int32)), .val (.int (Int32.ofNat x)), .val (.int (Int32.ofNat (x / 64)))] [])) t → Steps p.tables e below (T1.setTop (mkF m 31 #[.val (.ref r0), .val (.ref b1), .val (.ref r0), .val (.int (3 : Int32)), .val (.int (0 : Int32)), .val (.int (Int32.ofNat x)), .val (.int (((Int32.ofNat x).toUInt32 >>> ((6 : Int32) &&& 31).toUInt32).toInt32))] [])) t := fun t kt => castTop (congrArg (fun zv => (mkF m 31 #[.val (.ref r0), .val (.ref b1), .val (.ref r0), .val (.int (3 : Int32)), .val (.int (0 : Int32)), .val (.int (Int32.ofNat x)), .val (.int zv)] [])) (show (((Int32.ofNat x).toUInt32 >>> ((6 : Int32) &&& 31).toUInt32).toInt32) = (Int32.ofNat (x / 64)) from own_w6 x (by omega))) kt
  have Vc10 := VP4
  obtain ⟨cl10, Ar10, qk10, S10, M10, H10, G10⟩ := Vc10
  have c12 : ∀ t, Steps p.tables e below (T1.setTop (mkF m 35 #[.val (.ref r0), .val (.ref b1), .val (.ref r0), .val (.int (3 : Int32)), .val (.int (0 : Int32)), .val (.int (Int32.ofNat x)), .val (.int (Int32.ofNat (x / 64)))] [(.int (Int32.ofNat 0)), (.int (Int32.ofNat (x / 64)))])) t → Steps p.tables e below (T1.setTop (mkF m 31 #[.val (.ref r0), .val (.ref b1), .val (.ref r0), .val (.int (3 : Int32)), .val (.int (0 : Int32)), .val (.int (Int32.ofNat x)), .val (.int (Int32.ofNat (x / 64)))] [])) t := by
    intro t kt
    show Steps p.tables e below (T1.setTop (mkF m 31 #[.val (.ref r0), .val (.ref b1), .val (.ref r0), .val (.int (3 : Int32)), .val (.int (0 : Int32)), .val (.int (Int32.ofNat x)), .val (.int (Int32.ofNat (x / 64)))] [])) _
    refine XS.iload X1.here hx rfl (hb hby d1_31) rfl ?_
    show Steps p.tables e below (T1.setTop (mkF m 33 #[.val (.ref r0), .val (.ref b1), .val (.ref r0), .val (.int (3 : Int32)), .val (.int (0 : Int32)), .val (.int (Int32.ofNat x)), .val (.int (Int32.ofNat (x / 64)))] [(.int (Int32.ofNat (x / 64)))])) _
    refine XS.aloadN X1.here hx rfl (hb hby d1_33) rfl rfl ?_
    show Steps p.tables e below (T1.setTop (mkF m 34 #[.val (.ref r0), .val (.ref b1), .val (.ref r0), .val (.int (3 : Int32)), .val (.int (0 : Int32)), .val (.int (Int32.ofNat x)), .val (.int (Int32.ofNat (x / 64)))] [(.ref b1), (.int (Int32.ofNat (x / 64)))])) _
    refine X1.arraylength hx (by rw [e1]; exact Ar10.1) (State.isArrayOf_alike hZ.alike Ar10.2.1) (g := (mkF m 34 #[.val (.ref r0), .val (.ref b1), .val (.ref r0), .val (.int (3 : Int32)), .val (.int (0 : Int32)), .val (.int (Int32.ofNat x)), .val (.int (Int32.ofNat (x / 64)))] [(.ref b1), (.int (Int32.ofNat (x / 64)))])) rfl rfl (hb hby d1_34) _ ?_
    rw [len_of S10 M10]
    exact kt
  have hd11 : ¬ ((Int32.ofNat (x / 64)) < (Int32.ofNat 0)) := by rw [own_lt _ _ (by omega) (by omega)]; omega
  have c13 : ∀ t, Steps p.tables e below (T1.setTop (mkF m 43 #[.val (.ref r0), .val (.ref b1), .val (.ref r0), .val (.int (3 : Int32)), .val (.int (0 : Int32)), .val (.int (Int32.ofNat x)), .val (.int (Int32.ofNat (x / 64)))] [(.int ((Int32.ofNat (x / 64)) + (1 : Int32))), (.ref b1)])) t → Steps p.tables e below (T1.setTop (mkF m 35 #[.val (.ref r0), .val (.ref b1), .val (.ref r0), .val (.int (3 : Int32)), .val (.int (0 : Int32)), .val (.int (Int32.ofNat x)), .val (.int (Int32.ofNat (x / 64)))] [(.int (Int32.ofNat 0)), (.int (Int32.ofNat (x / 64)))])) t := by
    intro t kt
    show Steps p.tables e below (T1.setTop (mkF m 35 #[.val (.ref r0), .val (.ref b1), .val (.ref r0), .val (.int (3 : Int32)), .val (.int (0 : Int32)), .val (.int (Int32.ofNat x)), .val (.int (Int32.ofNat (x / 64)))] [(.int (Int32.ofNat 0)), (.int (Int32.ofNat (x / 64)))])) _
    refine XS.icmpNo X1.here hx rfl (hb hby d1_35) rfl (flt (hd11)).1 ?_
    show Steps p.tables e below (T1.setTop (mkF m 38 #[.val (.ref r0), .val (.ref b1), .val (.ref r0), .val (.int (3 : Int32)), .val (.int (0 : Int32)), .val (.int (Int32.ofNat x)), .val (.int (Int32.ofNat (x / 64)))] [])) _
    refine XS.aloadN X1.here hx rfl (hb hby d1_38) rfl rfl ?_
    show Steps p.tables e below (T1.setTop (mkF m 39 #[.val (.ref r0), .val (.ref b1), .val (.ref r0), .val (.int (3 : Int32)), .val (.int (0 : Int32)), .val (.int (Int32.ofNat x)), .val (.int (Int32.ofNat (x / 64)))] [(.ref b1)])) _
    refine XS.iload X1.here hx rfl (hb hby d1_39) rfl ?_
    show Steps p.tables e below (T1.setTop (mkF m 41 #[.val (.ref r0), .val (.ref b1), .val (.ref r0), .val (.int (3 : Int32)), .val (.int (0 : Int32)), .val (.int (Int32.ofNat x)), .val (.int (Int32.ofNat (x / 64)))] [(.int (Int32.ofNat (x / 64))), (.ref b1)])) _
    refine XS.iconst X1.here hx rfl (hb hby d1_41) ?_
    show Steps p.tables e below (T1.setTop (mkF m 42 #[.val (.ref r0), .val (.ref b1), .val (.ref r0), .val (.int (3 : Int32)), .val (.int (0 : Int32)), .val (.int (Int32.ofNat x)), .val (.int (Int32.ofNat (x / 64)))] [(.int (1 : Int32)), (.int (Int32.ofNat (x / 64))), (.ref b1)])) _
    refine XS.iadd X1.here hx rfl (hb hby d1_42) rfl ?_
    exact kt
  have c14 : ∀ t, Steps p.tables e below (T1.setTop (mkF m 43 #[.val (.ref r0), .val (.ref b1), .val (.ref r0), .val (.int (3 : Int32)), .val (.int (0 : Int32)), .val (.int (Int32.ofNat x)), .val (.int (Int32.ofNat (x / 64)))] [(.int (Int32.ofNat (x / 64 + 1))), (.ref b1)])) t → Steps p.tables e below (T1.setTop (mkF m 43 #[.val (.ref r0), .val (.ref b1), .val (.ref r0), .val (.int (3 : Int32)), .val (.int (0 : Int32)), .val (.int (Int32.ofNat x)), .val (.int (Int32.ofNat (x / 64)))] [(.int ((Int32.ofNat (x / 64)) + (1 : Int32))), (.ref b1)])) t := fun t kt => castTop (congrArg (fun zv => (mkF m 43 #[.val (.ref r0), .val (.ref b1), .val (.ref r0), .val (.int (3 : Int32)), .val (.int (0 : Int32)), .val (.int (Int32.ofNat x)), .val (.int (Int32.ofNat (x / 64)))] [(.int zv), (.ref b1)])) (show ((Int32.ofNat (x / 64)) + (1 : Int32)) = (Int32.ofNat (x / 64 + 1)) from own_up _ (by omega))) kt
  have hl815 : x / 64 + 1 ≤ 8 := by omega
  have hzg15 : ∀ i, x / 64 + 1 ≤ i → own_f0 i = 0 := fun i hi => hz0 i (by omega)
  have f16 := (Nat.le_trans Z0 E1.1)
  obtain ⟨_, _, ⟨T17, L17, k17, n17⟩, -, X17, ⟨Lc17, hQ17, l17, y17, z17⟩, st17⟩ := Jvm.LawKit.callS X1 hx (y := (⟨"java/util/Arrays", "copyOf", "([JI)[J"⟩ : MethodName)) hown (mvT hZ (hw _ (List.mem_of_getElem? (i := 6) rfl))) (mvT hZ (hw _ (List.mem_of_getElem? (i := 7) rfl))) (mvT hZ (hw _ (List.mem_of_getElem? (i := 8) rfl))) (mvT hZ (hw _ (List.mem_of_getElem? (i := 9) rfl))) (by decide) (backOf (W := 0) (rm2 l Z a0 hw []  b1 (x / 64 + 1) k1 0 own_f0 h1 n0 f16 VP4 (by omega) (by omega) hl80 hz0) hZ (hw _ (List.mem_of_getElem? (i := 9) rfl)) (hw _ (List.mem_of_getElem? (i := 8) rfl)) (by decide) (by decide)) (g := (mkF m 43 #[.val (.ref r0), .val (.ref b1), .val (.ref r0), .val (.int (3 : Int32)), .val (.int (0 : Int32)), .val (.int (Int32.ofNat x)), .val (.int (Int32.ofNat (x / 64)))] [(.int (Int32.ofNat (x / 64 + 1))), (.ref b1)])) rfl (by rw [hml]; rfl) (argsL := [(.ref b1), (.int (Int32.ofNat (x / 64 + 1)))]) (rest := []) (lenOf pd_3 rfl) rfl (by show 2 * 0 + _ ≤ _; exact Nat.le_of_eq rfl) (hb hby d1_43) (fun _ _ => ⟨rfl, e1, (by decide : 1 + 1 ≤ _), (by decide : 0 + 8 ≤ _)⟩)
  dsimp only [Pt.U, Pt.locs, Pt.cells, Pt.slots] at X17 l17 y17 z17 st17 hQ17
  subst l17 y17 z17
  obtain ⟨ob17, kk17, rfl, N17q, Kq17, g_ob17, szq17, Vq17⟩ := hQ17
  have N17 := Fr.app N0 N17q
  have lt_r0_17 := f5.lt
  have lt_b1_17 := VP4.lt
  have f18 := ((Keep.refl h0 []).ext E1)
  have sz_ob17 : h0.size ≤ ob17 := Nat.le_trans f18.1 szq17
  have Vc19 := Vq17
  obtain ⟨cl19, Ar19, qk19, S19, M19, H19, G19⟩ := Vc19
  have hin19 : ¬ ((Int32.ofNat (x / 64)) < 0 ∨ cl19.slots.size ≤ ((Int32.ofNat (x / 64))).toNatClampNeg) := inb_of S19 (own_in (x / 64) (x / 64 + 1) (by omega) hl815)
  have hat19 : cl19.slots[((Int32.ofNat (x / 64))).toNatClampNeg]? = some (.long (own_f0 (x / 64))) := H19.at hin19 (own_at8' own_f0 (x / 64) (by omega) _)
  have c20 : ∀ t, Steps p.tables e below (T17.setTop (mkF m 57 #[.val (.ref r0), .val (.ref ob17), .val (.ref r0), .val (.int (3 : Int32)), .val (.int (0 : Int32)), .val (.int (Int32.ofNat x)), .val (.int (Int32.ofNat (x / 64)))] [(.long ((own_f0 (x / 64)) ||| ((1 : Int64) <<< ((Int32.ofNat x) &&& 0x3f).toInt64))), (.int (Int32.ofNat (x / 64))), (.ref ob17)])) t → Steps p.tables e below (T17.setTop (mkF m 46 #[.val (.ref r0), .val (.ref b1), .val (.ref r0), .val (.int (3 : Int32)), .val (.int (0 : Int32)), .val (.int (Int32.ofNat x)), .val (.int (Int32.ofNat (x / 64)))] [(.ref ob17)])) t := by
    intro t kt
    show Steps p.tables e below (T17.setTop (mkF m 46 #[.val (.ref r0), .val (.ref b1), .val (.ref r0), .val (.int (3 : Int32)), .val (.int (0 : Int32)), .val (.int (Int32.ofNat x)), .val (.int (Int32.ofNat (x / 64)))] [(.ref ob17)])) _
    refine XS.astoreN X17.here hx rfl (hb hby d1_46) rfl rfl (l' := #[.val (.ref r0), .val (.ref ob17), .val (.ref r0), .val (.int (3 : Int32)), .val (.int (0 : Int32)), .val (.int (Int32.ofNat x)), .val (.int (Int32.ofNat (x / 64)))]) rfl ?_
    show Steps p.tables e below (T17.setTop (mkF m 47 #[.val (.ref r0), .val (.ref ob17), .val (.ref r0), .val (.int (3 : Int32)), .val (.int (0 : Int32)), .val (.int (Int32.ofNat x)), .val (.int (Int32.ofNat (x / 64)))] [])) _
    refine XS.aloadN X17.here hx rfl (hb hby d1_47) rfl rfl ?_
    show Steps p.tables e below (T17.setTop (mkF m 48 #[.val (.ref r0), .val (.ref ob17), .val (.ref r0), .val (.int (3 : Int32)), .val (.int (0 : Int32)), .val (.int (Int32.ofNat x)), .val (.int (Int32.ofNat (x / 64)))] [(.ref ob17)])) _
    refine XS.iload X17.here hx rfl (hb hby d1_48) rfl ?_
    show Steps p.tables e below (T17.setTop (mkF m 50 #[.val (.ref r0), .val (.ref ob17), .val (.ref r0), .val (.int (3 : Int32)), .val (.int (0 : Int32)), .val (.int (Int32.ofNat x)), .val (.int (Int32.ofNat (x / 64)))] [(.int (Int32.ofNat (x / 64))), (.ref ob17)])) _
    refine Jvm.Free.XT.dup2 X17.here hx rfl (hb hby d1_50) rfl rfl rfl ?_
    show Steps p.tables e below (T17.setTop (mkF m 51 #[.val (.ref r0), .val (.ref ob17), .val (.ref r0), .val (.int (3 : Int32)), .val (.int (0 : Int32)), .val (.int (Int32.ofNat x)), .val (.int (Int32.ofNat (x / 64)))] [(.int (Int32.ofNat (x / 64))), (.ref ob17), (.int (Int32.ofNat (x / 64))), (.ref ob17)])) _
    refine X17.laload hx (j := (Int32.ofNat (x / 64))) (v := (.long (own_f0 (x / 64)))) Ar19.1 (State.isArrayOf_alike hZ.alike Ar19.2.1) Ar19.2.2 hin19 hat19 (g := (mkF m 51 #[.val (.ref r0), .val (.ref ob17), .val (.ref r0), .val (.int (3 : Int32)), .val (.int (0 : Int32)), .val (.int (Int32.ofNat x)), .val (.int (Int32.ofNat (x / 64)))] [(.int (Int32.ofNat (x / 64))), (.ref ob17), (.int (Int32.ofNat (x / 64))), (.ref ob17)])) rfl rfl (hb hby d1_51) _ ?_
    show Steps p.tables e below (T17.setTop (mkF m 52 #[.val (.ref r0), .val (.ref ob17), .val (.ref r0), .val (.int (3 : Int32)), .val (.int (0 : Int32)), .val (.int (Int32.ofNat x)), .val (.int (Int32.ofNat (x / 64)))] [(.long (own_f0 (x / 64))), (.int (Int32.ofNat (x / 64))), (.ref ob17)])) _
    refine XS.lconst X17.here hx rfl (hb hby d1_52) ?_
    show Steps p.tables e below (T17.setTop (mkF m 53 #[.val (.ref r0), .val (.ref ob17), .val (.ref r0), .val (.int (3 : Int32)), .val (.int (0 : Int32)), .val (.int (Int32.ofNat x)), .val (.int (Int32.ofNat (x / 64)))] [(.long (1 : Int64)), (.long (own_f0 (x / 64))), (.int (Int32.ofNat (x / 64))), (.ref ob17)])) _
    refine XS.iload X17.here hx rfl (hb hby d1_53) rfl ?_
    show Steps p.tables e below (T17.setTop (mkF m 55 #[.val (.ref r0), .val (.ref ob17), .val (.ref r0), .val (.int (3 : Int32)), .val (.int (0 : Int32)), .val (.int (Int32.ofNat x)), .val (.int (Int32.ofNat (x / 64)))] [(.int (Int32.ofNat x)), (.long (1 : Int64)), (.long (own_f0 (x / 64))), (.int (Int32.ofNat (x / 64))), (.ref ob17)])) _
    refine XS.lshl X17.here hx rfl (hb hby d1_55) rfl ?_
    show Steps p.tables e below (T17.setTop (mkF m 56 #[.val (.ref r0), .val (.ref ob17), .val (.ref r0), .val (.int (3 : Int32)), .val (.int (0 : Int32)), .val (.int (Int32.ofNat x)), .val (.int (Int32.ofNat (x / 64)))] [(.long ((1 : Int64) <<< ((Int32.ofNat x) &&& 0x3f).toInt64)), (.long (own_f0 (x / 64))), (.int (Int32.ofNat (x / 64))), (.ref ob17)])) _
    refine XS.lor X17.here hx rfl (hb hby d1_56) rfl ?_
    exact kt
  have Vc21 := Vq17
  obtain ⟨cl21, Ar21, qk21, S21, M21, H21, G21⟩ := Vc21
  have hin21 : ¬ ((Int32.ofNat (x / 64)) < 0 ∨ cl21.slots.size ≤ ((Int32.ofNat (x / 64))).toNatClampNeg) := inb_of S21 (own_in (x / 64) (x / 64 + 1) (by omega) hl815)
  obtain ⟨T22, h22, X22, e22, W22, st22⟩ := stJ X17 hx hZ rfl Ar21 (j := (Int32.ofNat (x / 64))) hin21 (g := (mkF m 57 #[.val (.ref r0), .val (.ref ob17), .val (.ref r0), .val (.int (3 : Int32)), .val (.int (0 : Int32)), .val (.int (Int32.ofNat x)), .val (.int (Int32.ofNat (x / 64)))] [(.long ((own_f0 (x / 64)) ||| ((1 : Int64) <<< ((Int32.ofNat x) &&& 0x3f).toInt64))), (.int (Int32.ofNat (x / 64))), (.ref ob17)])) rfl rfl (hb hby d1_57)
  have V22 : Arv Z h22 ob17 kk17 .long (Int32.ofNat (x / 64 + 1)) (own_l8 (own_or own_f0 x)) (.long (0 : Int64)) := by have q := Arv.set Ar21 qk21 S21 M21 H21 G21 rfl W22 (x / 64) (own_clamp _ (by omega)) (by rw [own_len8]; omega); rw [show (own_l8 own_f0).set (x / 64) (.long ((own_f0 (x / 64)) ||| ((1 : Int64) <<< ((Int32.ofNat x) &&& 0x3f).toInt64))) = own_l8 (own_or own_f0 x) from own_set8 own_f0 x (by omega)] at q; exact q
  have hz22 : ∀ i, (x / 64 + 1) ≤ i → (own_or own_f0 x) i = 0 := own_orz own_f0 x (x / 64 + 1) (by omega) hzg15
  have hla22 : (x / 64 + 1) = 0 ∨ (own_or own_f0 x) ((x / 64 + 1) - 1) ≠ 0 := Or.inr (own_ornew own_f0 x (by omega))
  have N22 := Fr.snoc X22 N17 g_ob17
  have f23 := ((f5.keep Kq17 nin0).other W22 (Nat.ne_of_lt (Nat.lt_of_lt_of_le lt_r0_17 szq17)))
  have Vc24 := f23
  obtain ⟨cl24, Ar24, qk24, S24, M24, H24, G24⟩ := Vc24
  have hin24 : ¬ (((0 : Int32) + (1 : Int32)) < 0 ∨ cl24.slots.size ≤ (((0 : Int32) + (1 : Int32))).toNatClampNeg) := inb_of S24 ⟨by decide, by decide⟩
  have hat24 : cl24.slots[(((0 : Int32) + (1 : Int32))).toNatClampNeg]? = some (.int (Int32.ofNat y)) := H24.at hin24 rfl
  have c25 : ∀ t, Steps p.tables e below (T22.setTop (mkF m 31 #[.val (.ref r0), .val (.ref ob17), .val (.ref r0), .val (.int (3 : Int32)), .val (.int ((0 : Int32) + (1 : Int32))), .val (.int (Int32.ofNat y)), .val (.int (((Int32.ofNat y).toUInt32 >>> ((6 : Int32) &&& 31).toUInt32).toInt32))] [])) t → Steps p.tables e below (T22.setTop (mkF m 58 #[.val (.ref r0), .val (.ref ob17), .val (.ref r0), .val (.int (3 : Int32)), .val (.int (0 : Int32)), .val (.int (Int32.ofNat x)), .val (.int (Int32.ofNat (x / 64)))] [])) t := by
    intro t kt
    show Steps p.tables e below (T22.setTop (mkF m 58 #[.val (.ref r0), .val (.ref ob17), .val (.ref r0), .val (.int (3 : Int32)), .val (.int (0 : Int32)), .val (.int (Int32.ofNat x)), .val (.int (Int32.ofNat (x / 64)))] [])) _
    refine XS.iinc X22.here hx rfl (hb hby d1_58) rfl (l' := #[.val (.ref r0), .val (.ref ob17), .val (.ref r0), .val (.int (3 : Int32)), .val (.int ((0 : Int32) + (1 : Int32))), .val (.int (Int32.ofNat x)), .val (.int (Int32.ofNat (x / 64)))]) rfl ?_
    show Steps p.tables e below (T22.setTop (mkF m 61 #[.val (.ref r0), .val (.ref ob17), .val (.ref r0), .val (.int (3 : Int32)), .val (.int ((0 : Int32) + (1 : Int32))), .val (.int (Int32.ofNat x)), .val (.int (Int32.ofNat (x / 64)))] [])) _
    refine XS.goto X22.here hx rfl (pc0 := 61) (pc' := 12) rfl (hb hby d1_61) (by decide) (by decide) ?_
    show Steps p.tables e below (T22.setTop (mkF m 12 #[.val (.ref r0), .val (.ref ob17), .val (.ref r0), .val (.int (3 : Int32)), .val (.int ((0 : Int32) + (1 : Int32))), .val (.int (Int32.ofNat x)), .val (.int (Int32.ofNat (x / 64)))] [])) _
    refine XS.iload X22.here hx rfl (hb hby d1_12) rfl ?_
    show Steps p.tables e below (T22.setTop (mkF m 14 #[.val (.ref r0), .val (.ref ob17), .val (.ref r0), .val (.int (3 : Int32)), .val (.int ((0 : Int32) + (1 : Int32))), .val (.int (Int32.ofNat x)), .val (.int (Int32.ofNat (x / 64)))] [(.int ((0 : Int32) + (1 : Int32)))])) _
    refine XS.iloadN X22.here hx rfl (hb hby d1_14) rfl ?_
    show Steps p.tables e below (T22.setTop (mkF m 15 #[.val (.ref r0), .val (.ref ob17), .val (.ref r0), .val (.int (3 : Int32)), .val (.int ((0 : Int32) + (1 : Int32))), .val (.int (Int32.ofNat x)), .val (.int (Int32.ofNat (x / 64)))] [(.int (3 : Int32)), (.int ((0 : Int32) + (1 : Int32)))])) _
    refine XS.icmpNo X22.here hx rfl (hb hby d1_15) rfl (tlt (by decide : ((0 : Int32) + (1 : Int32)) < (3 : Int32))).2.1 ?_
    show Steps p.tables e below (T22.setTop (mkF m 18 #[.val (.ref r0), .val (.ref ob17), .val (.ref r0), .val (.int (3 : Int32)), .val (.int ((0 : Int32) + (1 : Int32))), .val (.int (Int32.ofNat x)), .val (.int (Int32.ofNat (x / 64)))] [])) _
    refine XS.aloadN X22.here hx rfl (hb hby d1_18) rfl rfl ?_
    show Steps p.tables e below (T22.setTop (mkF m 19 #[.val (.ref r0), .val (.ref ob17), .val (.ref r0), .val (.int (3 : Int32)), .val (.int ((0 : Int32) + (1 : Int32))), .val (.int (Int32.ofNat x)), .val (.int (Int32.ofNat (x / 64)))] [(.ref r0)])) _
    refine XS.iload X22.here hx rfl (hb hby d1_19) rfl ?_
    show Steps p.tables e below (T22.setTop (mkF m 21 #[.val (.ref r0), .val (.ref ob17), .val (.ref r0), .val (.int (3 : Int32)), .val (.int ((0 : Int32) + (1 : Int32))), .val (.int (Int32.ofNat x)), .val (.int (Int32.ofNat (x / 64)))] [(.int ((0 : Int32) + (1 : Int32))), (.ref r0)])) _
    refine X22.iaload hx (j := ((0 : Int32) + (1 : Int32))) (v := (.int (Int32.ofNat y))) (by rw [e22]; exact Ar24.1) (State.isArrayOf_alike hZ.alike Ar24.2.1) Ar24.2.2 hin24 hat24 (g := (mkF m 21 #[.val (.ref r0), .val (.ref ob17), .val (.ref r0), .val (.int (3 : Int32)), .val (.int ((0 : Int32) + (1 : Int32))), .val (.int (Int32.ofNat x)), .val (.int (Int32.ofNat (x / 64)))] [(.int ((0 : Int32) + (1 : Int32))), (.ref r0)])) rfl rfl (hb hby d1_21) _ ?_
    show Steps p.tables e below (T22.setTop (mkF m 22 #[.val (.ref r0), .val (.ref ob17), .val (.ref r0), .val (.int (3 : Int32)), .val (.int ((0 : Int32) + (1 : Int32))), .val (.int (Int32.ofNat x)), .val (.int (Int32.ofNat (x / 64)))] [(.int (Int32.ofNat y))])) _
    refine XS.istore X22.here hx rfl (hb hby d1_22) rfl (l' := #[.val (.ref r0), .val (.ref ob17), .val (.ref r0), .val (.int (3 : Int32)), .val (.int ((0 : Int32) + (1 : Int32))), .val (.int (Int32.ofNat y)), .val (.int (Int32.ofNat (x / 64)))]) rfl ?_
    show Steps p.tables e below (T22.setTop (mkF m 24 #[.val (.ref r0), .val (.ref ob17), .val (.ref r0), .val (.int (3 : Int32)), .val (.int ((0 : Int32) + (1 : Int32))), .val (.int (Int32.ofNat y)), .val (.int (Int32.ofNat (x / 64)))] [])) _
    refine XS.iload X22.here hx rfl (hb hby d1_24) rfl ?_
    show Steps p.tables e below (T22.setTop (mkF m 26 #[.val (.ref r0), .val (.ref ob17), .val (.ref r0), .val (.int (3 : Int32)), .val (.int ((0 : Int32) + (1 : Int32))), .val (.int (Int32.ofNat y)), .val (.int (Int32.ofNat (x / 64)))] [(.int (Int32.ofNat y))])) _
    refine XS.bipush X22.here hx rfl (hb hby d1_26) ?_
    show Steps p.tables e below (T22.setTop (mkF m 28 #[.val (.ref r0), .val (.ref ob17), .val (.ref r0), .val (.int (3 : Int32)), .val (.int ((0 : Int32) + (1 : Int32))), .val (.int (Int32.ofNat y)), .val (.int (Int32.ofNat (x / 64)))] [(.int (6 : Int32)), (.int (Int32.ofNat y))])) _
    refine XS.iushr X22.here hx rfl (hb hby d1_28) rfl ?_
    show Steps p.tables e below (T22.setTop (mkF m 29 #[.val (.ref r0), .val (.ref ob17), .val (.ref r0), .val (.int (3 : Int32)), .val (.int ((0 : Int32) + (1 : Int32))), .val (.int (Int32.ofNat y)), .val (.int (Int32.ofNat (x / 64)))] [(.int (((Int32.ofNat y).toUInt32 >>> ((6 : Int32) &&& 31).toUInt32).toInt32))])) _
    refine XS.istore X22.here hx rfl (hb hby d1_29) rfl (l' := #[.val (.ref r0), .val (.ref ob17), .val (.ref r0), .val (.int (3 : Int32)), .val (.int ((0 : Int32) + (1 : Int32))), .val (.int (Int32.ofNat y)), .val (.int (((Int32.ofNat y).toUInt32 >>> ((6 : Int32) &&& 31).toUInt32).toInt32))]) rfl ?_
    exact kt
  have c26 : ∀ t, Steps p.tables e below (T22.setTop (mkF m 31 #[.val (.ref r0), .val (.ref ob17), .val (.ref r0), .val (.int (3 : Int32)), .val (.int ((0 : Int32) + (1 : Int32))), .val (.int (Int32.ofNat y)), .val (.int (Int32.ofNat (y / 64)))] [])) t → Steps p.tables e below (T22.setTop (mkF m 31 #[.val (.ref r0), .val (.ref ob17), .val (.ref r0), .val (.int (3 : Int32)), .val (.int ((0 : Int32) + (1 : Int32))), .val (.int (Int32.ofNat y)), .val (.int (((Int32.ofNat y).toUInt32 >>> ((6 : Int32) &&& 31).toUInt32).toInt32))] [])) t := fun t kt => castTop (congrArg (fun zv => (mkF m 31 #[.val (.ref r0), .val (.ref ob17), .val (.ref r0), .val (.int (3 : Int32)), .val (.int ((0 : Int32) + (1 : Int32))), .val (.int (Int32.ofNat y)), .val (.int zv)] [])) (show (((Int32.ofNat y).toUInt32 >>> ((6 : Int32) &&& 31).toUInt32).toInt32) = (Int32.ofNat (y / 64)) from own_w6 y (by omega))) kt
  by_cases hg27 : y / 64 < (x / 64 + 1)
  · skip
    have Vc28 := V22
    obtain ⟨cl28, Ar28, qk28, S28, M28, H28, G28⟩ := Vc28
    have c30 : ∀ t, Steps p.tables e below (T22.setTop (mkF m 35 #[.val (.ref r0), .val (.ref ob17), .val (.ref r0), .val (.int (3 : Int32)), .val (.int ((0 : Int32) + (1 : Int32))), .val (.int (Int32.ofNat y)), .val (.int (Int32.ofNat (y / 64)))] [(.int (Int32.ofNat (x / 64 + 1))), (.int (Int32.ofNat (y / 64)))])) t → Steps p.tables e below (T22.setTop (mkF m 31 #[.val (.ref r0), .val (.ref ob17), .val (.ref r0), .val (.int (3 : Int32)), .val (.int ((0 : Int32) + (1 : Int32))), .val (.int (Int32.ofNat y)), .val (.int (Int32.ofNat (y / 64)))] [])) t := by
      intro t kt
      show Steps p.tables e below (T22.setTop (mkF m 31 #[.val (.ref r0), .val (.ref ob17), .val (.ref r0), .val (.int (3 : Int32)), .val (.int ((0 : Int32) + (1 : Int32))), .val (.int (Int32.ofNat y)), .val (.int (Int32.ofNat (y / 64)))] [])) _
      refine XS.iload X22.here hx rfl (hb hby d1_31) rfl ?_
      show Steps p.tables e below (T22.setTop (mkF m 33 #[.val (.ref r0), .val (.ref ob17), .val (.ref r0), .val (.int (3 : Int32)), .val (.int ((0 : Int32) + (1 : Int32))), .val (.int (Int32.ofNat y)), .val (.int (Int32.ofNat (y / 64)))] [(.int (Int32.ofNat (y / 64)))])) _
      refine XS.aloadN X22.here hx rfl (hb hby d1_33) rfl rfl ?_
      show Steps p.tables e below (T22.setTop (mkF m 34 #[.val (.ref r0), .val (.ref ob17), .val (.ref r0), .val (.int (3 : Int32)), .val (.int ((0 : Int32) + (1 : Int32))), .val (.int (Int32.ofNat y)), .val (.int (Int32.ofNat (y / 64)))] [(.ref ob17), (.int (Int32.ofNat (y / 64)))])) _
      refine X22.arraylength hx (by rw [e22]; exact Ar28.1) (State.isArrayOf_alike hZ.alike Ar28.2.1) (g := (mkF m 34 #[.val (.ref r0), .val (.ref ob17), .val (.ref r0), .val (.int (3 : Int32)), .val (.int ((0 : Int32) + (1 : Int32))), .val (.int (Int32.ofNat y)), .val (.int (Int32.ofNat (y / 64)))] [(.ref ob17), (.int (Int32.ofNat (y / 64)))])) rfl rfl (hb hby d1_34) _ ?_
      rw [len_of S28 M28]
      exact kt
    have hd29 : (Int32.ofNat (y / 64)) < (Int32.ofNat (x / 64 + 1)) := by rw [own_lt _ _ (by omega) (by omega)]; omega
    have Vc31 := V22
    obtain ⟨cl31, Ar31, qk31, S31, M31, H31, G31⟩ := Vc31
    have hin31 : ¬ ((Int32.ofNat (y / 64)) < 0 ∨ cl31.slots.size ≤ ((Int32.ofNat (y / 64))).toNatClampNeg) := inb_of S31 (own_in (y / 64) (x / 64 + 1) (by omega) hl815)
    have hat31 : cl31.slots[((Int32.ofNat (y / 64))).toNatClampNeg]? = some (.long ((own_or own_f0 x) (y / 64))) := H31.at hin31 (own_at8' (own_or own_f0 x) (y / 64) (by omega) _)
    have c32 : ∀ t, Steps p.tables e below (T22.setTop (mkF m 57 #[.val (.ref r0), .val (.ref ob17), .val (.ref r0), .val (.int (3 : Int32)), .val (.int ((0 : Int32) + (1 : Int32))), .val (.int (Int32.ofNat y)), .val (.int (Int32.ofNat (y / 64)))] [(.long (((own_or own_f0 x) (y / 64)) ||| ((1 : Int64) <<< ((Int32.ofNat y) &&& 0x3f).toInt64))), (.int (Int32.ofNat (y / 64))), (.ref ob17)])) t → Steps p.tables e below (T22.setTop (mkF m 35 #[.val (.ref r0), .val (.ref ob17), .val (.ref r0), .val (.int (3 : Int32)), .val (.int ((0 : Int32) + (1 : Int32))), .val (.int (Int32.ofNat y)), .val (.int (Int32.ofNat (y / 64)))] [(.int (Int32.ofNat (x / 64 + 1))), (.int (Int32.ofNat (y / 64)))])) t := by
      intro t kt
      show Steps p.tables e below (T22.setTop (mkF m 35 #[.val (.ref r0), .val (.ref ob17), .val (.ref r0), .val (.int (3 : Int32)), .val (.int ((0 : Int32) + (1 : Int32))), .val (.int (Int32.ofNat y)), .val (.int (Int32.ofNat (y / 64)))] [(.int (Int32.ofNat (x / 64 + 1))), (.int (Int32.ofNat (y / 64)))])) _
      refine XS.icmpYes X22.here hx rfl (pc0 := 35) (pc' := 47) rfl (hb hby d1_35) rfl (tlt (hd29)).1 (by decide) (by decide) ?_
      show Steps p.tables e below (T22.setTop (mkF m 47 #[.val (.ref r0), .val (.ref ob17), .val (.ref r0), .val (.int (3 : Int32)), .val (.int ((0 : Int32) + (1 : Int32))), .val (.int (Int32.ofNat y)), .val (.int (Int32.ofNat (y / 64)))] [])) _
      refine XS.aloadN X22.here hx rfl (hb hby d1_47) rfl rfl ?_
      show Steps p.tables e below (T22.setTop (mkF m 48 #[.val (.ref r0), .val (.ref ob17), .val (.ref r0), .val (.int (3 : Int32)), .val (.int ((0 : Int32) + (1 : Int32))), .val (.int (Int32.ofNat y)), .val (.int (Int32.ofNat (y / 64)))] [(.ref ob17)])) _
      refine XS.iload X22.here hx rfl (hb hby d1_48) rfl ?_
      show Steps p.tables e below (T22.setTop (mkF m 50 #[.val (.ref r0), .val (.ref ob17), .val (.ref r0), .val (.int (3 : Int32)), .val (.int ((0 : Int32) + (1 : Int32))), .val (.int (Int32.ofNat y)), .val (.int (Int32.ofNat (y / 64)))] [(.int (Int32.ofNat (y / 64))), (.ref ob17)])) _
      refine Jvm.Free.XT.dup2 X22.here hx rfl (hb hby d1_50) rfl rfl rfl ?_
      show Steps p.tables e below (T22.setTop (mkF m 51 #[.val (.ref r0), .val (.ref ob17), .val (.ref r0), .val (.int (3 : Int32)), .val (.int ((0 : Int32) + (1 : Int32))), .val (.int (Int32.ofNat y)), .val (.int (Int32.ofNat (y / 64)))] [(.int (Int32.ofNat (y / 64))), (.ref ob17), (.int (Int32.ofNat (y / 64))), (.ref ob17)])) _
      refine X22.laload hx (j := (Int32.ofNat (y / 64))) (v := (.long ((own_or own_f0 x) (y / 64)))) (by rw [e22]; exact Ar31.1) (State.isArrayOf_alike hZ.alike Ar31.2.1) Ar31.2.2 hin31 hat31 (g := (mkF m 51 #[.val (.ref r0), .val (.ref ob17), .val (.ref r0), .val (.int (3 : Int32)), .val (.int ((0 : Int32) + (1 : Int32))), .val (.int (Int32.ofNat y)), .val (.int (Int32.ofNat (y / 64)))] [(.int (Int32.ofNat (y / 64))), (.ref ob17), (.int (Int32.ofNat (y / 64))), (.ref ob17)])) rfl rfl (hb hby d1_51) _ ?_
      show Steps p.tables e below (T22.setTop (mkF m 52 #[.val (.ref r0), .val (.ref ob17), .val (.ref r0), .val (.int (3 : Int32)), .val (.int ((0 : Int32) + (1 : Int32))), .val (.int (Int32.ofNat y)), .val (.int (Int32.ofNat (y / 64)))] [(.long ((own_or own_f0 x) (y / 64))), (.int (Int32.ofNat (y / 64))), (.ref ob17)])) _
      refine XS.lconst X22.here hx rfl (hb hby d1_52) ?_
      show Steps p.tables e below (T22.setTop (mkF m 53 #[.val (.ref r0), .val (.ref ob17), .val (.ref r0), .val (.int (3 : Int32)), .val (.int ((0 : Int32) + (1 : Int32))), .val (.int (Int32.ofNat y)), .val (.int (Int32.ofNat (y / 64)))] [(.long (1 : Int64)), (.long ((own_or own_f0 x) (y / 64))), (.int (Int32.ofNat (y / 64))), (.ref ob17)])) _
      refine XS.iload X22.here hx rfl (hb hby d1_53) rfl ?_
      show Steps p.tables e below (T22.setTop (mkF m 55 #[.val (.ref r0), .val (.ref ob17), .val (.ref r0), .val (.int (3 : Int32)), .val (.int ((0 : Int32) + (1 : Int32))), .val (.int (Int32.ofNat y)), .val (.int (Int32.ofNat (y / 64)))] [(.int (Int32.ofNat y)), (.long (1 : Int64)), (.long ((own_or own_f0 x) (y / 64))), (.int (Int32.ofNat (y / 64))), (.ref ob17)])) _
      refine XS.lshl X22.here hx rfl (hb hby d1_55) rfl ?_
      show Steps p.tables e below (T22.setTop (mkF m 56 #[.val (.ref r0), .val (.ref ob17), .val (.ref r0), .val (.int (3 : Int32)), .val (.int ((0 : Int32) + (1 : Int32))), .val (.int (Int32.ofNat y)), .val (.int (Int32.ofNat (y / 64)))] [(.long ((1 : Int64) <<< ((Int32.ofNat y) &&& 0x3f).toInt64)), (.long ((own_or own_f0 x) (y / 64))), (.int (Int32.ofNat (y / 64))), (.ref ob17)])) _
      refine XS.lor X22.here hx rfl (hb hby d1_56) rfl ?_
      exact kt
    have Vc33 := V22
    obtain ⟨cl33, Ar33, qk33, S33, M33, H33, G33⟩ := Vc33
    have hin33 : ¬ ((Int32.ofNat (y / 64)) < 0 ∨ cl33.slots.size ≤ ((Int32.ofNat (y / 64))).toNatClampNeg) := inb_of S33 (own_in (y / 64) (x / 64 + 1) (by omega) hl815)
    obtain ⟨T34, h34, X34, e34, W34, st34⟩ := stJ X22 hx hZ e22 Ar33 (j := (Int32.ofNat (y / 64))) hin33 (g := (mkF m 57 #[.val (.ref r0), .val (.ref ob17), .val (.ref r0), .val (.int (3 : Int32)), .val (.int ((0 : Int32) + (1 : Int32))), .val (.int (Int32.ofNat y)), .val (.int (Int32.ofNat (y / 64)))] [(.long (((own_or own_f0 x) (y / 64)) ||| ((1 : Int64) <<< ((Int32.ofNat y) &&& 0x3f).toInt64))), (.int (Int32.ofNat (y / 64))), (.ref ob17)])) rfl rfl (hb hby d1_57)
    have V34 : Arv Z h34 ob17 kk17 .long (Int32.ofNat (x / 64 + 1)) (own_l8 (own_or (own_or own_f0 x) y)) (.long (0 : Int64)) := by have q := Arv.set Ar33 qk33 S33 M33 H33 G33 rfl W34 (y / 64) (own_clamp _ (by omega)) (by rw [own_len8]; omega); rw [show (own_l8 (own_or own_f0 x)).set (y / 64) (.long (((own_or own_f0 x) (y / 64)) ||| ((1 : Int64) <<< ((Int32.ofNat y) &&& 0x3f).toInt64))) = own_l8 (own_or (own_or own_f0 x) y) from own_set8 (own_or own_f0 x) y (by omega)] at q; exact q
    have hz34 : ∀ i, (x / 64 + 1) ≤ i → (own_or (own_or own_f0 x) y) i = 0 := own_orz (own_or own_f0 x) y (x / 64 + 1) (by omega) hz22
    have hla34 : (x / 64 + 1) = 0 ∨ (own_or (own_or own_f0 x) y) ((x / 64 + 1) - 1) ≠ 0 := hla22.imp id (own_orne (own_or own_f0 x) y _)
    have N34 := Fr.snoc X34 N22 g_ob17
    have f35 := (f23.other W34 (Nat.ne_of_lt (Nat.lt_of_lt_of_le lt_r0_17 szq17)))
    have Vc36 := f35
    obtain ⟨cl36, Ar36, qk36, S36, M36, H36, G36⟩ := Vc36
    have hin36 : ¬ ((((0 : Int32) + (1 : Int32)) + (1 : Int32)) < 0 ∨ cl36.slots.size ≤ ((((0 : Int32) + (1 : Int32)) + (1 : Int32))).toNatClampNeg) := inb_of S36 ⟨by decide, by decide⟩
    have hat36 : cl36.slots[((((0 : Int32) + (1 : Int32)) + (1 : Int32))).toNatClampNeg]? = some (.int (Int32.ofNat z)) := H36.at hin36 rfl
    have c37 : ∀ t, Steps p.tables e below (T34.setTop (mkF m 31 #[.val (.ref r0), .val (.ref ob17), .val (.ref r0), .val (.int (3 : Int32)), .val (.int (((0 : Int32) + (1 : Int32)) + (1 : Int32))), .val (.int (Int32.ofNat z)), .val (.int (((Int32.ofNat z).toUInt32 >>> ((6 : Int32) &&& 31).toUInt32).toInt32))] [])) t → Steps p.tables e below (T34.setTop (mkF m 58 #[.val (.ref r0), .val (.ref ob17), .val (.ref r0), .val (.int (3 : Int32)), .val (.int ((0 : Int32) + (1 : Int32))), .val (.int (Int32.ofNat y)), .val (.int (Int32.ofNat (y / 64)))] [])) t := by
      intro t kt
      show Steps p.tables e below (T34.setTop (mkF m 58 #[.val (.ref r0), .val (.ref ob17), .val (.ref r0), .val (.int (3 : Int32)), .val (.int ((0 : Int32) + (1 : Int32))), .val (.int (Int32.ofNat y)), .val (.int (Int32.ofNat (y / 64)))] [])) _
      refine XS.iinc X34.here hx rfl (hb hby d1_58) rfl (l' := #[.val (.ref r0), .val (.ref ob17), .val (.ref r0), .val (.int (3 : Int32)), .val (.int (((0 : Int32) + (1 : Int32)) + (1 : Int32))), .val (.int (Int32.ofNat y)), .val (.int (Int32.ofNat (y / 64)))]) rfl ?_
      show Steps p.tables e below (T34.setTop (mkF m 61 #[.val (.ref r0), .val (.ref ob17), .val (.ref r0), .val (.int (3 : Int32)), .val (.int (((0 : Int32) + (1 : Int32)) + (1 : Int32))), .val (.int (Int32.ofNat y)), .val (.int (Int32.ofNat (y / 64)))] [])) _
      refine XS.goto X34.here hx rfl (pc0 := 61) (pc' := 12) rfl (hb hby d1_61) (by decide) (by decide) ?_
      show Steps p.tables e below (T34.setTop (mkF m 12 #[.val (.ref r0), .val (.ref ob17), .val (.ref r0), .val (.int (3 : Int32)), .val (.int (((0 : Int32) + (1 : Int32)) + (1 : Int32))), .val (.int (Int32.ofNat y)), .val (.int (Int32.ofNat (y / 64)))] [])) _
      refine XS.iload X34.here hx rfl (hb hby d1_12) rfl ?_
      show Steps p.tables e below (T34.setTop (mkF m 14 #[.val (.ref r0), .val (.ref ob17), .val (.ref r0), .val (.int (3 : Int32)), .val (.int (((0 : Int32) + (1 : Int32)) + (1 : Int32))), .val (.int (Int32.ofNat y)), .val (.int (Int32.ofNat (y / 64)))] [(.int (((0 : Int32) + (1 : Int32)) + (1 : Int32)))])) _
      refine XS.iloadN X34.here hx rfl (hb hby d1_14) rfl ?_
      show Steps p.tables e below (T34.setTop (mkF m 15 #[.val (.ref r0), .val (.ref ob17), .val (.ref r0), .val (.int (3 : Int32)), .val (.int (((0 : Int32) + (1 : Int32)) + (1 : Int32))), .val (.int (Int32.ofNat y)), .val (.int (Int32.ofNat (y / 64)))] [(.int (3 : Int32)), (.int (((0 : Int32) + (1 : Int32)) + (1 : Int32)))])) _
      refine XS.icmpNo X34.here hx rfl (hb hby d1_15) rfl (tlt (by decide : (((0 : Int32) + (1 : Int32)) + (1 : Int32)) < (3 : Int32))).2.1 ?_
      show Steps p.tables e below (T34.setTop (mkF m 18 #[.val (.ref r0), .val (.ref ob17), .val (.ref r0), .val (.int (3 : Int32)), .val (.int (((0 : Int32) + (1 : Int32)) + (1 : Int32))), .val (.int (Int32.ofNat y)), .val (.int (Int32.ofNat (y / 64)))] [])) _
      refine XS.aloadN X34.here hx rfl (hb hby d1_18) rfl rfl ?_
      show Steps p.tables e below (T34.setTop (mkF m 19 #[.val (.ref r0), .val (.ref ob17), .val (.ref r0), .val (.int (3 : Int32)), .val (.int (((0 : Int32) + (1 : Int32)) + (1 : Int32))), .val (.int (Int32.ofNat y)), .val (.int (Int32.ofNat (y / 64)))] [(.ref r0)])) _
      refine XS.iload X34.here hx rfl (hb hby d1_19) rfl ?_
      show Steps p.tables e below (T34.setTop (mkF m 21 #[.val (.ref r0), .val (.ref ob17), .val (.ref r0), .val (.int (3 : Int32)), .val (.int (((0 : Int32) + (1 : Int32)) + (1 : Int32))), .val (.int (Int32.ofNat y)), .val (.int (Int32.ofNat (y / 64)))] [(.int (((0 : Int32) + (1 : Int32)) + (1 : Int32))), (.ref r0)])) _
      refine X34.iaload hx (j := (((0 : Int32) + (1 : Int32)) + (1 : Int32))) (v := (.int (Int32.ofNat z))) (by rw [e34]; exact Ar36.1) (State.isArrayOf_alike hZ.alike Ar36.2.1) Ar36.2.2 hin36 hat36 (g := (mkF m 21 #[.val (.ref r0), .val (.ref ob17), .val (.ref r0), .val (.int (3 : Int32)), .val (.int (((0 : Int32) + (1 : Int32)) + (1 : Int32))), .val (.int (Int32.ofNat y)), .val (.int (Int32.ofNat (y / 64)))] [(.int (((0 : Int32) + (1 : Int32)) + (1 : Int32))), (.ref r0)])) rfl rfl (hb hby d1_21) _ ?_
      show Steps p.tables e below (T34.setTop (mkF m 22 #[.val (.ref r0), .val (.ref ob17), .val (.ref r0), .val (.int (3 : Int32)), .val (.int (((0 : Int32) + (1 : Int32)) + (1 : Int32))), .val (.int (Int32.ofNat y)), .val (.int (Int32.ofNat (y / 64)))] [(.int (Int32.ofNat z))])) _
      refine XS.istore X34.here hx rfl (hb hby d1_22) rfl (l' := #[.val (.ref r0), .val (.ref ob17), .val (.ref r0), .val (.int (3 : Int32)), .val (.int (((0 : Int32) + (1 : Int32)) + (1 : Int32))), .val (.int (Int32.ofNat z)), .val (.int (Int32.ofNat (y / 64)))]) rfl ?_
      show Steps p.tables e below (T34.setTop (mkF m 24 #[.val (.ref r0), .val (.ref ob17), .val (.ref r0), .val (.int (3 : Int32)), .val (.int (((0 : Int32) + (1 : Int32)) + (1 : Int32))), .val (.int (Int32.ofNat z)), .val (.int (Int32.ofNat (y / 64)))] [])) _
      refine XS.iload X34.here hx rfl (hb hby d1_24) rfl ?_
      show Steps p.tables e below (T34.setTop (mkF m 26 #[.val (.ref r0), .val (.ref ob17), .val (.ref r0), .val (.int (3 : Int32)), .val (.int (((0 : Int32) + (1 : Int32)) + (1 : Int32))), .val (.int (Int32.ofNat z)), .val (.int (Int32.ofNat (y / 64)))] [(.int (Int32.ofNat z))])) _
      refine XS.bipush X34.here hx rfl (hb hby d1_26) ?_
      show Steps p.tables e below (T34.setTop (mkF m 28 #[.val (.ref r0), .val (.ref ob17), .val (.ref r0), .val (.int (3 : Int32)), .val (.int (((0 : Int32) + (1 : Int32)) + (1 : Int32))), .val (.int (Int32.ofNat z)), .val (.int (Int32.ofNat (y / 64)))] [(.int (6 : Int32)), (.int (Int32.ofNat z))])) _
      refine XS.iushr X34.here hx rfl (hb hby d1_28) rfl ?_
      show Steps p.tables e below (T34.setTop (mkF m 29 #[.val (.ref r0), .val (.ref ob17), .val (.ref r0), .val (.int (3 : Int32)), .val (.int (((0 : Int32) + (1 : Int32)) + (1 : Int32))), .val (.int (Int32.ofNat z)), .val (.int (Int32.ofNat (y / 64)))] [(.int (((Int32.ofNat z).toUInt32 >>> ((6 : Int32) &&& 31).toUInt32).toInt32))])) _
      refine XS.istore X34.here hx rfl (hb hby d1_29) rfl (l' := #[.val (.ref r0), .val (.ref ob17), .val (.ref r0), .val (.int (3 : Int32)), .val (.int (((0 : Int32) + (1 : Int32)) + (1 : Int32))), .val (.int (Int32.ofNat z)), .val (.int (((Int32.ofNat z).toUInt32 >>> ((6 : Int32) &&& 31).toUInt32).toInt32))]) rfl ?_
      exact kt
    have c38 : ∀ t, Steps p.tables e below (T34.setTop (mkF m 31 #[.val (.ref r0), .val (.ref ob17), .val (.ref r0), .val (.int (3 : Int32)), .val (.int (((0 : Int32) + (1 : Int32)) + (1 : Int32))), .val (.int (Int32.ofNat z)), .val (.int (Int32.ofNat (z / 64)))] [])) t → Steps p.tables e below (T34.setTop (mkF m 31 #[.val (.ref r0), .val (.ref ob17), .val (.ref r0), .val (.int (3 : Int32)), .val (.int (((0 : Int32) + (1 : Int32)) + (1 : Int32))), .val (.int (Int32.ofNat z)), .val (.int (((Int32.ofNat z).toUInt32 >>> ((6 : Int32) &&& 31).toUInt32).toInt32))] [])) t := fun t kt => castTop (congrArg (fun zv => (mkF m 31 #[.val (.ref r0), .val (.ref ob17), .val (.ref r0), .val (.int (3 : Int32)), .val (.int (((0 : Int32) + (1 : Int32)) + (1 : Int32))), .val (.int (Int32.ofNat z)), .val (.int zv)] [])) (show (((Int32.ofNat z).toUInt32 >>> ((6 : Int32) &&& 31).toUInt32).toInt32) = (Int32.ofNat (z / 64)) from own_w6 z (by omega))) kt
    by_cases hg39 : z / 64 < (x / 64 + 1)
    · skip
      have Vc40 := V34
      obtain ⟨cl40, Ar40, qk40, S40, M40, H40, G40⟩ := Vc40
      have c42 : ∀ t, Steps p.tables e below (T34.setTop (mkF m 35 #[.val (.ref r0), .val (.ref ob17), .val (.ref r0), .val (.int (3 : Int32)), .val (.int (((0 : Int32) + (1 : Int32)) + (1 : Int32))), .val (.int (Int32.ofNat z)), .val (.int (Int32.ofNat (z / 64)))] [(.int (Int32.ofNat (x / 64 + 1))), (.int (Int32.ofNat (z / 64)))])) t → Steps p.tables e below (T34.setTop (mkF m 31 #[.val (.ref r0), .val (.ref ob17), .val (.ref r0), .val (.int (3 : Int32)), .val (.int (((0 : Int32) + (1 : Int32)) + (1 : Int32))), .val (.int (Int32.ofNat z)), .val (.int (Int32.ofNat (z / 64)))] [])) t := by
        intro t kt
        show Steps p.tables e below (T34.setTop (mkF m 31 #[.val (.ref r0), .val (.ref ob17), .val (.ref r0), .val (.int (3 : Int32)), .val (.int (((0 : Int32) + (1 : Int32)) + (1 : Int32))), .val (.int (Int32.ofNat z)), .val (.int (Int32.ofNat (z / 64)))] [])) _
        refine XS.iload X34.here hx rfl (hb hby d1_31) rfl ?_
        show Steps p.tables e below (T34.setTop (mkF m 33 #[.val (.ref r0), .val (.ref ob17), .val (.ref r0), .val (.int (3 : Int32)), .val (.int (((0 : Int32) + (1 : Int32)) + (1 : Int32))), .val (.int (Int32.ofNat z)), .val (.int (Int32.ofNat (z / 64)))] [(.int (Int32.ofNat (z / 64)))])) _
        refine XS.aloadN X34.here hx rfl (hb hby d1_33) rfl rfl ?_
        show Steps p.tables e below (T34.setTop (mkF m 34 #[.val (.ref r0), .val (.ref ob17), .val (.ref r0), .val (.int (3 : Int32)), .val (.int (((0 : Int32) + (1 : Int32)) + (1 : Int32))), .val (.int (Int32.ofNat z)), .val (.int (Int32.ofNat (z / 64)))] [(.ref ob17), (.int (Int32.ofNat (z / 64)))])) _
        refine X34.arraylength hx (by rw [e34]; exact Ar40.1) (State.isArrayOf_alike hZ.alike Ar40.2.1) (g := (mkF m 34 #[.val (.ref r0), .val (.ref ob17), .val (.ref r0), .val (.int (3 : Int32)), .val (.int (((0 : Int32) + (1 : Int32)) + (1 : Int32))), .val (.int (Int32.ofNat z)), .val (.int (Int32.ofNat (z / 64)))] [(.ref ob17), (.int (Int32.ofNat (z / 64)))])) rfl rfl (hb hby d1_34) _ ?_
        rw [len_of S40 M40]
        exact kt
      have hd41 : (Int32.ofNat (z / 64)) < (Int32.ofNat (x / 64 + 1)) := by rw [own_lt _ _ (by omega) (by omega)]; omega
      have Vc43 := V34
      obtain ⟨cl43, Ar43, qk43, S43, M43, H43, G43⟩ := Vc43
      have hin43 : ¬ ((Int32.ofNat (z / 64)) < 0 ∨ cl43.slots.size ≤ ((Int32.ofNat (z / 64))).toNatClampNeg) := inb_of S43 (own_in (z / 64) (x / 64 + 1) (by omega) hl815)
      have hat43 : cl43.slots[((Int32.ofNat (z / 64))).toNatClampNeg]? = some (.long ((own_or (own_or own_f0 x) y) (z / 64))) := H43.at hin43 (own_at8' (own_or (own_or own_f0 x) y) (z / 64) (by omega) _)
      have c44 : ∀ t, Steps p.tables e below (T34.setTop (mkF m 57 #[.val (.ref r0), .val (.ref ob17), .val (.ref r0), .val (.int (3 : Int32)), .val (.int (((0 : Int32) + (1 : Int32)) + (1 : Int32))), .val (.int (Int32.ofNat z)), .val (.int (Int32.ofNat (z / 64)))] [(.long (((own_or (own_or own_f0 x) y) (z / 64)) ||| ((1 : Int64) <<< ((Int32.ofNat z) &&& 0x3f).toInt64))), (.int (Int32.ofNat (z / 64))), (.ref ob17)])) t → Steps p.tables e below (T34.setTop (mkF m 35 #[.val (.ref r0), .val (.ref ob17), .val (.ref r0), .val (.int (3 : Int32)), .val (.int (((0 : Int32) + (1 : Int32)) + (1 : Int32))), .val (.int (Int32.ofNat z)), .val (.int (Int32.ofNat (z / 64)))] [(.int (Int32.ofNat (x / 64 + 1))), (.int (Int32.ofNat (z / 64)))])) t := by
        intro t kt
        show Steps p.tables e below (T34.setTop (mkF m 35 #[.val (.ref r0), .val (.ref ob17), .val (.ref r0), .val (.int (3 : Int32)), .val (.int (((0 : Int32) + (1 : Int32)) + (1 : Int32))), .val (.int (Int32.ofNat z)), .val (.int (Int32.ofNat (z / 64)))] [(.int (Int32.ofNat (x / 64 + 1))), (.int (Int32.ofNat (z / 64)))])) _
        refine XS.icmpYes X34.here hx rfl (pc0 := 35) (pc' := 47) rfl (hb hby d1_35) rfl (tlt (hd41)).1 (by decide) (by decide) ?_
        show Steps p.tables e below (T34.setTop (mkF m 47 #[.val (.ref r0), .val (.ref ob17), .val (.ref r0), .val (.int (3 : Int32)), .val (.int (((0 : Int32) + (1 : Int32)) + (1 : Int32))), .val (.int (Int32.ofNat z)), .val (.int (Int32.ofNat (z / 64)))] [])) _
        refine XS.aloadN X34.here hx rfl (hb hby d1_47) rfl rfl ?_
        show Steps p.tables e below (T34.setTop (mkF m 48 #[.val (.ref r0), .val (.ref ob17), .val (.ref r0), .val (.int (3 : Int32)), .val (.int (((0 : Int32) + (1 : Int32)) + (1 : Int32))), .val (.int (Int32.ofNat z)), .val (.int (Int32.ofNat (z / 64)))] [(.ref ob17)])) _
        refine XS.iload X34.here hx rfl (hb hby d1_48) rfl ?_
        show Steps p.tables e below (T34.setTop (mkF m 50 #[.val (.ref r0), .val (.ref ob17), .val (.ref r0), .val (.int (3 : Int32)), .val (.int (((0 : Int32) + (1 : Int32)) + (1 : Int32))), .val (.int (Int32.ofNat z)), .val (.int (Int32.ofNat (z / 64)))] [(.int (Int32.ofNat (z / 64))), (.ref ob17)])) _
        refine Jvm.Free.XT.dup2 X34.here hx rfl (hb hby d1_50) rfl rfl rfl ?_
        show Steps p.tables e below (T34.setTop (mkF m 51 #[.val (.ref r0), .val (.ref ob17), .val (.ref r0), .val (.int (3 : Int32)), .val (.int (((0 : Int32) + (1 : Int32)) + (1 : Int32))), .val (.int (Int32.ofNat z)), .val (.int (Int32.ofNat (z / 64)))] [(.int (Int32.ofNat (z / 64))), (.ref ob17), (.int (Int32.ofNat (z / 64))), (.ref ob17)])) _
        refine X34.laload hx (j := (Int32.ofNat (z / 64))) (v := (.long ((own_or (own_or own_f0 x) y) (z / 64)))) (by rw [e34]; exact Ar43.1) (State.isArrayOf_alike hZ.alike Ar43.2.1) Ar43.2.2 hin43 hat43 (g := (mkF m 51 #[.val (.ref r0), .val (.ref ob17), .val (.ref r0), .val (.int (3 : Int32)), .val (.int (((0 : Int32) + (1 : Int32)) + (1 : Int32))), .val (.int (Int32.ofNat z)), .val (.int (Int32.ofNat (z / 64)))] [(.int (Int32.ofNat (z / 64))), (.ref ob17), (.int (Int32.ofNat (z / 64))), (.ref ob17)])) rfl rfl (hb hby d1_51) _ ?_
        show Steps p.tables e below (T34.setTop (mkF m 52 #[.val (.ref r0), .val (.ref ob17), .val (.ref r0), .val (.int (3 : Int32)), .val (.int (((0 : Int32) + (1 : Int32)) + (1 : Int32))), .val (.int (Int32.ofNat z)), .val (.int (Int32.ofNat (z / 64)))] [(.long ((own_or (own_or own_f0 x) y) (z / 64))), (.int (Int32.ofNat (z / 64))), (.ref ob17)])) _
        refine XS.lconst X34.here hx rfl (hb hby d1_52) ?_
        show Steps p.tables e below (T34.setTop (mkF m 53 #[.val (.ref r0), .val (.ref ob17), .val (.ref r0), .val (.int (3 : Int32)), .val (.int (((0 : Int32) + (1 : Int32)) + (1 : Int32))), .val (.int (Int32.ofNat z)), .val (.int (Int32.ofNat (z / 64)))] [(.long (1 : Int64)), (.long ((own_or (own_or own_f0 x) y) (z / 64))), (.int (Int32.ofNat (z / 64))), (.ref ob17)])) _
        refine XS.iload X34.here hx rfl (hb hby d1_53) rfl ?_
        show Steps p.tables e below (T34.setTop (mkF m 55 #[.val (.ref r0), .val (.ref ob17), .val (.ref r0), .val (.int (3 : Int32)), .val (.int (((0 : Int32) + (1 : Int32)) + (1 : Int32))), .val (.int (Int32.ofNat z)), .val (.int (Int32.ofNat (z / 64)))] [(.int (Int32.ofNat z)), (.long (1 : Int64)), (.long ((own_or (own_or own_f0 x) y) (z / 64))), (.int (Int32.ofNat (z / 64))), (.ref ob17)])) _
        refine XS.lshl X34.here hx rfl (hb hby d1_55) rfl ?_
        show Steps p.tables e below (T34.setTop (mkF m 56 #[.val (.ref r0), .val (.ref ob17), .val (.ref r0), .val (.int (3 : Int32)), .val (.int (((0 : Int32) + (1 : Int32)) + (1 : Int32))), .val (.int (Int32.ofNat z)), .val (.int (Int32.ofNat (z / 64)))] [(.long ((1 : Int64) <<< ((Int32.ofNat z) &&& 0x3f).toInt64)), (.long ((own_or (own_or own_f0 x) y) (z / 64))), (.int (Int32.ofNat (z / 64))), (.ref ob17)])) _
        refine XS.lor X34.here hx rfl (hb hby d1_56) rfl ?_
        exact kt
      have Vc45 := V34
      obtain ⟨cl45, Ar45, qk45, S45, M45, H45, G45⟩ := Vc45
      have hin45 : ¬ ((Int32.ofNat (z / 64)) < 0 ∨ cl45.slots.size ≤ ((Int32.ofNat (z / 64))).toNatClampNeg) := inb_of S45 (own_in (z / 64) (x / 64 + 1) (by omega) hl815)
      obtain ⟨T46, h46, X46, e46, W46, st46⟩ := stJ X34 hx hZ e34 Ar45 (j := (Int32.ofNat (z / 64))) hin45 (g := (mkF m 57 #[.val (.ref r0), .val (.ref ob17), .val (.ref r0), .val (.int (3 : Int32)), .val (.int (((0 : Int32) + (1 : Int32)) + (1 : Int32))), .val (.int (Int32.ofNat z)), .val (.int (Int32.ofNat (z / 64)))] [(.long (((own_or (own_or own_f0 x) y) (z / 64)) ||| ((1 : Int64) <<< ((Int32.ofNat z) &&& 0x3f).toInt64))), (.int (Int32.ofNat (z / 64))), (.ref ob17)])) rfl rfl (hb hby d1_57)
      have V46 : Arv Z h46 ob17 kk17 .long (Int32.ofNat (x / 64 + 1)) (own_l8 (own_or (own_or (own_or own_f0 x) y) z)) (.long (0 : Int64)) := by have q := Arv.set Ar45 qk45 S45 M45 H45 G45 rfl W46 (z / 64) (own_clamp _ (by omega)) (by rw [own_len8]; omega); rw [show (own_l8 (own_or (own_or own_f0 x) y)).set (z / 64) (.long (((own_or (own_or own_f0 x) y) (z / 64)) ||| ((1 : Int64) <<< ((Int32.ofNat z) &&& 0x3f).toInt64))) = own_l8 (own_or (own_or (own_or own_f0 x) y) z) from own_set8 (own_or (own_or own_f0 x) y) z (by omega)] at q; exact q
      have hz46 : ∀ i, (x / 64 + 1) ≤ i → (own_or (own_or (own_or own_f0 x) y) z) i = 0 := own_orz (own_or (own_or own_f0 x) y) z (x / 64 + 1) (by omega) hz34
      have hla46 : (x / 64 + 1) = 0 ∨ (own_or (own_or (own_or own_f0 x) y) z) ((x / 64 + 1) - 1) ≠ 0 := hla34.imp id (own_orne (own_or (own_or own_f0 x) y) z _)
      have N46 := Fr.snoc X46 N34 g_ob17
      have c48 : ∀ t, Steps p.tables e below (T46.setTop (mkF m 64 #[.val (.ref r0), .val (.ref ob17), .val (.ref r0), .val (.int (3 : Int32)), .val (.int ((((0 : Int32) + (1 : Int32)) + (1 : Int32)) + (1 : Int32))), .val (.int (Int32.ofNat z)), .val (.int (Int32.ofNat (z / 64)))] [])) t → Steps p.tables e below (T46.setTop (mkF m 58 #[.val (.ref r0), .val (.ref ob17), .val (.ref r0), .val (.int (3 : Int32)), .val (.int (((0 : Int32) + (1 : Int32)) + (1 : Int32))), .val (.int (Int32.ofNat z)), .val (.int (Int32.ofNat (z / 64)))] [])) t := by
        intro t kt
        show Steps p.tables e below (T46.setTop (mkF m 58 #[.val (.ref r0), .val (.ref ob17), .val (.ref r0), .val (.int (3 : Int32)), .val (.int (((0 : Int32) + (1 : Int32)) + (1 : Int32))), .val (.int (Int32.ofNat z)), .val (.int (Int32.ofNat (z / 64)))] [])) _
        refine XS.iinc X46.here hx rfl (hb hby d1_58) rfl (l' := #[.val (.ref r0), .val (.ref ob17), .val (.ref r0), .val (.int (3 : Int32)), .val (.int ((((0 : Int32) + (1 : Int32)) + (1 : Int32)) + (1 : Int32))), .val (.int (Int32.ofNat z)), .val (.int (Int32.ofNat (z / 64)))]) rfl ?_
        show Steps p.tables e below (T46.setTop (mkF m 61 #[.val (.ref r0), .val (.ref ob17), .val (.ref r0), .val (.int (3 : Int32)), .val (.int ((((0 : Int32) + (1 : Int32)) + (1 : Int32)) + (1 : Int32))), .val (.int (Int32.ofNat z)), .val (.int (Int32.ofNat (z / 64)))] [])) _
        refine XS.goto X46.here hx rfl (pc0 := 61) (pc' := 12) rfl (hb hby d1_61) (by decide) (by decide) ?_
        show Steps p.tables e below (T46.setTop (mkF m 12 #[.val (.ref r0), .val (.ref ob17), .val (.ref r0), .val (.int (3 : Int32)), .val (.int ((((0 : Int32) + (1 : Int32)) + (1 : Int32)) + (1 : Int32))), .val (.int (Int32.ofNat z)), .val (.int (Int32.ofNat (z / 64)))] [])) _
        refine XS.iload X46.here hx rfl (hb hby d1_12) rfl ?_
        show Steps p.tables e below (T46.setTop (mkF m 14 #[.val (.ref r0), .val (.ref ob17), .val (.ref r0), .val (.int (3 : Int32)), .val (.int ((((0 : Int32) + (1 : Int32)) + (1 : Int32)) + (1 : Int32))), .val (.int (Int32.ofNat z)), .val (.int (Int32.ofNat (z / 64)))] [(.int ((((0 : Int32) + (1 : Int32)) + (1 : Int32)) + (1 : Int32)))])) _
        refine XS.iloadN X46.here hx rfl (hb hby d1_14) rfl ?_
        show Steps p.tables e below (T46.setTop (mkF m 15 #[.val (.ref r0), .val (.ref ob17), .val (.ref r0), .val (.int (3 : Int32)), .val (.int ((((0 : Int32) + (1 : Int32)) + (1 : Int32)) + (1 : Int32))), .val (.int (Int32.ofNat z)), .val (.int (Int32.ofNat (z / 64)))] [(.int (3 : Int32)), (.int ((((0 : Int32) + (1 : Int32)) + (1 : Int32)) + (1 : Int32)))])) _
        refine XS.icmpYes X46.here hx rfl (pc0 := 15) (pc' := 64) rfl (hb hby d1_15) rfl (flt (by decide : ¬ (((((0 : Int32) + (1 : Int32)) + (1 : Int32)) + (1 : Int32)) < (3 : Int32)))).2.1 (by decide) (by decide) ?_
        exact kt
      obtain ⟨T47, h47, X47, e47, E47, A47, D47, U47, st47⟩ := newO X46 hx hZ hown (hw _ (List.mem_of_getElem? (i := 18) rfl)) (hw _ (List.mem_of_getElem? (i := 19) rfl)) (hw _ (List.mem_of_getElem? (i := 3) rfl)) e46 (g := (mkF m 64 #[.val (.ref r0), .val (.ref ob17), .val (.ref r0), .val (.int (3 : Int32)), .val (.int ((((0 : Int32) + (1 : Int32)) + (1 : Int32)) + (1 : Int32))), .val (.int (Int32.ofNat z)), .val (.int (Int32.ofNat (z / 64)))] [])) rfl (hb hby d1_64) (by decide) (by decide)
      obtain ⟨b47, g47⟩ : ∃ z, z = h46.size := ⟨_, rfl⟩
      rw [← g47] at A47 D47 U47 st47
      have f49 := (Nat.le_trans (Nat.le_trans (Nat.le_trans (Nat.le_trans f16 Kq17.1) (Keep.of_wr W22).1) (Keep.of_wr W34).1) (Keep.of_wr W46).1)
      have f50 := ((((f18.trans Kq17 all0).wr W22 (Or.inr sz_ob17)).wr W34 (Or.inr sz_ob17)).wr W46 (Or.inr sz_ob17))
      have g_b47 : n0 ≤ b47 := Nat.le_trans f49 (Nat.le_of_eq g47.symm)
      have sz_b47 : h0.size ≤ b47 := Nat.le_trans f50.1 (Nat.le_of_eq g47.symm)
      have f51 := (f35.other W46 (Nat.ne_of_lt (Nat.lt_of_lt_of_le lt_r0_17 szq17)))
      have lt_r0_47 := f51.lt
      have f52 := ((((VP4.keep Kq17 nin0).other W22 (Nat.ne_of_lt (Nat.lt_of_lt_of_le lt_b1_17 szq17))).other W34 (Nat.ne_of_lt (Nat.lt_of_lt_of_le lt_b1_17 szq17))).other W46 (Nat.ne_of_lt (Nat.lt_of_lt_of_le lt_b1_17 szq17)))
      have lt_b1_47 := f52.lt
      have lt_ob17_47 := V46.lt
      have F47_words : Fld Z h47 b47 "com/example/emex/emex/explain/Positions" "words" "[J" .null := D47 (Or.inr (hw _ (List.mem_of_getElem? (i := 27) rfl))) (ty := (.array .long)) (by decide)
      have F47_size : Fld Z h47 b47 "com/example/emex/emex/explain/Positions" "size" "I" (.int (0 : Int32)) := D47 (Or.inr (hw _ (List.mem_of_getElem? (i := 36) rfl))) (ty := .int) (by decide)
      have c53 : ∀ t, Steps p.tables e below (T47.setTop (mkF m 69 #[.val (.ref r0), .val (.ref ob17), .val (.ref r0), .val (.int (3 : Int32)), .val (.int ((((0 : Int32) + (1 : Int32)) + (1 : Int32)) + (1 : Int32))), .val (.int (Int32.ofNat z)), .val (.int (Int32.ofNat (z / 64)))] [(.ref ob17), (.ref b47), (.ref b47)])) t → Steps p.tables e below (T47.setTop (mkF m 67 #[.val (.ref r0), .val (.ref ob17), .val (.ref r0), .val (.int (3 : Int32)), .val (.int ((((0 : Int32) + (1 : Int32)) + (1 : Int32)) + (1 : Int32))), .val (.int (Int32.ofNat z)), .val (.int (Int32.ofNat (z / 64)))] [(.ref b47)])) t := by
        intro t kt
        show Steps p.tables e below (T47.setTop (mkF m 67 #[.val (.ref r0), .val (.ref ob17), .val (.ref r0), .val (.int (3 : Int32)), .val (.int ((((0 : Int32) + (1 : Int32)) + (1 : Int32)) + (1 : Int32))), .val (.int (Int32.ofNat z)), .val (.int (Int32.ofNat (z / 64)))] [(.ref b47)])) _
        refine XS.dup X47.here hx rfl (hb hby d1_67) rfl rfl ?_
        show Steps p.tables e below (T47.setTop (mkF m 68 #[.val (.ref r0), .val (.ref ob17), .val (.ref r0), .val (.int (3 : Int32)), .val (.int ((((0 : Int32) + (1 : Int32)) + (1 : Int32)) + (1 : Int32))), .val (.int (Int32.ofNat z)), .val (.int (Int32.ofNat (z / 64)))] [(.ref b47), (.ref b47)])) _
        refine XS.aloadN X47.here hx rfl (hb hby d1_68) rfl rfl ?_
        exact kt
      have f54 := (Nat.le_trans f49 E47.1)
      have f55 := (V46.ext E47)
      obtain ⟨_, _, ⟨T56, L56, k56, n56⟩, -, X56, ⟨Lc56, hQ56, l56, y56, z56⟩, st56⟩ := X47.specialBack hx (y := (⟨"com/example/emex/emex/explain/Positions", "<init>", "([J)V"⟩ : MethodName)) rfl hown (mvT hZ (hw _ (List.mem_of_getElem? (i := 20) rfl))) (mvT hZ (hw _ (List.mem_of_getElem? (i := 21) rfl))) (mvT hZ (hw _ (List.mem_of_getElem? (i := 22) rfl))) (by decide) (backOf (W := 1) (rm4 l Z a0 hw [] b47 ob17 kk17 (x / 64 + 1) (own_or (own_or (own_or own_f0 x) y) z) h47 n0 f54 f55 hl815 hla46 F47_words F47_size A47 g_b47 (Nat.ne_of_lt (Nat.lt_of_lt_of_le lt_ob17_47 (Nat.le_of_eq g47.symm)))) hZ (hw _ (List.mem_of_getElem? (i := 22) rfl)) (hw _ (List.mem_of_getElem? (i := 3) rfl)) (by decide) (by decide)) (g := (mkF m 69 #[.val (.ref r0), .val (.ref ob17), .val (.ref r0), .val (.int (3 : Int32)), .val (.int ((((0 : Int32) + (1 : Int32)) + (1 : Int32)) + (1 : Int32))), .val (.int (Int32.ofNat z)), .val (.int (Int32.ofNat (z / 64)))] [(.ref ob17), (.ref b47), (.ref b47)])) rfl (by rw [hml]; rfl) (Steps.refl _) (a := b47) (argsL := [(.ref ob17)]) (rest := [(.ref b47)]) (lenOf pd_2 rfl) rfl (by show 2 * 0 + _ ≤ _; exact Nat.le_of_eq rfl) (hb hby d1_69) (fun _ _ => ⟨rfl, e47, (by decide : 3 + 0 ≤ _), (by decide : 10 + 0 ≤ _)⟩)
      dsimp only [Pt.U, Pt.locs, Pt.cells, Pt.slots] at X56 l56 y56 z56 st56 hQ56
      subst l56 y56 z56
      obtain ⟨rfl, N56q, Kq56, Eq56, Fq56_0, Fq56_1⟩ := hQ56
      have N56 := Fr.app N46 N56q
      obtain ⟨fs, hr, hrun, hended, hW, hsame⟩ := X56.leave (v := some (.ref b47)) (fun h => by rw [Bd.returns] at h; cases h)
      have f58 := ((f50.ext E47).trans Kq56 (allS (Or.inr sz_b47) all0))
      have f59 := (f55.keep Kq56 (ninS (Nat.ne_of_lt (Nat.lt_of_lt_of_le lt_ob17_47 (Nat.le_of_eq g47.symm))) nin0))
      refine ⟨_, _, pre0 _ (c2 _ (st1 _ (c3 _ (c8 _ (c9 _ (c12 _ (c13 _ (c14 _ (st17 _ (c20 _ (st22 _ (c25 _ (c26 _ (c30 _ (c32 _ (st34 _ (c37 _ (c38 _ (c42 _ (c44 _ (st46 _ (c48 _ (st47 _ (c53 _ (st56.trans (?_)))))))))))))))))))))))))), hrun, hended, _, _, rfl, ?_, ⟨_, rfl⟩, hW, hsame.mono (by decide) (by decide)⟩
      · show Steps p.tables e below (T56.setTop (mkF m 72 #[.val (.ref r0), .val (.ref ob17), .val (.ref r0), .val (.int (3 : Int32)), .val (.int ((((0 : Int32) + (1 : Int32)) + (1 : Int32)) + (1 : Int32))), .val (.int (Int32.ofNat z)), .val (.int (Int32.ofNat (z / 64)))] [(.ref b47)])) _
        jvm_step X56.here [X56.here.top, hx, (hb hby d1_72), X56.method', Bd.returns, Value.isRef, FieldType.isReference]
        first | (intro acts; rw [hr _ acts rfl rfl rfl]) | rw [hr _ _ rfl rfl rfl]
        exact Steps.refl _
      · show Q1_3 Z r0 kk dv x y z h0 n0 _ T56.heap _
        exact ⟨b47, ob17, kk17, (x / 64 + 1), hl815, hz46, by omega, by omega, by omega, rfl, N56, f58, g_b47, Eq56, Fq56_0, Fq56_1, f59⟩
    · skip
      have Vc60 := V34
      obtain ⟨cl60, Ar60, qk60, S60, M60, H60, G60⟩ := Vc60
      have c62 : ∀ t, Steps p.tables e below (T34.setTop (mkF m 35 #[.val (.ref r0), .val (.ref ob17), .val (.ref r0), .val (.int (3 : Int32)), .val (.int (((0 : Int32) + (1 : Int32)) + (1 : Int32))), .val (.int (Int32.ofNat z)), .val (.int (Int32.ofNat (z / 64)))] [(.int (Int32.ofNat (x / 64 + 1))), (.int (Int32.ofNat (z / 64)))])) t → Steps p.tables e below (T34.setTop (mkF m 31 #[.val (.ref r0), .val (.ref ob17), .val (.ref r0), .val (.int (3 : Int32)), .val (.int (((0 : Int32) + (1 : Int32)) + (1 : Int32))), .val (.int (Int32.ofNat z)), .val (.int (Int32.ofNat (z / 64)))] [])) t := by
        intro t kt
        show Steps p.tables e below (T34.setTop (mkF m 31 #[.val (.ref r0), .val (.ref ob17), .val (.ref r0), .val (.int (3 : Int32)), .val (.int (((0 : Int32) + (1 : Int32)) + (1 : Int32))), .val (.int (Int32.ofNat z)), .val (.int (Int32.ofNat (z / 64)))] [])) _
        refine XS.iload X34.here hx rfl (hb hby d1_31) rfl ?_
        show Steps p.tables e below (T34.setTop (mkF m 33 #[.val (.ref r0), .val (.ref ob17), .val (.ref r0), .val (.int (3 : Int32)), .val (.int (((0 : Int32) + (1 : Int32)) + (1 : Int32))), .val (.int (Int32.ofNat z)), .val (.int (Int32.ofNat (z / 64)))] [(.int (Int32.ofNat (z / 64)))])) _
        refine XS.aloadN X34.here hx rfl (hb hby d1_33) rfl rfl ?_
        show Steps p.tables e below (T34.setTop (mkF m 34 #[.val (.ref r0), .val (.ref ob17), .val (.ref r0), .val (.int (3 : Int32)), .val (.int (((0 : Int32) + (1 : Int32)) + (1 : Int32))), .val (.int (Int32.ofNat z)), .val (.int (Int32.ofNat (z / 64)))] [(.ref ob17), (.int (Int32.ofNat (z / 64)))])) _
        refine X34.arraylength hx (by rw [e34]; exact Ar60.1) (State.isArrayOf_alike hZ.alike Ar60.2.1) (g := (mkF m 34 #[.val (.ref r0), .val (.ref ob17), .val (.ref r0), .val (.int (3 : Int32)), .val (.int (((0 : Int32) + (1 : Int32)) + (1 : Int32))), .val (.int (Int32.ofNat z)), .val (.int (Int32.ofNat (z / 64)))] [(.ref ob17), (.int (Int32.ofNat (z / 64)))])) rfl rfl (hb hby d1_34) _ ?_
        rw [len_of S60 M60]
        exact kt
      have hd61 : ¬ ((Int32.ofNat (z / 64)) < (Int32.ofNat (x / 64 + 1))) := by rw [own_lt _ _ (by omega) (by omega)]; omega
      have c63 : ∀ t, Steps p.tables e below (T34.setTop (mkF m 43 #[.val (.ref r0), .val (.ref ob17), .val (.ref r0), .val (.int (3 : Int32)), .val (.int (((0 : Int32) + (1 : Int32)) + (1 : Int32))), .val (.int (Int32.ofNat z)), .val (.int (Int32.ofNat (z / 64)))] [(.int ((Int32.ofNat (z / 64)) + (1 : Int32))), (.ref ob17)])) t → Steps p.tables e below (T34.setTop (mkF m 35 #[.val (.ref r0), .val (.ref ob17), .val (.ref r0), .val (.int (3 : Int32)), .val (.int (((0 : Int32) + (1 : Int32)) + (1 : Int32))), .val (.int (Int32.ofNat z)), .val (.int (Int32.ofNat (z / 64)))] [(.int (Int32.ofNat (x / 64 + 1))), (.int (Int32.ofNat (z / 64)))])) t := by
        intro t kt
        show Steps p.tables e below (T34.setTop (mkF m 35 #[.val (.ref r0), .val (.ref ob17), .val (.ref r0), .val (.int (3 : Int32)), .val (.int (((0 : Int32) + (1 : Int32)) + (1 : Int32))), .val (.int (Int32.ofNat z)), .val (.int (Int32.ofNat (z / 64)))] [(.int (Int32.ofNat (x / 64 + 1))), (.int (Int32.ofNat (z / 64)))])) _
        refine XS.icmpNo X34.here hx rfl (hb hby d1_35) rfl (flt (hd61)).1 ?_
        show Steps p.tables e below (T34.setTop (mkF m 38 #[.val (.ref r0), .val (.ref ob17), .val (.ref r0), .val (.int (3 : Int32)), .val (.int (((0 : Int32) + (1 : Int32)) + (1 : Int32))), .val (.int (Int32.ofNat z)), .val (.int (Int32.ofNat (z / 64)))] [])) _
        refine XS.aloadN X34.here hx rfl (hb hby d1_38) rfl rfl ?_
        show Steps p.tables e below (T34.setTop (mkF m 39 #[.val (.ref r0), .val (.ref ob17), .val (.ref r0), .val (.int (3 : Int32)), .val (.int (((0 : Int32) + (1 : Int32)) + (1 : Int32))), .val (.int (Int32.ofNat z)), .val (.int (Int32.ofNat (z / 64)))] [(.ref ob17)])) _
        refine XS.iload X34.here hx rfl (hb hby d1_39) rfl ?_
        show Steps p.tables e below (T34.setTop (mkF m 41 #[.val (.ref r0), .val (.ref ob17), .val (.ref r0), .val (.int (3 : Int32)), .val (.int (((0 : Int32) + (1 : Int32)) + (1 : Int32))), .val (.int (Int32.ofNat z)), .val (.int (Int32.ofNat (z / 64)))] [(.int (Int32.ofNat (z / 64))), (.ref ob17)])) _
        refine XS.iconst X34.here hx rfl (hb hby d1_41) ?_
        show Steps p.tables e below (T34.setTop (mkF m 42 #[.val (.ref r0), .val (.ref ob17), .val (.ref r0), .val (.int (3 : Int32)), .val (.int (((0 : Int32) + (1 : Int32)) + (1 : Int32))), .val (.int (Int32.ofNat z)), .val (.int (Int32.ofNat (z / 64)))] [(.int (1 : Int32)), (.int (Int32.ofNat (z / 64))), (.ref ob17)])) _
        refine XS.iadd X34.here hx rfl (hb hby d1_42) rfl ?_
        exact kt
      have c64 : ∀ t, Steps p.tables e below (T34.setTop (mkF m 43 #[.val (.ref r0), .val (.ref ob17), .val (.ref r0), .val (.int (3 : Int32)), .val (.int (((0 : Int32) + (1 : Int32)) + (1 : Int32))), .val (.int (Int32.ofNat z)), .val (.int (Int32.ofNat (z / 64)))] [(.int (Int32.ofNat (z / 64 + 1))), (.ref ob17)])) t → Steps p.tables e below (T34.setTop (mkF m 43 #[.val (.ref r0), .val (.ref ob17), .val (.ref r0), .val (.int (3 : Int32)), .val (.int (((0 : Int32) + (1 : Int32)) + (1 : Int32))), .val (.int (Int32.ofNat z)), .val (.int (Int32.ofNat (z / 64)))] [(.int ((Int32.ofNat (z / 64)) + (1 : Int32))), (.ref ob17)])) t := fun t kt => castTop (congrArg (fun zv => (mkF m 43 #[.val (.ref r0), .val (.ref ob17), .val (.ref r0), .val (.int (3 : Int32)), .val (.int (((0 : Int32) + (1 : Int32)) + (1 : Int32))), .val (.int (Int32.ofNat z)), .val (.int (Int32.ofNat (z / 64)))] [(.int zv), (.ref ob17)])) (show ((Int32.ofNat (z / 64)) + (1 : Int32)) = (Int32.ofNat (z / 64 + 1)) from own_up _ (by omega))) kt
      have hl865 : z / 64 + 1 ≤ 8 := by omega
      have hzg65 : ∀ i, z / 64 + 1 ≤ i → (own_or (own_or own_f0 x) y) i = 0 := fun i hi => hz34 i (by omega)
      have f66 := (Nat.le_trans (Nat.le_trans (Nat.le_trans f16 Kq17.1) (Keep.of_wr W22).1) (Keep.of_wr W34).1)
      obtain ⟨_, _, ⟨T67, L67, k67, n67⟩, -, X67, ⟨Lc67, hQ67, l67, y67, z67⟩, st67⟩ := Jvm.LawKit.callS X34 hx (y := (⟨"java/util/Arrays", "copyOf", "([JI)[J"⟩ : MethodName)) hown (mvT hZ (hw _ (List.mem_of_getElem? (i := 6) rfl))) (mvT hZ (hw _ (List.mem_of_getElem? (i := 7) rfl))) (mvT hZ (hw _ (List.mem_of_getElem? (i := 8) rfl))) (mvT hZ (hw _ (List.mem_of_getElem? (i := 9) rfl))) (by decide) (backOf (W := 0) (rm2 l Z a0 hw []  ob17 (z / 64 + 1) kk17 (x / 64 + 1) (own_or (own_or own_f0 x) y) h34 n0 f66 V34 (by omega) (by omega) hl815 hz34) hZ (hw _ (List.mem_of_getElem? (i := 9) rfl)) (hw _ (List.mem_of_getElem? (i := 8) rfl)) (by decide) (by decide)) (g := (mkF m 43 #[.val (.ref r0), .val (.ref ob17), .val (.ref r0), .val (.int (3 : Int32)), .val (.int (((0 : Int32) + (1 : Int32)) + (1 : Int32))), .val (.int (Int32.ofNat z)), .val (.int (Int32.ofNat (z / 64)))] [(.int (Int32.ofNat (z / 64 + 1))), (.ref ob17)])) rfl (by rw [hml]; rfl) (argsL := [(.ref ob17), (.int (Int32.ofNat (z / 64 + 1)))]) (rest := []) (lenOf pd_3 rfl) rfl (by show 2 * 0 + _ ≤ _; exact Nat.le_of_eq rfl) (hb hby d1_43) (fun _ _ => ⟨rfl, e34, (by decide : 2 + 1 ≤ _), (by decide : 8 + 8 ≤ _)⟩)
      dsimp only [Pt.U, Pt.locs, Pt.cells, Pt.slots] at X67 l67 y67 z67 st67 hQ67
      subst l67 y67 z67
      obtain ⟨ob67, kk67, rfl, N67q, Kq67, g_ob67, szq67, Vq67⟩ := hQ67
      have N67 := Fr.app N34 N67q
      have lt_r0_67 := f35.lt
      have f68 := (((VP4.keep Kq17 nin0).other W22 (Nat.ne_of_lt (Nat.lt_of_lt_of_le lt_b1_17 szq17))).other W34 (Nat.ne_of_lt (Nat.lt_of_lt_of_le lt_b1_17 szq17)))
      have lt_b1_67 := f68.lt
      have lt_ob17_67 := V34.lt
      have f69 := (((f18.trans Kq17 all0).wr W22 (Or.inr sz_ob17)).wr W34 (Or.inr sz_ob17))
      have sz_ob67 : h0.size ≤ ob67 := Nat.le_trans f69.1 szq67
      have Vc70 := Vq67
      obtain ⟨cl70, Ar70, qk70, S70, M70, H70, G70⟩ := Vc70
      have hin70 : ¬ ((Int32.ofNat (z / 64)) < 0 ∨ cl70.slots.size ≤ ((Int32.ofNat (z / 64))).toNatClampNeg) := inb_of S70 (own_in (z / 64) (z / 64 + 1) (by omega) hl865)
      have hat70 : cl70.slots[((Int32.ofNat (z / 64))).toNatClampNeg]? = some (.long ((own_or (own_or own_f0 x) y) (z / 64))) := H70.at hin70 (own_at8' (own_or (own_or own_f0 x) y) (z / 64) (by omega) _)
      have c71 : ∀ t, Steps p.tables e below (T67.setTop (mkF m 57 #[.val (.ref r0), .val (.ref ob67), .val (.ref r0), .val (.int (3 : Int32)), .val (.int (((0 : Int32) + (1 : Int32)) + (1 : Int32))), .val (.int (Int32.ofNat z)), .val (.int (Int32.ofNat (z / 64)))] [(.long (((own_or (own_or own_f0 x) y) (z / 64)) ||| ((1 : Int64) <<< ((Int32.ofNat z) &&& 0x3f).toInt64))), (.int (Int32.ofNat (z / 64))), (.ref ob67)])) t → Steps p.tables e below (T67.setTop (mkF m 46 #[.val (.ref r0), .val (.ref ob17), .val (.ref r0), .val (.int (3 : Int32)), .val (.int (((0 : Int32) + (1 : Int32)) + (1 : Int32))), .val (.int (Int32.ofNat z)), .val (.int (Int32.ofNat (z / 64)))] [(.ref ob67)])) t := by
        intro t kt
        show Steps p.tables e below (T67.setTop (mkF m 46 #[.val (.ref r0), .val (.ref ob17), .val (.ref r0), .val (.int (3 : Int32)), .val (.int (((0 : Int32) + (1 : Int32)) + (1 : Int32))), .val (.int (Int32.ofNat z)), .val (.int (Int32.ofNat (z / 64)))] [(.ref ob67)])) _
        refine XS.astoreN X67.here hx rfl (hb hby d1_46) rfl rfl (l' := #[.val (.ref r0), .val (.ref ob67), .val (.ref r0), .val (.int (3 : Int32)), .val (.int (((0 : Int32) + (1 : Int32)) + (1 : Int32))), .val (.int (Int32.ofNat z)), .val (.int (Int32.ofNat (z / 64)))]) rfl ?_
        show Steps p.tables e below (T67.setTop (mkF m 47 #[.val (.ref r0), .val (.ref ob67), .val (.ref r0), .val (.int (3 : Int32)), .val (.int (((0 : Int32) + (1 : Int32)) + (1 : Int32))), .val (.int (Int32.ofNat z)), .val (.int (Int32.ofNat (z / 64)))] [])) _
        refine XS.aloadN X67.here hx rfl (hb hby d1_47) rfl rfl ?_
        show Steps p.tables e below (T67.setTop (mkF m 48 #[.val (.ref r0), .val (.ref ob67), .val (.ref r0), .val (.int (3 : Int32)), .val (.int (((0 : Int32) + (1 : Int32)) + (1 : Int32))), .val (.int (Int32.ofNat z)), .val (.int (Int32.ofNat (z / 64)))] [(.ref ob67)])) _
        refine XS.iload X67.here hx rfl (hb hby d1_48) rfl ?_
        show Steps p.tables e below (T67.setTop (mkF m 50 #[.val (.ref r0), .val (.ref ob67), .val (.ref r0), .val (.int (3 : Int32)), .val (.int (((0 : Int32) + (1 : Int32)) + (1 : Int32))), .val (.int (Int32.ofNat z)), .val (.int (Int32.ofNat (z / 64)))] [(.int (Int32.ofNat (z / 64))), (.ref ob67)])) _
        refine Jvm.Free.XT.dup2 X67.here hx rfl (hb hby d1_50) rfl rfl rfl ?_
        show Steps p.tables e below (T67.setTop (mkF m 51 #[.val (.ref r0), .val (.ref ob67), .val (.ref r0), .val (.int (3 : Int32)), .val (.int (((0 : Int32) + (1 : Int32)) + (1 : Int32))), .val (.int (Int32.ofNat z)), .val (.int (Int32.ofNat (z / 64)))] [(.int (Int32.ofNat (z / 64))), (.ref ob67), (.int (Int32.ofNat (z / 64))), (.ref ob67)])) _
        refine X67.laload hx (j := (Int32.ofNat (z / 64))) (v := (.long ((own_or (own_or own_f0 x) y) (z / 64)))) Ar70.1 (State.isArrayOf_alike hZ.alike Ar70.2.1) Ar70.2.2 hin70 hat70 (g := (mkF m 51 #[.val (.ref r0), .val (.ref ob67), .val (.ref r0), .val (.int (3 : Int32)), .val (.int (((0 : Int32) + (1 : Int32)) + (1 : Int32))), .val (.int (Int32.ofNat z)), .val (.int (Int32.ofNat (z / 64)))] [(.int (Int32.ofNat (z / 64))), (.ref ob67), (.int (Int32.ofNat (z / 64))), (.ref ob67)])) rfl rfl (hb hby d1_51) _ ?_
        show Steps p.tables e below (T67.setTop (mkF m 52 #[.val (.ref r0), .val (.ref ob67), .val (.ref r0), .val (.int (3 : Int32)), .val (.int (((0 : Int32) + (1 : Int32)) + (1 : Int32))), .val (.int (Int32.ofNat z)), .val (.int (Int32.ofNat (z / 64)))] [(.long ((own_or (own_or own_f0 x) y) (z / 64))), (.int (Int32.ofNat (z / 64))), (.ref ob67)])) _
        refine XS.lconst X67.here hx rfl (hb hby d1_52) ?_
        show Steps p.tables e below (T67.setTop (mkF m 53 #[.val (.ref r0), .val (.ref ob67), .val (.ref r0), .val (.int (3 : Int32)), .val (.int (((0 : Int32) + (1 : Int32)) + (1 : Int32))), .val (.int (Int32.ofNat z)), .val (.int (Int32.ofNat (z / 64)))] [(.long (1 : Int64)), (.long ((own_or (own_or own_f0 x) y) (z / 64))), (.int (Int32.ofNat (z / 64))), (.ref ob67)])) _
        refine XS.iload X67.here hx rfl (hb hby d1_53) rfl ?_
        show Steps p.tables e below (T67.setTop (mkF m 55 #[.val (.ref r0), .val (.ref ob67), .val (.ref r0), .val (.int (3 : Int32)), .val (.int (((0 : Int32) + (1 : Int32)) + (1 : Int32))), .val (.int (Int32.ofNat z)), .val (.int (Int32.ofNat (z / 64)))] [(.int (Int32.ofNat z)), (.long (1 : Int64)), (.long ((own_or (own_or own_f0 x) y) (z / 64))), (.int (Int32.ofNat (z / 64))), (.ref ob67)])) _
        refine XS.lshl X67.here hx rfl (hb hby d1_55) rfl ?_
        show Steps p.tables e below (T67.setTop (mkF m 56 #[.val (.ref r0), .val (.ref ob67), .val (.ref r0), .val (.int (3 : Int32)), .val (.int (((0 : Int32) + (1 : Int32)) + (1 : Int32))), .val (.int (Int32.ofNat z)), .val (.int (Int32.ofNat (z / 64)))] [(.long ((1 : Int64) <<< ((Int32.ofNat z) &&& 0x3f).toInt64)), (.long ((own_or (own_or own_f0 x) y) (z / 64))), (.int (Int32.ofNat (z / 64))), (.ref ob67)])) _
        refine XS.lor X67.here hx rfl (hb hby d1_56) rfl ?_
        exact kt
      have Vc72 := Vq67
      obtain ⟨cl72, Ar72, qk72, S72, M72, H72, G72⟩ := Vc72
      have hin72 : ¬ ((Int32.ofNat (z / 64)) < 0 ∨ cl72.slots.size ≤ ((Int32.ofNat (z / 64))).toNatClampNeg) := inb_of S72 (own_in (z / 64) (z / 64 + 1) (by omega) hl865)
      obtain ⟨T73, h73, X73, e73, W73, st73⟩ := stJ X67 hx hZ rfl Ar72 (j := (Int32.ofNat (z / 64))) hin72 (g := (mkF m 57 #[.val (.ref r0), .val (.ref ob67), .val (.ref r0), .val (.int (3 : Int32)), .val (.int (((0 : Int32) + (1 : Int32)) + (1 : Int32))), .val (.int (Int32.ofNat z)), .val (.int (Int32.ofNat (z / 64)))] [(.long (((own_or (own_or own_f0 x) y) (z / 64)) ||| ((1 : Int64) <<< ((Int32.ofNat z) &&& 0x3f).toInt64))), (.int (Int32.ofNat (z / 64))), (.ref ob67)])) rfl rfl (hb hby d1_57)
      have V73 : Arv Z h73 ob67 kk67 .long (Int32.ofNat (z / 64 + 1)) (own_l8 (own_or (own_or (own_or own_f0 x) y) z)) (.long (0 : Int64)) := by have q := Arv.set Ar72 qk72 S72 M72 H72 G72 rfl W73 (z / 64) (own_clamp _ (by omega)) (by rw [own_len8]; omega); rw [show (own_l8 (own_or (own_or own_f0 x) y)).set (z / 64) (.long (((own_or (own_or own_f0 x) y) (z / 64)) ||| ((1 : Int64) <<< ((Int32.ofNat z) &&& 0x3f).toInt64))) = own_l8 (own_or (own_or (own_or own_f0 x) y) z) from own_set8 (own_or (own_or own_f0 x) y) z (by omega)] at q; exact q
      have hz73 : ∀ i, (z / 64 + 1) ≤ i → (own_or (own_or (own_or own_f0 x) y) z) i = 0 := own_orz (own_or (own_or own_f0 x) y) z (z / 64 + 1) (by omega) hzg65
      have hla73 : (z / 64 + 1) = 0 ∨ (own_or (own_or (own_or own_f0 x) y) z) ((z / 64 + 1) - 1) ≠ 0 := Or.inr (own_ornew (own_or (own_or own_f0 x) y) z (by omega))
      have N73 := Fr.snoc X73 N67 g_ob67
      have c75 : ∀ t, Steps p.tables e below (T73.setTop (mkF m 64 #[.val (.ref r0), .val (.ref ob67), .val (.ref r0), .val (.int (3 : Int32)), .val (.int ((((0 : Int32) + (1 : Int32)) + (1 : Int32)) + (1 : Int32))), .val (.int (Int32.ofNat z)), .val (.int (Int32.ofNat (z / 64)))] [])) t → Steps p.tables e below (T73.setTop (mkF m 58 #[.val (.ref r0), .val (.ref ob67), .val (.ref r0), .val (.int (3 : Int32)), .val (.int (((0 : Int32) + (1 : Int32)) + (1 : Int32))), .val (.int (Int32.ofNat z)), .val (.int (Int32.ofNat (z / 64)))] [])) t := by
        intro t kt
        show Steps p.tables e below (T73.setTop (mkF m 58 #[.val (.ref r0), .val (.ref ob67), .val (.ref r0), .val (.int (3 : Int32)), .val (.int (((0 : Int32) + (1 : Int32)) + (1 : Int32))), .val (.int (Int32.ofNat z)), .val (.int (Int32.ofNat (z / 64)))] [])) _
        refine XS.iinc X73.here hx rfl (hb hby d1_58) rfl (l' := #[.val (.ref r0), .val (.ref ob67), .val (.ref r0), .val (.int (3 : Int32)), .val (.int ((((0 : Int32) + (1 : Int32)) + (1 : Int32)) + (1 : Int32))), .val (.int (Int32.ofNat z)), .val (.int (Int32.ofNat (z / 64)))]) rfl ?_
        show Steps p.tables e below (T73.setTop (mkF m 61 #[.val (.ref r0), .val (.ref ob67), .val (.ref r0), .val (.int (3 : Int32)), .val (.int ((((0 : Int32) + (1 : Int32)) + (1 : Int32)) + (1 : Int32))), .val (.int (Int32.ofNat z)), .val (.int (Int32.ofNat (z / 64)))] [])) _
        refine XS.goto X73.here hx rfl (pc0 := 61) (pc' := 12) rfl (hb hby d1_61) (by decide) (by decide) ?_
        show Steps p.tables e below (T73.setTop (mkF m 12 #[.val (.ref r0), .val (.ref ob67), .val (.ref r0), .val (.int (3 : Int32)), .val (.int ((((0 : Int32) + (1 : Int32)) + (1 : Int32)) + (1 : Int32))), .val (.int (Int32.ofNat z)), .val (.int (Int32.ofNat (z / 64)))] [])) _
        refine XS.iload X73.here hx rfl (hb hby d1_12) rfl ?_
        show Steps p.tables e below (T73.setTop (mkF m 14 #[.val (.ref r0), .val (.ref ob67), .val (.ref r0), .val (.int (3 : Int32)), .val (.int ((((0 : Int32) + (1 : Int32)) + (1 : Int32)) + (1 : Int32))), .val (.int (Int32.ofNat z)), .val (.int (Int32.ofNat (z / 64)))] [(.int ((((0 : Int32) + (1 : Int32)) + (1 : Int32)) + (1 : Int32)))])) _
        refine XS.iloadN X73.here hx rfl (hb hby d1_14) rfl ?_
        show Steps p.tables e below (T73.setTop (mkF m 15 #[.val (.ref r0), .val (.ref ob67), .val (.ref r0), .val (.int (3 : Int32)), .val (.int ((((0 : Int32) + (1 : Int32)) + (1 : Int32)) + (1 : Int32))), .val (.int (Int32.ofNat z)), .val (.int (Int32.ofNat (z / 64)))] [(.int (3 : Int32)), (.int ((((0 : Int32) + (1 : Int32)) + (1 : Int32)) + (1 : Int32)))])) _
        refine XS.icmpYes X73.here hx rfl (pc0 := 15) (pc' := 64) rfl (hb hby d1_15) rfl (flt (by decide : ¬ (((((0 : Int32) + (1 : Int32)) + (1 : Int32)) + (1 : Int32)) < (3 : Int32)))).2.1 (by decide) (by decide) ?_
        exact kt
      obtain ⟨T74, h74, X74, e74, E74, A74, D74, U74, st74⟩ := newO X73 hx hZ hown (hw _ (List.mem_of_getElem? (i := 18) rfl)) (hw _ (List.mem_of_getElem? (i := 19) rfl)) (hw _ (List.mem_of_getElem? (i := 3) rfl)) e73 (g := (mkF m 64 #[.val (.ref r0), .val (.ref ob67), .val (.ref r0), .val (.int (3 : Int32)), .val (.int ((((0 : Int32) + (1 : Int32)) + (1 : Int32)) + (1 : Int32))), .val (.int (Int32.ofNat z)), .val (.int (Int32.ofNat (z / 64)))] [])) rfl (hb hby d1_64) (by decide) (by decide)
      obtain ⟨b74, g74⟩ : ∃ z, z = h73.size := ⟨_, rfl⟩
      rw [← g74] at A74 D74 U74 st74
      have f76 := (Nat.le_trans (Nat.le_trans f66 Kq67.1) (Keep.of_wr W73).1)
      have f77 := ((f69.trans Kq67 all0).wr W73 (Or.inr sz_ob67))
      have g_b74 : n0 ≤ b74 := Nat.le_trans f76 (Nat.le_of_eq g74.symm)
      have sz_b74 : h0.size ≤ b74 := Nat.le_trans f77.1 (Nat.le_of_eq g74.symm)
      have f78 := ((f35.keep Kq67 nin0).other W73 (Nat.ne_of_lt (Nat.lt_of_lt_of_le lt_r0_67 szq67)))
      have lt_r0_74 := f78.lt
      have f79 := ((f68.keep Kq67 nin0).other W73 (Nat.ne_of_lt (Nat.lt_of_lt_of_le lt_b1_67 szq67)))
      have lt_b1_74 := f79.lt
      have f80 := ((V34.keep Kq67 nin0).other W73 (Nat.ne_of_lt (Nat.lt_of_lt_of_le lt_ob17_67 szq67)))
      have lt_ob17_74 := f80.lt
      have lt_ob67_74 := V73.lt
      have F74_words : Fld Z h74 b74 "com/example/emex/emex/explain/Positions" "words" "[J" .null := D74 (Or.inr (hw _ (List.mem_of_getElem? (i := 27) rfl))) (ty := (.array .long)) (by decide)
      have F74_size : Fld Z h74 b74 "com/example/emex/emex/explain/Positions" "size" "I" (.int (0 : Int32)) := D74 (Or.inr (hw _ (List.mem_of_getElem? (i := 36) rfl))) (ty := .int) (by decide)
      have c81 : ∀ t, Steps p.tables e below (T74.setTop (mkF m 69 #[.val (.ref r0), .val (.ref ob67), .val (.ref r0), .val (.int (3 : Int32)), .val (.int ((((0 : Int32) + (1 : Int32)) + (1 : Int32)) + (1 : Int32))), .val (.int (Int32.ofNat z)), .val (.int (Int32.ofNat (z / 64)))] [(.ref ob67), (.ref b74), (.ref b74)])) t → Steps p.tables e below (T74.setTop (mkF m 67 #[.val (.ref r0), .val (.ref ob67), .val (.ref r0), .val (.int (3 : Int32)), .val (.int ((((0 : Int32) + (1 : Int32)) + (1 : Int32)) + (1 : Int32))), .val (.int (Int32.ofNat z)), .val (.int (Int32.ofNat (z / 64)))] [(.ref b74)])) t := by
        intro t kt
        show Steps p.tables e below (T74.setTop (mkF m 67 #[.val (.ref r0), .val (.ref ob67), .val (.ref r0), .val (.int (3 : Int32)), .val (.int ((((0 : Int32) + (1 : Int32)) + (1 : Int32)) + (1 : Int32))), .val (.int (Int32.ofNat z)), .val (.int (Int32.ofNat (z / 64)))] [(.ref b74)])) _
        refine XS.dup X74.here hx rfl (hb hby d1_67) rfl rfl ?_
        show Steps p.tables e below (T74.setTop (mkF m 68 #[.val (.ref r0), .val (.ref ob67), .val (.ref r0), .val (.int (3 : Int32)), .val (.int ((((0 : Int32) + (1 : Int32)) + (1 : Int32)) + (1 : Int32))), .val (.int (Int32.ofNat z)), .val (.int (Int32.ofNat (z / 64)))] [(.ref b74), (.ref b74)])) _
        refine XS.aloadN X74.here hx rfl (hb hby d1_68) rfl rfl ?_
        exact kt
      have f82 := (Nat.le_trans f76 E74.1)
      have f83 := (V73.ext E74)
      obtain ⟨_, _, ⟨T84, L84, k84, n84⟩, -, X84, ⟨Lc84, hQ84, l84, y84, z84⟩, st84⟩ := X74.specialBack hx (y := (⟨"com/example/emex/emex/explain/Positions", "<init>", "([J)V"⟩ : MethodName)) rfl hown (mvT hZ (hw _ (List.mem_of_getElem? (i := 20) rfl))) (mvT hZ (hw _ (List.mem_of_getElem? (i := 21) rfl))) (mvT hZ (hw _ (List.mem_of_getElem? (i := 22) rfl))) (by decide) (backOf (W := 1) (rm4 l Z a0 hw [] b74 ob67 kk67 (z / 64 + 1) (own_or (own_or (own_or own_f0 x) y) z) h74 n0 f82 f83 hl865 hla73 F74_words F74_size A74 g_b74 (Nat.ne_of_lt (Nat.lt_of_lt_of_le lt_ob67_74 (Nat.le_of_eq g74.symm)))) hZ (hw _ (List.mem_of_getElem? (i := 22) rfl)) (hw _ (List.mem_of_getElem? (i := 3) rfl)) (by decide) (by decide)) (g := (mkF m 69 #[.val (.ref r0), .val (.ref ob67), .val (.ref r0), .val (.int (3 : Int32)), .val (.int ((((0 : Int32) + (1 : Int32)) + (1 : Int32)) + (1 : Int32))), .val (.int (Int32.ofNat z)), .val (.int (Int32.ofNat (z / 64)))] [(.ref ob67), (.ref b74), (.ref b74)])) rfl (by rw [hml]; rfl) (Steps.refl _) (a := b74) (argsL := [(.ref ob67)]) (rest := [(.ref b74)]) (lenOf pd_2 rfl) rfl (by show 2 * 0 + _ ≤ _; exact Nat.le_of_eq rfl) (hb hby d1_69) (fun _ _ => ⟨rfl, e74, (by decide : 4 + 0 ≤ _), (by decide : 18 + 0 ≤ _)⟩)
      dsimp only [Pt.U, Pt.locs, Pt.cells, Pt.slots] at X84 l84 y84 z84 st84 hQ84
      subst l84 y84 z84
      obtain ⟨rfl, N84q, Kq84, Eq84, Fq84_0, Fq84_1⟩ := hQ84
      have N84 := Fr.app N73 N84q
      obtain ⟨fs, hr, hrun, hended, hW, hsame⟩ := X84.leave (v := some (.ref b74)) (fun h => by rw [Bd.returns] at h; cases h)
      have f86 := ((f77.ext E74).trans Kq84 (allS (Or.inr sz_b74) all0))
      have f87 := (f83.keep Kq84 (ninS (Nat.ne_of_lt (Nat.lt_of_lt_of_le lt_ob67_74 (Nat.le_of_eq g74.symm))) nin0))
      refine ⟨_, _, pre0 _ (c2 _ (st1 _ (c3 _ (c8 _ (c9 _ (c12 _ (c13 _ (c14 _ (st17 _ (c20 _ (st22 _ (c25 _ (c26 _ (c30 _ (c32 _ (st34 _ (c37 _ (c38 _ (c62 _ (c63 _ (c64 _ (st67 _ (c71 _ (st73 _ (c75 _ (st74 _ (c81 _ (st84.trans (?_))))))))))))))))))))))))))))), hrun, hended, _, _, rfl, ?_, ⟨_, rfl⟩, hW, hsame.mono (by decide) (by decide)⟩
      · show Steps p.tables e below (T84.setTop (mkF m 72 #[.val (.ref r0), .val (.ref ob67), .val (.ref r0), .val (.int (3 : Int32)), .val (.int ((((0 : Int32) + (1 : Int32)) + (1 : Int32)) + (1 : Int32))), .val (.int (Int32.ofNat z)), .val (.int (Int32.ofNat (z / 64)))] [(.ref b74)])) _
        jvm_step X84.here [X84.here.top, hx, (hb hby d1_72), X84.method', Bd.returns, Value.isRef, FieldType.isReference]
        first | (intro acts; rw [hr _ acts rfl rfl rfl]) | rw [hr _ _ rfl rfl rfl]
        exact Steps.refl _
      · show Q1_3 Z r0 kk dv x y z h0 n0 _ T84.heap _
        exact ⟨b74, ob67, kk67, (z / 64 + 1), hl865, hz73, by omega, by omega, by omega, rfl, N84, f86, g_b74, Eq84, Fq84_0, Fq84_1, f87⟩
  · skip
    have Vc88 := V22
    obtain ⟨cl88, Ar88, qk88, S88, M88, H88, G88⟩ := Vc88
    have c90 : ∀ t, Steps p.tables e below (T22.setTop (mkF m 35 #[.val (.ref r0), .val (.ref ob17), .val (.ref r0), .val (.int (3 : Int32)), .val (.int ((0 : Int32) + (1 : Int32))), .val (.int (Int32.ofNat y)), .val (.int (Int32.ofNat (y / 64)))] [(.int (Int32.ofNat (x / 64 + 1))), (.int (Int32.ofNat (y / 64)))])) t → Steps p.tables e below (T22.setTop (mkF m 31 #[.val (.ref r0), .val (.ref ob17), .val (.ref r0), .val (.int (3 : Int32)), .val (.int ((0 : Int32) + (1 : Int32))), .val (.int (Int32.ofNat y)), .val (.int (Int32.ofNat (y / 64)))] [])) t := by
      intro t kt
      show Steps p.tables e below (T22.setTop (mkF m 31 #[.val (.ref r0), .val (.ref ob17), .val (.ref r0), .val (.int (3 : Int32)), .val (.int ((0 : Int32) + (1 : Int32))), .val (.int (Int32.ofNat y)), .val (.int (Int32.ofNat (y / 64)))] [])) _
      refine XS.iload X22.here hx rfl (hb hby d1_31) rfl ?_
      show Steps p.tables e below (T22.setTop (mkF m 33 #[.val (.ref r0), .val (.ref ob17), .val (.ref r0), .val (.int (3 : Int32)), .val (.int ((0 : Int32) + (1 : Int32))), .val (.int (Int32.ofNat y)), .val (.int (Int32.ofNat (y / 64)))] [(.int (Int32.ofNat (y / 64)))])) _
      refine XS.aloadN X22.here hx rfl (hb hby d1_33) rfl rfl ?_
      show Steps p.tables e below (T22.setTop (mkF m 34 #[.val (.ref r0), .val (.ref ob17), .val (.ref r0), .val (.int (3 : Int32)), .val (.int ((0 : Int32) + (1 : Int32))), .val (.int (Int32.ofNat y)), .val (.int (Int32.ofNat (y / 64)))] [(.ref ob17), (.int (Int32.ofNat (y / 64)))])) _
      refine X22.arraylength hx (by rw [e22]; exact Ar88.1) (State.isArrayOf_alike hZ.alike Ar88.2.1) (g := (mkF m 34 #[.val (.ref r0), .val (.ref ob17), .val (.ref r0), .val (.int (3 : Int32)), .val (.int ((0 : Int32) + (1 : Int32))), .val (.int (Int32.ofNat y)), .val (.int (Int32.ofNat (y / 64)))] [(.ref ob17), (.int (Int32.ofNat (y / 64)))])) rfl rfl (hb hby d1_34) _ ?_
      rw [len_of S88 M88]
      exact kt
    have hd89 : ¬ ((Int32.ofNat (y / 64)) < (Int32.ofNat (x / 64 + 1))) := by rw [own_lt _ _ (by omega) (by omega)]; omega
    have c91 : ∀ t, Steps p.tables e below (T22.setTop (mkF m 43 #[.val (.ref r0), .val (.ref ob17), .val (.ref r0), .val (.int (3 : Int32)), .val (.int ((0 : Int32) + (1 : Int32))), .val (.int (Int32.ofNat y)), .val (.int (Int32.ofNat (y / 64)))] [(.int ((Int32.ofNat (y / 64)) + (1 : Int32))), (.ref ob17)])) t → Steps p.tables e below (T22.setTop (mkF m 35 #[.val (.ref r0), .val (.ref ob17), .val (.ref r0), .val (.int (3 : Int32)), .val (.int ((0 : Int32) + (1 : Int32))), .val (.int (Int32.ofNat y)), .val (.int (Int32.ofNat (y / 64)))] [(.int (Int32.ofNat (x / 64 + 1))), (.int (Int32.ofNat (y / 64)))])) t := by
      intro t kt
      show Steps p.tables e below (T22.setTop (mkF m 35 #[.val (.ref r0), .val (.ref ob17), .val (.ref r0), .val (.int (3 : Int32)), .val (.int ((0 : Int32) + (1 : Int32))), .val (.int (Int32.ofNat y)), .val (.int (Int32.ofNat (y / 64)))] [(.int (Int32.ofNat (x / 64 + 1))), (.int (Int32.ofNat (y / 64)))])) _
      refine XS.icmpNo X22.here hx rfl (hb hby d1_35) rfl (flt (hd89)).1 ?_
      show Steps p.tables e below (T22.setTop (mkF m 38 #[.val (.ref r0), .val (.ref ob17), .val (.ref r0), .val (.int (3 : Int32)), .val (.int ((0 : Int32) + (1 : Int32))), .val (.int (Int32.ofNat y)), .val (.int (Int32.ofNat (y / 64)))] [])) _
      refine XS.aloadN X22.here hx rfl (hb hby d1_38) rfl rfl ?_
      show Steps p.tables e below (T22.setTop (mkF m 39 #[.val (.ref r0), .val (.ref ob17), .val (.ref r0), .val (.int (3 : Int32)), .val (.int ((0 : Int32) + (1 : Int32))), .val (.int (Int32.ofNat y)), .val (.int (Int32.ofNat (y / 64)))] [(.ref ob17)])) _
      refine XS.iload X22.here hx rfl (hb hby d1_39) rfl ?_
      show Steps p.tables e below (T22.setTop (mkF m 41 #[.val (.ref r0), .val (.ref ob17), .val (.ref r0), .val (.int (3 : Int32)), .val (.int ((0 : Int32) + (1 : Int32))), .val (.int (Int32.ofNat y)), .val (.int (Int32.ofNat (y / 64)))] [(.int (Int32.ofNat (y / 64))), (.ref ob17)])) _
      refine XS.iconst X22.here hx rfl (hb hby d1_41) ?_
      show Steps p.tables e below (T22.setTop (mkF m 42 #[.val (.ref r0), .val (.ref ob17), .val (.ref r0), .val (.int (3 : Int32)), .val (.int ((0 : Int32) + (1 : Int32))), .val (.int (Int32.ofNat y)), .val (.int (Int32.ofNat (y / 64)))] [(.int (1 : Int32)), (.int (Int32.ofNat (y / 64))), (.ref ob17)])) _
      refine XS.iadd X22.here hx rfl (hb hby d1_42) rfl ?_
      exact kt
    have c92 : ∀ t, Steps p.tables e below (T22.setTop (mkF m 43 #[.val (.ref r0), .val (.ref ob17), .val (.ref r0), .val (.int (3 : Int32)), .val (.int ((0 : Int32) + (1 : Int32))), .val (.int (Int32.ofNat y)), .val (.int (Int32.ofNat (y / 64)))] [(.int (Int32.ofNat (y / 64 + 1))), (.ref ob17)])) t → Steps p.tables e below (T22.setTop (mkF m 43 #[.val (.ref r0), .val (.ref ob17), .val (.ref r0), .val (.int (3 : Int32)), .val (.int ((0 : Int32) + (1 : Int32))), .val (.int (Int32.ofNat y)), .val (.int (Int32.ofNat (y / 64)))] [(.int ((Int32.ofNat (y / 64)) + (1 : Int32))), (.ref ob17)])) t := fun t kt => castTop (congrArg (fun zv => (mkF m 43 #[.val (.ref r0), .val (.ref ob17), .val (.ref r0), .val (.int (3 : Int32)), .val (.int ((0 : Int32) + (1 : Int32))), .val (.int (Int32.ofNat y)), .val (.int (Int32.ofNat (y / 64)))] [(.int zv), (.ref ob17)])) (show ((Int32.ofNat (y / 64)) + (1 : Int32)) = (Int32.ofNat (y / 64 + 1)) from own_up _ (by omega))) kt
    have hl893 : y / 64 + 1 ≤ 8 := by omega
    have hzg93 : ∀ i, y / 64 + 1 ≤ i → (own_or own_f0 x) i = 0 := fun i hi => hz22 i (by omega)
    have f94 := (Nat.le_trans (Nat.le_trans f16 Kq17.1) (Keep.of_wr W22).1)
    obtain ⟨_, _, ⟨T95, L95, k95, n95⟩, -, X95, ⟨Lc95, hQ95, l95, y95, z95⟩, st95⟩ := Jvm.LawKit.callS X22 hx (y := (⟨"java/util/Arrays", "copyOf", "([JI)[J"⟩ : MethodName)) hown (mvT hZ (hw _ (List.mem_of_getElem? (i := 6) rfl))) (mvT hZ (hw _ (List.mem_of_getElem? (i := 7) rfl))) (mvT hZ (hw _ (List.mem_of_getElem? (i := 8) rfl))) (mvT hZ (hw _ (List.mem_of_getElem? (i := 9) rfl))) (by decide) (backOf (W := 0) (rm2 l Z a0 hw []  ob17 (y / 64 + 1) kk17 (x / 64 + 1) (own_or own_f0 x) h22 n0 f94 V22 (by omega) (by omega) hl815 hz22) hZ (hw _ (List.mem_of_getElem? (i := 9) rfl)) (hw _ (List.mem_of_getElem? (i := 8) rfl)) (by decide) (by decide)) (g := (mkF m 43 #[.val (.ref r0), .val (.ref ob17), .val (.ref r0), .val (.int (3 : Int32)), .val (.int ((0 : Int32) + (1 : Int32))), .val (.int (Int32.ofNat y)), .val (.int (Int32.ofNat (y / 64)))] [(.int (Int32.ofNat (y / 64 + 1))), (.ref ob17)])) rfl (by rw [hml]; rfl) (argsL := [(.ref ob17), (.int (Int32.ofNat (y / 64 + 1)))]) (rest := []) (lenOf pd_3 rfl) rfl (by show 2 * 0 + _ ≤ _; exact Nat.le_of_eq rfl) (hb hby d1_43) (fun _ _ => ⟨rfl, e22, (by decide : 2 + 1 ≤ _), (by decide : 8 + 8 ≤ _)⟩)
    dsimp only [Pt.U, Pt.locs, Pt.cells, Pt.slots] at X95 l95 y95 z95 st95 hQ95
    subst l95 y95 z95
    obtain ⟨ob95, kk95, rfl, N95q, Kq95, g_ob95, szq95, Vq95⟩ := hQ95
    have N95 := Fr.app N22 N95q
    have lt_r0_95 := f23.lt
    have f96 := ((VP4.keep Kq17 nin0).other W22 (Nat.ne_of_lt (Nat.lt_of_lt_of_le lt_b1_17 szq17)))
    have lt_b1_95 := f96.lt
    have lt_ob17_95 := V22.lt
    have f97 := ((f18.trans Kq17 all0).wr W22 (Or.inr sz_ob17))
    have sz_ob95 : h0.size ≤ ob95 := Nat.le_trans f97.1 szq95
    have Vc98 := Vq95
    obtain ⟨cl98, Ar98, qk98, S98, M98, H98, G98⟩ := Vc98
    have hin98 : ¬ ((Int32.ofNat (y / 64)) < 0 ∨ cl98.slots.size ≤ ((Int32.ofNat (y / 64))).toNatClampNeg) := inb_of S98 (own_in (y / 64) (y / 64 + 1) (by omega) hl893)
    have hat98 : cl98.slots[((Int32.ofNat (y / 64))).toNatClampNeg]? = some (.long ((own_or own_f0 x) (y / 64))) := H98.at hin98 (own_at8' (own_or own_f0 x) (y / 64) (by omega) _)
    have c99 : ∀ t, Steps p.tables e below (T95.setTop (mkF m 57 #[.val (.ref r0), .val (.ref ob95), .val (.ref r0), .val (.int (3 : Int32)), .val (.int ((0 : Int32) + (1 : Int32))), .val (.int (Int32.ofNat y)), .val (.int (Int32.ofNat (y / 64)))] [(.long (((own_or own_f0 x) (y / 64)) ||| ((1 : Int64) <<< ((Int32.ofNat y) &&& 0x3f).toInt64))), (.int (Int32.ofNat (y / 64))), (.ref ob95)])) t → Steps p.tables e below (T95.setTop (mkF m 46 #[.val (.ref r0), .val (.ref ob17), .val (.ref r0), .val (.int (3 : Int32)), .val (.int ((0 : Int32) + (1 : Int32))), .val (.int (Int32.ofNat y)), .val (.int (Int32.ofNat (y / 64)))] [(.ref ob95)])) t := by
      intro t kt
      show Steps p.tables e below (T95.setTop (mkF m 46 #[.val (.ref r0), .val (.ref ob17), .val (.ref r0), .val (.int (3 : Int32)), .val (.int ((0 : Int32) + (1 : Int32))), .val (.int (Int32.ofNat y)), .val (.int (Int32.ofNat (y / 64)))] [(.ref ob95)])) _
      refine XS.astoreN X95.here hx rfl (hb hby d1_46) rfl rfl (l' := #[.val (.ref r0), .val (.ref ob95), .val (.ref r0), .val (.int (3 : Int32)), .val (.int ((0 : Int32) + (1 : Int32))), .val (.int (Int32.ofNat y)), .val (.int (Int32.ofNat (y / 64)))]) rfl ?_
      show Steps p.tables e below (T95.setTop (mkF m 47 #[.val (.ref r0), .val (.ref ob95), .val (.ref r0), .val (.int (3 : Int32)), .val (.int ((0 : Int32) + (1 : Int32))), .val (.int (Int32.ofNat y)), .val (.int (Int32.ofNat (y / 64)))] [])) _
      refine XS.aloadN X95.here hx rfl (hb hby d1_47) rfl rfl ?_
      show Steps p.tables e below (T95.setTop (mkF m 48 #[.val (.ref r0), .val (.ref ob95), .val (.ref r0), .val (.int (3 : Int32)), .val (.int ((0 : Int32) + (1 : Int32))), .val (.int (Int32.ofNat y)), .val (.int (Int32.ofNat (y / 64)))] [(.ref ob95)])) _
      refine XS.iload X95.here hx rfl (hb hby d1_48) rfl ?_
      show Steps p.tables e below (T95.setTop (mkF m 50 #[.val (.ref r0), .val (.ref ob95), .val (.ref r0), .val (.int (3 : Int32)), .val (.int ((0 : Int32) + (1 : Int32))), .val (.int (Int32.ofNat y)), .val (.int (Int32.ofNat (y / 64)))] [(.int (Int32.ofNat (y / 64))), (.ref ob95)])) _
      refine Jvm.Free.XT.dup2 X95.here hx rfl (hb hby d1_50) rfl rfl rfl ?_
      show Steps p.tables e below (T95.setTop (mkF m 51 #[.val (.ref r0), .val (.ref ob95), .val (.ref r0), .val (.int (3 : Int32)), .val (.int ((0 : Int32) + (1 : Int32))), .val (.int (Int32.ofNat y)), .val (.int (Int32.ofNat (y / 64)))] [(.int (Int32.ofNat (y / 64))), (.ref ob95), (.int (Int32.ofNat (y / 64))), (.ref ob95)])) _
      refine X95.laload hx (j := (Int32.ofNat (y / 64))) (v := (.long ((own_or own_f0 x) (y / 64)))) Ar98.1 (State.isArrayOf_alike hZ.alike Ar98.2.1) Ar98.2.2 hin98 hat98 (g := (mkF m 51 #[.val (.ref r0), .val (.ref ob95), .val (.ref r0), .val (.int (3 : Int32)), .val (.int ((0 : Int32) + (1 : Int32))), .val (.int (Int32.ofNat y)), .val (.int (Int32.ofNat (y / 64)))] [(.int (Int32.ofNat (y / 64))), (.ref ob95), (.int (Int32.ofNat (y / 64))), (.ref ob95)])) rfl rfl (hb hby d1_51) _ ?_
      show Steps p.tables e below (T95.setTop (mkF m 52 #[.val (.ref r0), .val (.ref ob95), .val (.ref r0), .val (.int (3 : Int32)), .val (.int ((0 : Int32) + (1 : Int32))), .val (.int (Int32.ofNat y)), .val (.int (Int32.ofNat (y / 64)))] [(.long ((own_or own_f0 x) (y / 64))), (.int (Int32.ofNat (y / 64))), (.ref ob95)])) _
      refine XS.lconst X95.here hx rfl (hb hby d1_52) ?_
      show Steps p.tables e below (T95.setTop (mkF m 53 #[.val (.ref r0), .val (.ref ob95), .val (.ref r0), .val (.int (3 : Int32)), .val (.int ((0 : Int32) + (1 : Int32))), .val (.int (Int32.ofNat y)), .val (.int (Int32.ofNat (y / 64)))] [(.long (1 : Int64)), (.long ((own_or own_f0 x) (y / 64))), (.int (Int32.ofNat (y / 64))), (.ref ob95)])) _
      refine XS.iload X95.here hx rfl (hb hby d1_53) rfl ?_
      show Steps p.tables e below (T95.setTop (mkF m 55 #[.val (.ref r0), .val (.ref ob95), .val (.ref r0), .val (.int (3 : Int32)), .val (.int ((0 : Int32) + (1 : Int32))), .val (.int (Int32.ofNat y)), .val (.int (Int32.ofNat (y / 64)))] [(.int (Int32.ofNat y)), (.long (1 : Int64)), (.long ((own_or own_f0 x) (y / 64))), (.int (Int32.ofNat (y / 64))), (.ref ob95)])) _
      refine XS.lshl X95.here hx rfl (hb hby d1_55) rfl ?_
      show Steps p.tables e below (T95.setTop (mkF m 56 #[.val (.ref r0), .val (.ref ob95), .val (.ref r0), .val (.int (3 : Int32)), .val (.int ((0 : Int32) + (1 : Int32))), .val (.int (Int32.ofNat y)), .val (.int (Int32.ofNat (y / 64)))] [(.long ((1 : Int64) <<< ((Int32.ofNat y) &&& 0x3f).toInt64)), (.long ((own_or own_f0 x) (y / 64))), (.int (Int32.ofNat (y / 64))), (.ref ob95)])) _
      refine XS.lor X95.here hx rfl (hb hby d1_56) rfl ?_
      exact kt
    have Vc100 := Vq95
    obtain ⟨cl100, Ar100, qk100, S100, M100, H100, G100⟩ := Vc100
    have hin100 : ¬ ((Int32.ofNat (y / 64)) < 0 ∨ cl100.slots.size ≤ ((Int32.ofNat (y / 64))).toNatClampNeg) := inb_of S100 (own_in (y / 64) (y / 64 + 1) (by omega) hl893)
    obtain ⟨T101, h101, X101, e101, W101, st101⟩ := stJ X95 hx hZ rfl Ar100 (j := (Int32.ofNat (y / 64))) hin100 (g := (mkF m 57 #[.val (.ref r0), .val (.ref ob95), .val (.ref r0), .val (.int (3 : Int32)), .val (.int ((0 : Int32) + (1 : Int32))), .val (.int (Int32.ofNat y)), .val (.int (Int32.ofNat (y / 64)))] [(.long (((own_or own_f0 x) (y / 64)) ||| ((1 : Int64) <<< ((Int32.ofNat y) &&& 0x3f).toInt64))), (.int (Int32.ofNat (y / 64))), (.ref ob95)])) rfl rfl (hb hby d1_57)
    have V101 : Arv Z h101 ob95 kk95 .long (Int32.ofNat (y / 64 + 1)) (own_l8 (own_or (own_or own_f0 x) y)) (.long (0 : Int64)) := by have q := Arv.set Ar100 qk100 S100 M100 H100 G100 rfl W101 (y / 64) (own_clamp _ (by omega)) (by rw [own_len8]; omega); rw [show (own_l8 (own_or own_f0 x)).set (y / 64) (.long (((own_or own_f0 x) (y / 64)) ||| ((1 : Int64) <<< ((Int32.ofNat y) &&& 0x3f).toInt64))) = own_l8 (own_or (own_or own_f0 x) y) from own_set8 (own_or own_f0 x) y (by omega)] at q; exact q
    have hz101 : ∀ i, (y / 64 + 1) ≤ i → (own_or (own_or own_f0 x) y) i = 0 := own_orz (own_or own_f0 x) y (y / 64 + 1) (by omega) hzg93
    have hla101 : (y / 64 + 1) = 0 ∨ (own_or (own_or own_f0 x) y) ((y / 64 + 1) - 1) ≠ 0 := Or.inr (own_ornew (own_or own_f0 x) y (by omega))
    have N101 := Fr.snoc X101 N95 g_ob95
    have f102 := ((f23.keep Kq95 nin0).other W101 (Nat.ne_of_lt (Nat.lt_of_lt_of_le lt_r0_95 szq95)))
    have Vc103 := f102
    obtain ⟨cl103, Ar103, qk103, S103, M103, H103, G103⟩ := Vc103
    have hin103 : ¬ ((((0 : Int32) + (1 : Int32)) + (1 : Int32)) < 0 ∨ cl103.slots.size ≤ ((((0 : Int32) + (1 : Int32)) + (1 : Int32))).toNatClampNeg) := inb_of S103 ⟨by decide, by decide⟩
    have hat103 : cl103.slots[((((0 : Int32) + (1 : Int32)) + (1 : Int32))).toNatClampNeg]? = some (.int (Int32.ofNat z)) := H103.at hin103 rfl
    have c104 : ∀ t, Steps p.tables e below (T101.setTop (mkF m 31 #[.val (.ref r0), .val (.ref ob95), .val (.ref r0), .val (.int (3 : Int32)), .val (.int (((0 : Int32) + (1 : Int32)) + (1 : Int32))), .val (.int (Int32.ofNat z)), .val (.int (((Int32.ofNat z).toUInt32 >>> ((6 : Int32) &&& 31).toUInt32).toInt32))] [])) t → Steps p.tables e below (T101.setTop (mkF m 58 #[.val (.ref r0), .val (.ref ob95), .val (.ref r0), .val (.int (3 : Int32)), .val (.int ((0 : Int32) + (1 : Int32))), .val (.int (Int32.ofNat y)), .val (.int (Int32.ofNat (y / 64)))] [])) t := by
      intro t kt
      show Steps p.tables e below (T101.setTop (mkF m 58 #[.val (.ref r0), .val (.ref ob95), .val (.ref r0), .val (.int (3 : Int32)), .val (.int ((0 : Int32) + (1 : Int32))), .val (.int (Int32.ofNat y)), .val (.int (Int32.ofNat (y / 64)))] [])) _
      refine XS.iinc X101.here hx rfl (hb hby d1_58) rfl (l' := #[.val (.ref r0), .val (.ref ob95), .val (.ref r0), .val (.int (3 : Int32)), .val (.int (((0 : Int32) + (1 : Int32)) + (1 : Int32))), .val (.int (Int32.ofNat y)), .val (.int (Int32.ofNat (y / 64)))]) rfl ?_
      show Steps p.tables e below (T101.setTop (mkF m 61 #[.val (.ref r0), .val (.ref ob95), .val (.ref r0), .val (.int (3 : Int32)), .val (.int (((0 : Int32) + (1 : Int32)) + (1 : Int32))), .val (.int (Int32.ofNat y)), .val (.int (Int32.ofNat (y / 64)))] [])) _
      refine XS.goto X101.here hx rfl (pc0 := 61) (pc' := 12) rfl (hb hby d1_61) (by decide) (by decide) ?_
      show Steps p.tables e below (T101.setTop (mkF m 12 #[.val (.ref r0), .val (.ref ob95), .val (.ref r0), .val (.int (3 : Int32)), .val (.int (((0 : Int32) + (1 : Int32)) + (1 : Int32))), .val (.int (Int32.ofNat y)), .val (.int (Int32.ofNat (y / 64)))] [])) _
      refine XS.iload X101.here hx rfl (hb hby d1_12) rfl ?_
      show Steps p.tables e below (T101.setTop (mkF m 14 #[.val (.ref r0), .val (.ref ob95), .val (.ref r0), .val (.int (3 : Int32)), .val (.int (((0 : Int32) + (1 : Int32)) + (1 : Int32))), .val (.int (Int32.ofNat y)), .val (.int (Int32.ofNat (y / 64)))] [(.int (((0 : Int32) + (1 : Int32)) + (1 : Int32)))])) _
      refine XS.iloadN X101.here hx rfl (hb hby d1_14) rfl ?_
      show Steps p.tables e below (T101.setTop (mkF m 15 #[.val (.ref r0), .val (.ref ob95), .val (.ref r0), .val (.int (3 : Int32)), .val (.int (((0 : Int32) + (1 : Int32)) + (1 : Int32))), .val (.int (Int32.ofNat y)), .val (.int (Int32.ofNat (y / 64)))] [(.int (3 : Int32)), (.int (((0 : Int32) + (1 : Int32)) + (1 : Int32)))])) _
      refine XS.icmpNo X101.here hx rfl (hb hby d1_15) rfl (tlt (by decide : (((0 : Int32) + (1 : Int32)) + (1 : Int32)) < (3 : Int32))).2.1 ?_
      show Steps p.tables e below (T101.setTop (mkF m 18 #[.val (.ref r0), .val (.ref ob95), .val (.ref r0), .val (.int (3 : Int32)), .val (.int (((0 : Int32) + (1 : Int32)) + (1 : Int32))), .val (.int (Int32.ofNat y)), .val (.int (Int32.ofNat (y / 64)))] [])) _
      refine XS.aloadN X101.here hx rfl (hb hby d1_18) rfl rfl ?_
      show Steps p.tables e below (T101.setTop (mkF m 19 #[.val (.ref r0), .val (.ref ob95), .val (.ref r0), .val (.int (3 : Int32)), .val (.int (((0 : Int32) + (1 : Int32)) + (1 : Int32))), .val (.int (Int32.ofNat y)), .val (.int (Int32.ofNat (y / 64)))] [(.ref r0)])) _
      refine XS.iload X101.here hx rfl (hb hby d1_19) rfl ?_
      show Steps p.tables e below (T101.setTop (mkF m 21 #[.val (.ref r0), .val (.ref ob95), .val (.ref r0), .val (.int (3 : Int32)), .val (.int (((0 : Int32) + (1 : Int32)) + (1 : Int32))), .val (.int (Int32.ofNat y)), .val (.int (Int32.ofNat (y / 64)))] [(.int (((0 : Int32) + (1 : Int32)) + (1 : Int32))), (.ref r0)])) _
      refine X101.iaload hx (j := (((0 : Int32) + (1 : Int32)) + (1 : Int32))) (v := (.int (Int32.ofNat z))) (by rw [e101]; exact Ar103.1) (State.isArrayOf_alike hZ.alike Ar103.2.1) Ar103.2.2 hin103 hat103 (g := (mkF m 21 #[.val (.ref r0), .val (.ref ob95), .val (.ref r0), .val (.int (3 : Int32)), .val (.int (((0 : Int32) + (1 : Int32)) + (1 : Int32))), .val (.int (Int32.ofNat y)), .val (.int (Int32.ofNat (y / 64)))] [(.int (((0 : Int32) + (1 : Int32)) + (1 : Int32))), (.ref r0)])) rfl rfl (hb hby d1_21) _ ?_
      show Steps p.tables e below (T101.setTop (mkF m 22 #[.val (.ref r0), .val (.ref ob95), .val (.ref r0), .val (.int (3 : Int32)), .val (.int (((0 : Int32) + (1 : Int32)) + (1 : Int32))), .val (.int (Int32.ofNat y)), .val (.int (Int32.ofNat (y / 64)))] [(.int (Int32.ofNat z))])) _
      refine XS.istore X101.here hx rfl (hb hby d1_22) rfl (l' := #[.val (.ref r0), .val (.ref ob95), .val (.ref r0), .val (.int (3 : Int32)), .val (.int (((0 : Int32) + (1 : Int32)) + (1 : Int32))), .val (.int (Int32.ofNat z)), .val (.int (Int32.ofNat (y / 64)))]) rfl ?_
      show Steps p.tables e below (T101.setTop (mkF m 24 #[.val (.ref r0), .val (.ref ob95), .val (.ref r0), .val (.int (3 : Int32)), .val (.int (((0 : Int32) + (1 : Int32)) + (1 : Int32))), .val (.int (Int32.ofNat z)), .val (.int (Int32.ofNat (y / 64)))] [])) _
      refine XS.iload X101.here hx rfl (hb hby d1_24) rfl ?_
      show Steps p.tables e below (T101.setTop (mkF m 26 #[.val (.ref r0), .val (.ref ob95), .val (.ref r0), .val (.int (3 : Int32)), .val (.int (((0 : Int32) + (1 : Int32)) + (1 : Int32))), .val (.int (Int32.ofNat z)), .val (.int (Int32.ofNat (y / 64)))] [(.int (Int32.ofNat z))])) _
      refine XS.bipush X101.here hx rfl (hb hby d1_26) ?_
      show Steps p.tables e below (T101.setTop (mkF m 28 #[.val (.ref r0), .val (.ref ob95), .val (.ref r0), .val (.int (3 : Int32)), .val (.int (((0 : Int32) + (1 : Int32)) + (1 : Int32))), .val (.int (Int32.ofNat z)), .val (.int (Int32.ofNat (y / 64)))] [(.int (6 : Int32)), (.int (Int32.ofNat z))])) _
      refine XS.iushr X101.here hx rfl (hb hby d1_28) rfl ?_
      show Steps p.tables e below (T101.setTop (mkF m 29 #[.val (.ref r0), .val (.ref ob95), .val (.ref r0), .val (.int (3 : Int32)), .val (.int (((0 : Int32) + (1 : Int32)) + (1 : Int32))), .val (.int (Int32.ofNat z)), .val (.int (Int32.ofNat (y / 64)))] [(.int (((Int32.ofNat z).toUInt32 >>> ((6 : Int32) &&& 31).toUInt32).toInt32))])) _
      refine XS.istore X101.here hx rfl (hb hby d1_29) rfl (l' := #[.val (.ref r0), .val (.ref ob95), .val (.ref r0), .val (.int (3 : Int32)), .val (.int (((0 : Int32) + (1 : Int32)) + (1 : Int32))), .val (.int (Int32.ofNat z)), .val (.int (((Int32.ofNat z).toUInt32 >>> ((6 : Int32) &&& 31).toUInt32).toInt32))]) rfl ?_
      exact kt
    have c105 : ∀ t, Steps p.tables e below (T101.setTop (mkF m 31 #[.val (.ref r0), .val (.ref ob95), .val (.ref r0), .val (.int (3 : Int32)), .val (.int (((0 : Int32) + (1 : Int32)) + (1 : Int32))), .val (.int (Int32.ofNat z)), .val (.int (Int32.ofNat (z / 64)))] [])) t → Steps p.tables e below (T101.setTop (mkF m 31 #[.val (.ref r0), .val (.ref ob95), .val (.ref r0), .val (.int (3 : Int32)), .val (.int (((0 : Int32) + (1 : Int32)) + (1 : Int32))), .val (.int (Int32.ofNat z)), .val (.int (((Int32.ofNat z).toUInt32 >>> ((6 : Int32) &&& 31).toUInt32).toInt32))] [])) t := fun t kt => castTop (congrArg (fun zv => (mkF m 31 #[.val (.ref r0), .val (.ref ob95), .val (.ref r0), .val (.int (3 : Int32)), .val (.int (((0 : Int32) + (1 : Int32)) + (1 : Int32))), .val (.int (Int32.ofNat z)), .val (.int zv)] [])) (show (((Int32.ofNat z).toUInt32 >>> ((6 : Int32) &&& 31).toUInt32).toInt32) = (Int32.ofNat (z / 64)) from own_w6 z (by omega))) kt
    by_cases hg106 : z / 64 < (y / 64 + 1)
    · skip
      have Vc107 := V101
      obtain ⟨cl107, Ar107, qk107, S107, M107, H107, G107⟩ := Vc107
      have c109 : ∀ t, Steps p.tables e below (T101.setTop (mkF m 35 #[.val (.ref r0), .val (.ref ob95), .val (.ref r0), .val (.int (3 : Int32)), .val (.int (((0 : Int32) + (1 : Int32)) + (1 : Int32))), .val (.int (Int32.ofNat z)), .val (.int (Int32.ofNat (z / 64)))] [(.int (Int32.ofNat (y / 64 + 1))), (.int (Int32.ofNat (z / 64)))])) t → Steps p.tables e below (T101.setTop (mkF m 31 #[.val (.ref r0), .val (.ref ob95), .val (.ref r0), .val (.int (3 : Int32)), .val (.int (((0 : Int32) + (1 : Int32)) + (1 : Int32))), .val (.int (Int32.ofNat z)), .val (.int (Int32.ofNat (z / 64)))] [])) t := by
        intro t kt
        show Steps p.tables e below (T101.setTop (mkF m 31 #[.val (.ref r0), .val (.ref ob95), .val (.ref r0), .val (.int (3 : Int32)), .val (.int (((0 : Int32) + (1 : Int32)) + (1 : Int32))), .val (.int (Int32.ofNat z)), .val (.int (Int32.ofNat (z / 64)))] [])) _
        refine XS.iload X101.here hx rfl (hb hby d1_31) rfl ?_
        show Steps p.tables e below (T101.setTop (mkF m 33 #[.val (.ref r0), .val (.ref ob95), .val (.ref r0), .val (.int (3 : Int32)), .val (.int (((0 : Int32) + (1 : Int32)) + (1 : Int32))), .val (.int (Int32.ofNat z)), .val (.int (Int32.ofNat (z / 64)))] [(.int (Int32.ofNat (z / 64)))])) _
        refine XS.aloadN X101.here hx rfl (hb hby d1_33) rfl rfl ?_
        show Steps p.tables e below (T101.setTop (mkF m 34 #[.val (.ref r0), .val (.ref ob95), .val (.ref r0), .val (.int (3 : Int32)), .val (.int (((0 : Int32) + (1 : Int32)) + (1 : Int32))), .val (.int (Int32.ofNat z)), .val (.int (Int32.ofNat (z / 64)))] [(.ref ob95), (.int (Int32.ofNat (z / 64)))])) _
        refine X101.arraylength hx (by rw [e101]; exact Ar107.1) (State.isArrayOf_alike hZ.alike Ar107.2.1) (g := (mkF m 34 #[.val (.ref r0), .val (.ref ob95), .val (.ref r0), .val (.int (3 : Int32)), .val (.int (((0 : Int32) + (1 : Int32)) + (1 : Int32))), .val (.int (Int32.ofNat z)), .val (.int (Int32.ofNat (z / 64)))] [(.ref ob95), (.int (Int32.ofNat (z / 64)))])) rfl rfl (hb hby d1_34) _ ?_
        rw [len_of S107 M107]
        exact kt
      have hd108 : (Int32.ofNat (z / 64)) < (Int32.ofNat (y / 64 + 1)) := by rw [own_lt _ _ (by omega) (by omega)]; omega
      have Vc110 := V101
      obtain ⟨cl110, Ar110, qk110, S110, M110, H110, G110⟩ := Vc110
      have hin110 : ¬ ((Int32.ofNat (z / 64)) < 0 ∨ cl110.slots.size ≤ ((Int32.ofNat (z / 64))).toNatClampNeg) := inb_of S110 (own_in (z / 64) (y / 64 + 1) (by omega) hl893)
      have hat110 : cl110.slots[((Int32.ofNat (z / 64))).toNatClampNeg]? = some (.long ((own_or (own_or own_f0 x) y) (z / 64))) := H110.at hin110 (own_at8' (own_or (own_or own_f0 x) y) (z / 64) (by omega) _)
      have c111 : ∀ t, Steps p.tables e below (T101.setTop (mkF m 57 #[.val (.ref r0), .val (.ref ob95), .val (.ref r0), .val (.int (3 : Int32)), .val (.int (((0 : Int32) + (1 : Int32)) + (1 : Int32))), .val (.int (Int32.ofNat z)), .val (.int (Int32.ofNat (z / 64)))] [(.long (((own_or (own_or own_f0 x) y) (z / 64)) ||| ((1 : Int64) <<< ((Int32.ofNat z) &&& 0x3f).toInt64))), (.int (Int32.ofNat (z / 64))), (.ref ob95)])) t → Steps p.tables e below (T101.setTop (mkF m 35 #[.val (.ref r0), .val (.ref ob95), .val (.ref r0), .val (.int (3 : Int32)), .val (.int (((0 : Int32) + (1 : Int32)) + (1 : Int32))), .val (.int (Int32.ofNat z)), .val (.int (Int32.ofNat (z / 64)))] [(.int (Int32.ofNat (y / 64 + 1))), (.int (Int32.ofNat (z / 64)))])) t := by
        intro t kt
        show Steps p.tables e below (T101.setTop (mkF m 35 #[.val (.ref r0), .val (.ref ob95), .val (.ref r0), .val (.int (3 : Int32)), .val (.int (((0 : Int32) + (1 : Int32)) + (1 : Int32))), .val (.int (Int32.ofNat z)), .val (.int (Int32.ofNat (z / 64)))] [(.int (Int32.ofNat (y / 64 + 1))), (.int (Int32.ofNat (z / 64)))])) _
        refine XS.icmpYes X101.here hx rfl (pc0 := 35) (pc' := 47) rfl (hb hby d1_35) rfl (tlt (hd108)).1 (by decide) (by decide) ?_
        show Steps p.tables e below (T101.setTop (mkF m 47 #[.val (.ref r0), .val (.ref ob95), .val (.ref r0), .val (.int (3 : Int32)), .val (.int (((0 : Int32) + (1 : Int32)) + (1 : Int32))), .val (.int (Int32.ofNat z)), .val (.int (Int32.ofNat (z / 64)))] [])) _
        refine XS.aloadN X101.here hx rfl (hb hby d1_47) rfl rfl ?_
        show Steps p.tables e below (T101.setTop (mkF m 48 #[.val (.ref r0), .val (.ref ob95), .val (.ref r0), .val (.int (3 : Int32)), .val (.int (((0 : Int32) + (1 : Int32)) + (1 : Int32))), .val (.int (Int32.ofNat z)), .val (.int (Int32.ofNat (z / 64)))] [(.ref ob95)])) _
        refine XS.iload X101.here hx rfl (hb hby d1_48) rfl ?_
        show Steps p.tables e below (T101.setTop (mkF m 50 #[.val (.ref r0), .val (.ref ob95), .val (.ref r0), .val (.int (3 : Int32)), .val (.int (((0 : Int32) + (1 : Int32)) + (1 : Int32))), .val (.int (Int32.ofNat z)), .val (.int (Int32.ofNat (z / 64)))] [(.int (Int32.ofNat (z / 64))), (.ref ob95)])) _
        refine Jvm.Free.XT.dup2 X101.here hx rfl (hb hby d1_50) rfl rfl rfl ?_
        show Steps p.tables e below (T101.setTop (mkF m 51 #[.val (.ref r0), .val (.ref ob95), .val (.ref r0), .val (.int (3 : Int32)), .val (.int (((0 : Int32) + (1 : Int32)) + (1 : Int32))), .val (.int (Int32.ofNat z)), .val (.int (Int32.ofNat (z / 64)))] [(.int (Int32.ofNat (z / 64))), (.ref ob95), (.int (Int32.ofNat (z / 64))), (.ref ob95)])) _
        refine X101.laload hx (j := (Int32.ofNat (z / 64))) (v := (.long ((own_or (own_or own_f0 x) y) (z / 64)))) (by rw [e101]; exact Ar110.1) (State.isArrayOf_alike hZ.alike Ar110.2.1) Ar110.2.2 hin110 hat110 (g := (mkF m 51 #[.val (.ref r0), .val (.ref ob95), .val (.ref r0), .val (.int (3 : Int32)), .val (.int (((0 : Int32) + (1 : Int32)) + (1 : Int32))), .val (.int (Int32.ofNat z)), .val (.int (Int32.ofNat (z / 64)))] [(.int (Int32.ofNat (z / 64))), (.ref ob95), (.int (Int32.ofNat (z / 64))), (.ref ob95)])) rfl rfl (hb hby d1_51) _ ?_
        show Steps p.tables e below (T101.setTop (mkF m 52 #[.val (.ref r0), .val (.ref ob95), .val (.ref r0), .val (.int (3 : Int32)), .val (.int (((0 : Int32) + (1 : Int32)) + (1 : Int32))), .val (.int (Int32.ofNat z)), .val (.int (Int32.ofNat (z / 64)))] [(.long ((own_or (own_or own_f0 x) y) (z / 64))), (.int (Int32.ofNat (z / 64))), (.ref ob95)])) _
        refine XS.lconst X101.here hx rfl (hb hby d1_52) ?_
        show Steps p.tables e below (T101.setTop (mkF m 53 #[.val (.ref r0), .val (.ref ob95), .val (.ref r0), .val (.int (3 : Int32)), .val (.int (((0 : Int32) + (1 : Int32)) + (1 : Int32))), .val (.int (Int32.ofNat z)), .val (.int (Int32.ofNat (z / 64)))] [(.long (1 : Int64)), (.long ((own_or (own_or own_f0 x) y) (z / 64))), (.int (Int32.ofNat (z / 64))), (.ref ob95)])) _
        refine XS.iload X101.here hx rfl (hb hby d1_53) rfl ?_
        show Steps p.tables e below (T101.setTop (mkF m 55 #[.val (.ref r0), .val (.ref ob95), .val (.ref r0), .val (.int (3 : Int32)), .val (.int (((0 : Int32) + (1 : Int32)) + (1 : Int32))), .val (.int (Int32.ofNat z)), .val (.int (Int32.ofNat (z / 64)))] [(.int (Int32.ofNat z)), (.long (1 : Int64)), (.long ((own_or (own_or own_f0 x) y) (z / 64))), (.int (Int32.ofNat (z / 64))), (.ref ob95)])) _
        refine XS.lshl X101.here hx rfl (hb hby d1_55) rfl ?_
        show Steps p.tables e below (T101.setTop (mkF m 56 #[.val (.ref r0), .val (.ref ob95), .val (.ref r0), .val (.int (3 : Int32)), .val (.int (((0 : Int32) + (1 : Int32)) + (1 : Int32))), .val (.int (Int32.ofNat z)), .val (.int (Int32.ofNat (z / 64)))] [(.long ((1 : Int64) <<< ((Int32.ofNat z) &&& 0x3f).toInt64)), (.long ((own_or (own_or own_f0 x) y) (z / 64))), (.int (Int32.ofNat (z / 64))), (.ref ob95)])) _
        refine XS.lor X101.here hx rfl (hb hby d1_56) rfl ?_
        exact kt
      have Vc112 := V101
      obtain ⟨cl112, Ar112, qk112, S112, M112, H112, G112⟩ := Vc112
      have hin112 : ¬ ((Int32.ofNat (z / 64)) < 0 ∨ cl112.slots.size ≤ ((Int32.ofNat (z / 64))).toNatClampNeg) := inb_of S112 (own_in (z / 64) (y / 64 + 1) (by omega) hl893)
      obtain ⟨T113, h113, X113, e113, W113, st113⟩ := stJ X101 hx hZ e101 Ar112 (j := (Int32.ofNat (z / 64))) hin112 (g := (mkF m 57 #[.val (.ref r0), .val (.ref ob95), .val (.ref r0), .val (.int (3 : Int32)), .val (.int (((0 : Int32) + (1 : Int32)) + (1 : Int32))), .val (.int (Int32.ofNat z)), .val (.int (Int32.ofNat (z / 64)))] [(.long (((own_or (own_or own_f0 x) y) (z / 64)) ||| ((1 : Int64) <<< ((Int32.ofNat z) &&& 0x3f).toInt64))), (.int (Int32.ofNat (z / 64))), (.ref ob95)])) rfl rfl (hb hby d1_57)
      have V113 : Arv Z h113 ob95 kk95 .long (Int32.ofNat (y / 64 + 1)) (own_l8 (own_or (own_or (own_or own_f0 x) y) z)) (.long (0 : Int64)) := by have q := Arv.set Ar112 qk112 S112 M112 H112 G112 rfl W113 (z / 64) (own_clamp _ (by omega)) (by rw [own_len8]; omega); rw [show (own_l8 (own_or (own_or own_f0 x) y)).set (z / 64) (.long (((own_or (own_or own_f0 x) y) (z / 64)) ||| ((1 : Int64) <<< ((Int32.ofNat z) &&& 0x3f).toInt64))) = own_l8 (own_or (own_or (own_or own_f0 x) y) z) from own_set8 (own_or (own_or own_f0 x) y) z (by omega)] at q; exact q
      have hz113 : ∀ i, (y / 64 + 1) ≤ i → (own_or (own_or (own_or own_f0 x) y) z) i = 0 := own_orz (own_or (own_or own_f0 x) y) z (y / 64 + 1) (by omega) hz101
      have hla113 : (y / 64 + 1) = 0 ∨ (own_or (own_or (own_or own_f0 x) y) z) ((y / 64 + 1) - 1) ≠ 0 := hla101.imp id (own_orne (own_or (own_or own_f0 x) y) z _)
      have N113 := Fr.snoc X113 N101 g_ob95
      have c115 : ∀ t, Steps p.tables e below (T113.setTop (mkF m 64 #[.val (.ref r0), .val (.ref ob95), .val (.ref r0), .val (.int (3 : Int32)), .val (.int ((((0 : Int32) + (1 : Int32)) + (1 : Int32)) + (1 : Int32))), .val (.int (Int32.ofNat z)), .val (.int (Int32.ofNat (z / 64)))] [])) t → Steps p.tables e below (T113.setTop (mkF m 58 #[.val (.ref r0), .val (.ref ob95), .val (.ref r0), .val (.int (3 : Int32)), .val (.int (((0 : Int32) + (1 : Int32)) + (1 : Int32))), .val (.int (Int32.ofNat z)), .val (.int (Int32.ofNat (z / 64)))] [])) t := by
        intro t kt
        show Steps p.tables e below (T113.setTop (mkF m 58 #[.val (.ref r0), .val (.ref ob95), .val (.ref r0), .val (.int (3 : Int32)), .val (.int (((0 : Int32) + (1 : Int32)) + (1 : Int32))), .val (.int (Int32.ofNat z)), .val (.int (Int32.ofNat (z / 64)))] [])) _
        refine XS.iinc X113.here hx rfl (hb hby d1_58) rfl (l' := #[.val (.ref r0), .val (.ref ob95), .val (.ref r0), .val (.int (3 : Int32)), .val (.int ((((0 : Int32) + (1 : Int32)) + (1 : Int32)) + (1 : Int32))), .val (.int (Int32.ofNat z)), .val (.int (Int32.ofNat (z / 64)))]) rfl ?_
        show Steps p.tables e below (T113.setTop (mkF m 61 #[.val (.ref r0), .val (.ref ob95), .val (.ref r0), .val (.int (3 : Int32)), .val (.int ((((0 : Int32) + (1 : Int32)) + (1 : Int32)) + (1 : Int32))), .val (.int (Int32.ofNat z)), .val (.int (Int32.ofNat (z / 64)))] [])) _
        refine XS.goto X113.here hx rfl (pc0 := 61) (pc' := 12) rfl (hb hby d1_61) (by decide) (by decide) ?_
        show Steps p.tables e below (T113.setTop (mkF m 12 #[.val (.ref r0), .val (.ref ob95), .val (.ref r0), .val (.int (3 : Int32)), .val (.int ((((0 : Int32) + (1 : Int32)) + (1 : Int32)) + (1 : Int32))), .val (.int (Int32.ofNat z)), .val (.int (Int32.ofNat (z / 64)))] [])) _
        refine XS.iload X113.here hx rfl (hb hby d1_12) rfl ?_
        show Steps p.tables e below (T113.setTop (mkF m 14 #[.val (.ref r0), .val (.ref ob95), .val (.ref r0), .val (.int (3 : Int32)), .val (.int ((((0 : Int32) + (1 : Int32)) + (1 : Int32)) + (1 : Int32))), .val (.int (Int32.ofNat z)), .val (.int (Int32.ofNat (z / 64)))] [(.int ((((0 : Int32) + (1 : Int32)) + (1 : Int32)) + (1 : Int32)))])) _
        refine XS.iloadN X113.here hx rfl (hb hby d1_14) rfl ?_
        show Steps p.tables e below (T113.setTop (mkF m 15 #[.val (.ref r0), .val (.ref ob95), .val (.ref r0), .val (.int (3 : Int32)), .val (.int ((((0 : Int32) + (1 : Int32)) + (1 : Int32)) + (1 : Int32))), .val (.int (Int32.ofNat z)), .val (.int (Int32.ofNat (z / 64)))] [(.int (3 : Int32)), (.int ((((0 : Int32) + (1 : Int32)) + (1 : Int32)) + (1 : Int32)))])) _
        refine XS.icmpYes X113.here hx rfl (pc0 := 15) (pc' := 64) rfl (hb hby d1_15) rfl (flt (by decide : ¬ (((((0 : Int32) + (1 : Int32)) + (1 : Int32)) + (1 : Int32)) < (3 : Int32)))).2.1 (by decide) (by decide) ?_
        exact kt
      obtain ⟨T114, h114, X114, e114, E114, A114, D114, U114, st114⟩ := newO X113 hx hZ hown (hw _ (List.mem_of_getElem? (i := 18) rfl)) (hw _ (List.mem_of_getElem? (i := 19) rfl)) (hw _ (List.mem_of_getElem? (i := 3) rfl)) e113 (g := (mkF m 64 #[.val (.ref r0), .val (.ref ob95), .val (.ref r0), .val (.int (3 : Int32)), .val (.int ((((0 : Int32) + (1 : Int32)) + (1 : Int32)) + (1 : Int32))), .val (.int (Int32.ofNat z)), .val (.int (Int32.ofNat (z / 64)))] [])) rfl (hb hby d1_64) (by decide) (by decide)
      obtain ⟨b114, g114⟩ : ∃ z, z = h113.size := ⟨_, rfl⟩
      rw [← g114] at A114 D114 U114 st114
      have f116 := (Nat.le_trans (Nat.le_trans (Nat.le_trans f94 Kq95.1) (Keep.of_wr W101).1) (Keep.of_wr W113).1)
      have f117 := (((f97.trans Kq95 all0).wr W101 (Or.inr sz_ob95)).wr W113 (Or.inr sz_ob95))
      have g_b114 : n0 ≤ b114 := Nat.le_trans f116 (Nat.le_of_eq g114.symm)
      have sz_b114 : h0.size ≤ b114 := Nat.le_trans f117.1 (Nat.le_of_eq g114.symm)
      have f118 := (f102.other W113 (Nat.ne_of_lt (Nat.lt_of_lt_of_le lt_r0_95 szq95)))
      have lt_r0_114 := f118.lt
      have f119 := (((f96.keep Kq95 nin0).other W101 (Nat.ne_of_lt (Nat.lt_of_lt_of_le lt_b1_95 szq95))).other W113 (Nat.ne_of_lt (Nat.lt_of_lt_of_le lt_b1_95 szq95)))
      have lt_b1_114 := f119.lt
      have f120 := (((V22.keep Kq95 nin0).other W101 (Nat.ne_of_lt (Nat.lt_of_lt_of_le lt_ob17_95 szq95))).other W113 (Nat.ne_of_lt (Nat.lt_of_lt_of_le lt_ob17_95 szq95)))
      have lt_ob17_114 := f120.lt
      have lt_ob95_114 := V113.lt
      have F114_words : Fld Z h114 b114 "com/example/emex/emex/explain/Positions" "words" "[J" .null := D114 (Or.inr (hw _ (List.mem_of_getElem? (i := 27) rfl))) (ty := (.array .long)) (by decide)
      have F114_size : Fld Z h114 b114 "com/example/emex/emex/explain/Positions" "size" "I" (.int (0 : Int32)) := D114 (Or.inr (hw _ (List.mem_of_getElem? (i := 36) rfl))) (ty := .int) (by decide)
      have c121 : ∀ t, Steps p.tables e below (T114.setTop (mkF m 69 #[.val (.ref r0), .val (.ref ob95), .val (.ref r0), .val (.int (3 : Int32)), .val (.int ((((0 : Int32) + (1 : Int32)) + (1 : Int32)) + (1 : Int32))), .val (.int (Int32.ofNat z)), .val (.int (Int32.ofNat (z / 64)))] [(.ref ob95), (.ref b114), (.ref b114)])) t → Steps p.tables e below (T114.setTop (mkF m 67 #[.val (.ref r0), .val (.ref ob95), .val (.ref r0), .val (.int (3 : Int32)), .val (.int ((((0 : Int32) + (1 : Int32)) + (1 : Int32)) + (1 : Int32))), .val (.int (Int32.ofNat z)), .val (.int (Int32.ofNat (z / 64)))] [(.ref b114)])) t := by
        intro t kt
        show Steps p.tables e below (T114.setTop (mkF m 67 #[.val (.ref r0), .val (.ref ob95), .val (.ref r0), .val (.int (3 : Int32)), .val (.int ((((0 : Int32) + (1 : Int32)) + (1 : Int32)) + (1 : Int32))), .val (.int (Int32.ofNat z)), .val (.int (Int32.ofNat (z / 64)))] [(.ref b114)])) _
        refine XS.dup X114.here hx rfl (hb hby d1_67) rfl rfl ?_
        show Steps p.tables e below (T114.setTop (mkF m 68 #[.val (.ref r0), .val (.ref ob95), .val (.ref r0), .val (.int (3 : Int32)), .val (.int ((((0 : Int32) + (1 : Int32)) + (1 : Int32)) + (1 : Int32))), .val (.int (Int32.ofNat z)), .val (.int (Int32.ofNat (z / 64)))] [(.ref b114), (.ref b114)])) _
        refine XS.aloadN X114.here hx rfl (hb hby d1_68) rfl rfl ?_
        exact kt
      have f122 := (Nat.le_trans f116 E114.1)
      have f123 := (V113.ext E114)
      obtain ⟨_, _, ⟨T124, L124, k124, n124⟩, -, X124, ⟨Lc124, hQ124, l124, y124, z124⟩, st124⟩ := X114.specialBack hx (y := (⟨"com/example/emex/emex/explain/Positions", "<init>", "([J)V"⟩ : MethodName)) rfl hown (mvT hZ (hw _ (List.mem_of_getElem? (i := 20) rfl))) (mvT hZ (hw _ (List.mem_of_getElem? (i := 21) rfl))) (mvT hZ (hw _ (List.mem_of_getElem? (i := 22) rfl))) (by decide) (backOf (W := 1) (rm4 l Z a0 hw [] b114 ob95 kk95 (y / 64 + 1) (own_or (own_or (own_or own_f0 x) y) z) h114 n0 f122 f123 hl893 hla113 F114_words F114_size A114 g_b114 (Nat.ne_of_lt (Nat.lt_of_lt_of_le lt_ob95_114 (Nat.le_of_eq g114.symm)))) hZ (hw _ (List.mem_of_getElem? (i := 22) rfl)) (hw _ (List.mem_of_getElem? (i := 3) rfl)) (by decide) (by decide)) (g := (mkF m 69 #[.val (.ref r0), .val (.ref ob95), .val (.ref r0), .val (.int (3 : Int32)), .val (.int ((((0 : Int32) + (1 : Int32)) + (1 : Int32)) + (1 : Int32))), .val (.int (Int32.ofNat z)), .val (.int (Int32.ofNat (z / 64)))] [(.ref ob95), (.ref b114), (.ref b114)])) rfl (by rw [hml]; rfl) (Steps.refl _) (a := b114) (argsL := [(.ref ob95)]) (rest := [(.ref b114)]) (lenOf pd_2 rfl) rfl (by show 2 * 0 + _ ≤ _; exact Nat.le_of_eq rfl) (hb hby d1_69) (fun _ _ => ⟨rfl, e114, (by decide : 4 + 0 ≤ _), (by decide : 18 + 0 ≤ _)⟩)
      dsimp only [Pt.U, Pt.locs, Pt.cells, Pt.slots] at X124 l124 y124 z124 st124 hQ124
      subst l124 y124 z124
      obtain ⟨rfl, N124q, Kq124, Eq124, Fq124_0, Fq124_1⟩ := hQ124
      have N124 := Fr.app N113 N124q
      obtain ⟨fs, hr, hrun, hended, hW, hsame⟩ := X124.leave (v := some (.ref b114)) (fun h => by rw [Bd.returns] at h; cases h)
      have f126 := ((f117.ext E114).trans Kq124 (allS (Or.inr sz_b114) all0))
      have f127 := (f123.keep Kq124 (ninS (Nat.ne_of_lt (Nat.lt_of_lt_of_le lt_ob95_114 (Nat.le_of_eq g114.symm))) nin0))
      refine ⟨_, _, pre0 _ (c2 _ (st1 _ (c3 _ (c8 _ (c9 _ (c12 _ (c13 _ (c14 _ (st17 _ (c20 _ (st22 _ (c25 _ (c26 _ (c90 _ (c91 _ (c92 _ (st95 _ (c99 _ (st101 _ (c104 _ (c105 _ (c109 _ (c111 _ (st113 _ (c115 _ (st114 _ (c121 _ (st124.trans (?_))))))))))))))))))))))))))))), hrun, hended, _, _, rfl, ?_, ⟨_, rfl⟩, hW, hsame.mono (by decide) (by decide)⟩
      · show Steps p.tables e below (T124.setTop (mkF m 72 #[.val (.ref r0), .val (.ref ob95), .val (.ref r0), .val (.int (3 : Int32)), .val (.int ((((0 : Int32) + (1 : Int32)) + (1 : Int32)) + (1 : Int32))), .val (.int (Int32.ofNat z)), .val (.int (Int32.ofNat (z / 64)))] [(.ref b114)])) _
        jvm_step X124.here [X124.here.top, hx, (hb hby d1_72), X124.method', Bd.returns, Value.isRef, FieldType.isReference]
        first | (intro acts; rw [hr _ acts rfl rfl rfl]) | rw [hr _ _ rfl rfl rfl]
        exact Steps.refl _
      · show Q1_3 Z r0 kk dv x y z h0 n0 _ T124.heap _
        exact ⟨b114, ob95, kk95, (y / 64 + 1), hl893, hz113, by omega, by omega, by omega, rfl, N124, f126, g_b114, Eq124, Fq124_0, Fq124_1, f127⟩
    · skip
      have Vc128 := V101
      obtain ⟨cl128, Ar128, qk128, S128, M128, H128, G128⟩ := Vc128
      have c130 : ∀ t, Steps p.tables e below (T101.setTop (mkF m 35 #[.val (.ref r0), .val (.ref ob95), .val (.ref r0), .val (.int (3 : Int32)), .val (.int (((0 : Int32) + (1 : Int32)) + (1 : Int32))), .val (.int (Int32.ofNat z)), .val (.int (Int32.ofNat (z / 64)))] [(.int (Int32.ofNat (y / 64 + 1))), (.int (Int32.ofNat (z / 64)))])) t → Steps p.tables e below (T101.setTop (mkF m 31 #[.val (.ref r0), .val (.ref ob95), .val (.ref r0), .val (.int (3 : Int32)), .val (.int (((0 : Int32) + (1 : Int32)) + (1 : Int32))), .val (.int (Int32.ofNat z)), .val (.int (Int32.ofNat (z / 64)))] [])) t := by
        intro t kt
        show Steps p.tables e below (T101.setTop (mkF m 31 #[.val (.ref r0), .val (.ref ob95), .val (.ref r0), .val (.int (3 : Int32)), .val (.int (((0 : Int32) + (1 : Int32)) + (1 : Int32))), .val (.int (Int32.ofNat z)), .val (.int (Int32.ofNat (z / 64)))] [])) _
        refine XS.iload X101.here hx rfl (hb hby d1_31) rfl ?_
        show Steps p.tables e below (T101.setTop (mkF m 33 #[.val (.ref r0), .val (.ref ob95), .val (.ref r0), .val (.int (3 : Int32)), .val (.int (((0 : Int32) + (1 : Int32)) + (1 : Int32))), .val (.int (Int32.ofNat z)), .val (.int (Int32.ofNat (z / 64)))] [(.int (Int32.ofNat (z / 64)))])) _
        refine XS.aloadN X101.here hx rfl (hb hby d1_33) rfl rfl ?_
        show Steps p.tables e below (T101.setTop (mkF m 34 #[.val (.ref r0), .val (.ref ob95), .val (.ref r0), .val (.int (3 : Int32)), .val (.int (((0 : Int32) + (1 : Int32)) + (1 : Int32))), .val (.int (Int32.ofNat z)), .val (.int (Int32.ofNat (z / 64)))] [(.ref ob95), (.int (Int32.ofNat (z / 64)))])) _
        refine X101.arraylength hx (by rw [e101]; exact Ar128.1) (State.isArrayOf_alike hZ.alike Ar128.2.1) (g := (mkF m 34 #[.val (.ref r0), .val (.ref ob95), .val (.ref r0), .val (.int (3 : Int32)), .val (.int (((0 : Int32) + (1 : Int32)) + (1 : Int32))), .val (.int (Int32.ofNat z)), .val (.int (Int32.ofNat (z / 64)))] [(.ref ob95), (.int (Int32.ofNat (z / 64)))])) rfl rfl (hb hby d1_34) _ ?_
        rw [len_of S128 M128]
        exact kt
      have hd129 : ¬ ((Int32.ofNat (z / 64)) < (Int32.ofNat (y / 64 + 1))) := by rw [own_lt _ _ (by omega) (by omega)]; omega
      have c131 : ∀ t, Steps p.tables e below (T101.setTop (mkF m 43 #[.val (.ref r0), .val (.ref ob95), .val (.ref r0), .val (.int (3 : Int32)), .val (.int (((0 : Int32) + (1 : Int32)) + (1 : Int32))), .val (.int (Int32.ofNat z)), .val (.int (Int32.ofNat (z / 64)))] [(.int ((Int32.ofNat (z / 64)) + (1 : Int32))), (.ref ob95)])) t → Steps p.tables e below (T101.setTop (mkF m 35 #[.val (.ref r0), .val (.ref ob95), .val (.ref r0), .val (.int (3 : Int32)), .val (.int (((0 : Int32) + (1 : Int32)) + (1 : Int32))), .val (.int (Int32.ofNat z)), .val (.int (Int32.ofNat (z / 64)))] [(.int (Int32.ofNat (y / 64 + 1))), (.int (Int32.ofNat (z / 64)))])) t := by
        intro t kt
        show Steps p.tables e below (T101.setTop (mkF m 35 #[.val (.ref r0), .val (.ref ob95), .val (.ref r0), .val (.int (3 : Int32)), .val (.int (((0 : Int32) + (1 : Int32)) + (1 : Int32))), .val (.int (Int32.ofNat z)), .val (.int (Int32.ofNat (z / 64)))] [(.int (Int32.ofNat (y / 64 + 1))), (.int (Int32.ofNat (z / 64)))])) _
        refine XS.icmpNo X101.here hx rfl (hb hby d1_35) rfl (flt (hd129)).1 ?_
        show Steps p.tables e below (T101.setTop (mkF m 38 #[.val (.ref r0), .val (.ref ob95), .val (.ref r0), .val (.int (3 : Int32)), .val (.int (((0 : Int32) + (1 : Int32)) + (1 : Int32))), .val (.int (Int32.ofNat z)), .val (.int (Int32.ofNat (z / 64)))] [])) _
        refine XS.aloadN X101.here hx rfl (hb hby d1_38) rfl rfl ?_
        show Steps p.tables e below (T101.setTop (mkF m 39 #[.val (.ref r0), .val (.ref ob95), .val (.ref r0), .val (.int (3 : Int32)), .val (.int (((0 : Int32) + (1 : Int32)) + (1 : Int32))), .val (.int (Int32.ofNat z)), .val (.int (Int32.ofNat (z / 64)))] [(.ref ob95)])) _
        refine XS.iload X101.here hx rfl (hb hby d1_39) rfl ?_
        show Steps p.tables e below (T101.setTop (mkF m 41 #[.val (.ref r0), .val (.ref ob95), .val (.ref r0), .val (.int (3 : Int32)), .val (.int (((0 : Int32) + (1 : Int32)) + (1 : Int32))), .val (.int (Int32.ofNat z)), .val (.int (Int32.ofNat (z / 64)))] [(.int (Int32.ofNat (z / 64))), (.ref ob95)])) _
        refine XS.iconst X101.here hx rfl (hb hby d1_41) ?_
        show Steps p.tables e below (T101.setTop (mkF m 42 #[.val (.ref r0), .val (.ref ob95), .val (.ref r0), .val (.int (3 : Int32)), .val (.int (((0 : Int32) + (1 : Int32)) + (1 : Int32))), .val (.int (Int32.ofNat z)), .val (.int (Int32.ofNat (z / 64)))] [(.int (1 : Int32)), (.int (Int32.ofNat (z / 64))), (.ref ob95)])) _
        refine XS.iadd X101.here hx rfl (hb hby d1_42) rfl ?_
        exact kt
      have c132 : ∀ t, Steps p.tables e below (T101.setTop (mkF m 43 #[.val (.ref r0), .val (.ref ob95), .val (.ref r0), .val (.int (3 : Int32)), .val (.int (((0 : Int32) + (1 : Int32)) + (1 : Int32))), .val (.int (Int32.ofNat z)), .val (.int (Int32.ofNat (z / 64)))] [(.int (Int32.ofNat (z / 64 + 1))), (.ref ob95)])) t → Steps p.tables e below (T101.setTop (mkF m 43 #[.val (.ref r0), .val (.ref ob95), .val (.ref r0), .val (.int (3 : Int32)), .val (.int (((0 : Int32) + (1 : Int32)) + (1 : Int32))), .val (.int (Int32.ofNat z)), .val (.int (Int32.ofNat (z / 64)))] [(.int ((Int32.ofNat (z / 64)) + (1 : Int32))), (.ref ob95)])) t := fun t kt => castTop (congrArg (fun zv => (mkF m 43 #[.val (.ref r0), .val (.ref ob95), .val (.ref r0), .val (.int (3 : Int32)), .val (.int (((0 : Int32) + (1 : Int32)) + (1 : Int32))), .val (.int (Int32.ofNat z)), .val (.int (Int32.ofNat (z / 64)))] [(.int zv), (.ref ob95)])) (show ((Int32.ofNat (z / 64)) + (1 : Int32)) = (Int32.ofNat (z / 64 + 1)) from own_up _ (by omega))) kt
      have hl8133 : z / 64 + 1 ≤ 8 := by omega
      have hzg133 : ∀ i, z / 64 + 1 ≤ i → (own_or (own_or own_f0 x) y) i = 0 := fun i hi => hz101 i (by omega)
      have f134 := (Nat.le_trans (Nat.le_trans f94 Kq95.1) (Keep.of_wr W101).1)
      obtain ⟨_, _, ⟨T135, L135, k135, n135⟩, -, X135, ⟨Lc135, hQ135, l135, y135, z135⟩, st135⟩ := Jvm.LawKit.callS X101 hx (y := (⟨"java/util/Arrays", "copyOf", "([JI)[J"⟩ : MethodName)) hown (mvT hZ (hw _ (List.mem_of_getElem? (i := 6) rfl))) (mvT hZ (hw _ (List.mem_of_getElem? (i := 7) rfl))) (mvT hZ (hw _ (List.mem_of_getElem? (i := 8) rfl))) (mvT hZ (hw _ (List.mem_of_getElem? (i := 9) rfl))) (by decide) (backOf (W := 0) (rm2 l Z a0 hw []  ob95 (z / 64 + 1) kk95 (y / 64 + 1) (own_or (own_or own_f0 x) y) h101 n0 f134 V101 (by omega) (by omega) hl893 hz101) hZ (hw _ (List.mem_of_getElem? (i := 9) rfl)) (hw _ (List.mem_of_getElem? (i := 8) rfl)) (by decide) (by decide)) (g := (mkF m 43 #[.val (.ref r0), .val (.ref ob95), .val (.ref r0), .val (.int (3 : Int32)), .val (.int (((0 : Int32) + (1 : Int32)) + (1 : Int32))), .val (.int (Int32.ofNat z)), .val (.int (Int32.ofNat (z / 64)))] [(.int (Int32.ofNat (z / 64 + 1))), (.ref ob95)])) rfl (by rw [hml]; rfl) (argsL := [(.ref ob95), (.int (Int32.ofNat (z / 64 + 1)))]) (rest := []) (lenOf pd_3 rfl) rfl (by show 2 * 0 + _ ≤ _; exact Nat.le_of_eq rfl) (hb hby d1_43) (fun _ _ => ⟨rfl, e101, (by decide : 3 + 1 ≤ _), (by decide : 16 + 8 ≤ _)⟩)
      dsimp only [Pt.U, Pt.locs, Pt.cells, Pt.slots] at X135 l135 y135 z135 st135 hQ135
      subst l135 y135 z135
      obtain ⟨ob135, kk135, rfl, N135q, Kq135, g_ob135, szq135, Vq135⟩ := hQ135
      have N135 := Fr.app N101 N135q
      have lt_r0_135 := f102.lt
      have f136 := ((f96.keep Kq95 nin0).other W101 (Nat.ne_of_lt (Nat.lt_of_lt_of_le lt_b1_95 szq95)))
      have lt_b1_135 := f136.lt
      have f137 := ((V22.keep Kq95 nin0).other W101 (Nat.ne_of_lt (Nat.lt_of_lt_of_le lt_ob17_95 szq95)))
      have lt_ob17_135 := f137.lt
      have lt_ob95_135 := V101.lt
      have f138 := ((f97.trans Kq95 all0).wr W101 (Or.inr sz_ob95))
      have sz_ob135 : h0.size ≤ ob135 := Nat.le_trans f138.1 szq135
      have Vc139 := Vq135
      obtain ⟨cl139, Ar139, qk139, S139, M139, H139, G139⟩ := Vc139
      have hin139 : ¬ ((Int32.ofNat (z / 64)) < 0 ∨ cl139.slots.size ≤ ((Int32.ofNat (z / 64))).toNatClampNeg) := inb_of S139 (own_in (z / 64) (z / 64 + 1) (by omega) hl8133)
      have hat139 : cl139.slots[((Int32.ofNat (z / 64))).toNatClampNeg]? = some (.long ((own_or (own_or own_f0 x) y) (z / 64))) := H139.at hin139 (own_at8' (own_or (own_or own_f0 x) y) (z / 64) (by omega) _)
      have c140 : ∀ t, Steps p.tables e below (T135.setTop (mkF m 57 #[.val (.ref r0), .val (.ref ob135), .val (.ref r0), .val (.int (3 : Int32)), .val (.int (((0 : Int32) + (1 : Int32)) + (1 : Int32))), .val (.int (Int32.ofNat z)), .val (.int (Int32.ofNat (z / 64)))] [(.long (((own_or (own_or own_f0 x) y) (z / 64)) ||| ((1 : Int64) <<< ((Int32.ofNat z) &&& 0x3f).toInt64))), (.int (Int32.ofNat (z / 64))), (.ref ob135)])) t → Steps p.tables e below (T135.setTop (mkF m 46 #[.val (.ref r0), .val (.ref ob95), .val (.ref r0), .val (.int (3 : Int32)), .val (.int (((0 : Int32) + (1 : Int32)) + (1 : Int32))), .val (.int (Int32.ofNat z)), .val (.int (Int32.ofNat (z / 64)))] [(.ref ob135)])) t := by
        intro t kt
        show Steps p.tables e below (T135.setTop (mkF m 46 #[.val (.ref r0), .val (.ref ob95), .val (.ref r0), .val (.int (3 : Int32)), .val (.int (((0 : Int32) + (1 : Int32)) + (1 : Int32))), .val (.int (Int32.ofNat z)), .val (.int (Int32.ofNat (z / 64)))] [(.ref ob135)])) _
        refine XS.astoreN X135.here hx rfl (hb hby d1_46) rfl rfl (l' := #[.val (.ref r0), .val (.ref ob135), .val (.ref r0), .val (.int (3 : Int32)), .val (.int (((0 : Int32) + (1 : Int32)) + (1 : Int32))), .val (.int (Int32.ofNat z)), .val (.int (Int32.ofNat (z / 64)))]) rfl ?_
        show Steps p.tables e below (T135.setTop (mkF m 47 #[.val (.ref r0), .val (.ref ob135), .val (.ref r0), .val (.int (3 : Int32)), .val (.int (((0 : Int32) + (1 : Int32)) + (1 : Int32))), .val (.int (Int32.ofNat z)), .val (.int (Int32.ofNat (z / 64)))] [])) _
        refine XS.aloadN X135.here hx rfl (hb hby d1_47) rfl rfl ?_
        show Steps p.tables e below (T135.setTop (mkF m 48 #[.val (.ref r0), .val (.ref ob135), .val (.ref r0), .val (.int (3 : Int32)), .val (.int (((0 : Int32) + (1 : Int32)) + (1 : Int32))), .val (.int (Int32.ofNat z)), .val (.int (Int32.ofNat (z / 64)))] [(.ref ob135)])) _
        refine XS.iload X135.here hx rfl (hb hby d1_48) rfl ?_
        show Steps p.tables e below (T135.setTop (mkF m 50 #[.val (.ref r0), .val (.ref ob135), .val (.ref r0), .val (.int (3 : Int32)), .val (.int (((0 : Int32) + (1 : Int32)) + (1 : Int32))), .val (.int (Int32.ofNat z)), .val (.int (Int32.ofNat (z / 64)))] [(.int (Int32.ofNat (z / 64))), (.ref ob135)])) _
        refine Jvm.Free.XT.dup2 X135.here hx rfl (hb hby d1_50) rfl rfl rfl ?_
        show Steps p.tables e below (T135.setTop (mkF m 51 #[.val (.ref r0), .val (.ref ob135), .val (.ref r0), .val (.int (3 : Int32)), .val (.int (((0 : Int32) + (1 : Int32)) + (1 : Int32))), .val (.int (Int32.ofNat z)), .val (.int (Int32.ofNat (z / 64)))] [(.int (Int32.ofNat (z / 64))), (.ref ob135), (.int (Int32.ofNat (z / 64))), (.ref ob135)])) _
        refine X135.laload hx (j := (Int32.ofNat (z / 64))) (v := (.long ((own_or (own_or own_f0 x) y) (z / 64)))) Ar139.1 (State.isArrayOf_alike hZ.alike Ar139.2.1) Ar139.2.2 hin139 hat139 (g := (mkF m 51 #[.val (.ref r0), .val (.ref ob135), .val (.ref r0), .val (.int (3 : Int32)), .val (.int (((0 : Int32) + (1 : Int32)) + (1 : Int32))), .val (.int (Int32.ofNat z)), .val (.int (Int32.ofNat (z / 64)))] [(.int (Int32.ofNat (z / 64))), (.ref ob135), (.int (Int32.ofNat (z / 64))), (.ref ob135)])) rfl rfl (hb hby d1_51) _ ?_
        show Steps p.tables e below (T135.setTop (mkF m 52 #[.val (.ref r0), .val (.ref ob135), .val (.ref r0), .val (.int (3 : Int32)), .val (.int (((0 : Int32) + (1 : Int32)) + (1 : Int32))), .val (.int (Int32.ofNat z)), .val (.int (Int32.ofNat (z / 64)))] [(.long ((own_or (own_or own_f0 x) y) (z / 64))), (.int (Int32.ofNat (z / 64))), (.ref ob135)])) _
        refine XS.lconst X135.here hx rfl (hb hby d1_52) ?_
        show Steps p.tables e below (T135.setTop (mkF m 53 #[.val (.ref r0), .val (.ref ob135), .val (.ref r0), .val (.int (3 : Int32)), .val (.int (((0 : Int32) + (1 : Int32)) + (1 : Int32))), .val (.int (Int32.ofNat z)), .val (.int (Int32.ofNat (z / 64)))] [(.long (1 : Int64)), (.long ((own_or (own_or own_f0 x) y) (z / 64))), (.int (Int32.ofNat (z / 64))), (.ref ob135)])) _
        refine XS.iload X135.here hx rfl (hb hby d1_53) rfl ?_
        show Steps p.tables e below (T135.setTop (mkF m 55 #[.val (.ref r0), .val (.ref ob135), .val (.ref r0), .val (.int (3 : Int32)), .val (.int (((0 : Int32) + (1 : Int32)) + (1 : Int32))), .val (.int (Int32.ofNat z)), .val (.int (Int32.ofNat (z / 64)))] [(.int (Int32.ofNat z)), (.long (1 : Int64)), (.long ((own_or (own_or own_f0 x) y) (z / 64))), (.int (Int32.ofNat (z / 64))), (.ref ob135)])) _
        refine XS.lshl X135.here hx rfl (hb hby d1_55) rfl ?_
        show Steps p.tables e below (T135.setTop (mkF m 56 #[.val (.ref r0), .val (.ref ob135), .val (.ref r0), .val (.int (3 : Int32)), .val (.int (((0 : Int32) + (1 : Int32)) + (1 : Int32))), .val (.int (Int32.ofNat z)), .val (.int (Int32.ofNat (z / 64)))] [(.long ((1 : Int64) <<< ((Int32.ofNat z) &&& 0x3f).toInt64)), (.long ((own_or (own_or own_f0 x) y) (z / 64))), (.int (Int32.ofNat (z / 64))), (.ref ob135)])) _
        refine XS.lor X135.here hx rfl (hb hby d1_56) rfl ?_
        exact kt
      have Vc141 := Vq135
      obtain ⟨cl141, Ar141, qk141, S141, M141, H141, G141⟩ := Vc141
      have hin141 : ¬ ((Int32.ofNat (z / 64)) < 0 ∨ cl141.slots.size ≤ ((Int32.ofNat (z / 64))).toNatClampNeg) := inb_of S141 (own_in (z / 64) (z / 64 + 1) (by omega) hl8133)
      obtain ⟨T142, h142, X142, e142, W142, st142⟩ := stJ X135 hx hZ rfl Ar141 (j := (Int32.ofNat (z / 64))) hin141 (g := (mkF m 57 #[.val (.ref r0), .val (.ref ob135), .val (.ref r0), .val (.int (3 : Int32)), .val (.int (((0 : Int32) + (1 : Int32)) + (1 : Int32))), .val (.int (Int32.ofNat z)), .val (.int (Int32.ofNat (z / 64)))] [(.long (((own_or (own_or own_f0 x) y) (z / 64)) ||| ((1 : Int64) <<< ((Int32.ofNat z) &&& 0x3f).toInt64))), (.int (Int32.ofNat (z / 64))), (.ref ob135)])) rfl rfl (hb hby d1_57)
      have V142 : Arv Z h142 ob135 kk135 .long (Int32.ofNat (z / 64 + 1)) (own_l8 (own_or (own_or (own_or own_f0 x) y) z)) (.long (0 : Int64)) := by have q := Arv.set Ar141 qk141 S141 M141 H141 G141 rfl W142 (z / 64) (own_clamp _ (by omega)) (by rw [own_len8]; omega); rw [show (own_l8 (own_or (own_or own_f0 x) y)).set (z / 64) (.long (((own_or (own_or own_f0 x) y) (z / 64)) ||| ((1 : Int64) <<< ((Int32.ofNat z) &&& 0x3f).toInt64))) = own_l8 (own_or (own_or (own_or own_f0 x) y) z) from own_set8 (own_or (own_or own_f0 x) y) z (by omega)] at q; exact q
      have hz142 : ∀ i, (z / 64 + 1) ≤ i → (own_or (own_or (own_or own_f0 x) y) z) i = 0 := own_orz (own_or (own_or own_f0 x) y) z (z / 64 + 1) (by omega) hzg133
      have hla142 : (z / 64 + 1) = 0 ∨ (own_or (own_or (own_or own_f0 x) y) z) ((z / 64 + 1) - 1) ≠ 0 := Or.inr (own_ornew (own_or (own_or own_f0 x) y) z (by omega))
      have N142 := Fr.snoc X142 N135 g_ob135
      have c144 : ∀ t, Steps p.tables e below (T142.setTop (mkF m 64 #[.val (.ref r0), .val (.ref ob135), .val (.ref r0), .val (.int (3 : Int32)), .val (.int ((((0 : Int32) + (1 : Int32)) + (1 : Int32)) + (1 : Int32))), .val (.int (Int32.ofNat z)), .val (.int (Int32.ofNat (z / 64)))] [])) t → Steps p.tables e below (T142.setTop (mkF m 58 #[.val (.ref r0), .val (.ref ob135), .val (.ref r0), .val (.int (3 : Int32)), .val (.int (((0 : Int32) + (1 : Int32)) + (1 : Int32))), .val (.int (Int32.ofNat z)), .val (.int (Int32.ofNat (z / 64)))] [])) t := by
        intro t kt
        show Steps p.tables e below (T142.setTop (mkF m 58 #[.val (.ref r0), .val (.ref ob135), .val (.ref r0), .val (.int (3 : Int32)), .val (.int (((0 : Int32) + (1 : Int32)) + (1 : Int32))), .val (.int (Int32.ofNat z)), .val (.int (Int32.ofNat (z / 64)))] [])) _
        refine XS.iinc X142.here hx rfl (hb hby d1_58) rfl (l' := #[.val (.ref r0), .val (.ref ob135), .val (.ref r0), .val (.int (3 : Int32)), .val (.int ((((0 : Int32) + (1 : Int32)) + (1 : Int32)) + (1 : Int32))), .val (.int (Int32.ofNat z)), .val (.int (Int32.ofNat (z / 64)))]) rfl ?_
        show Steps p.tables e below (T142.setTop (mkF m 61 #[.val (.ref r0), .val (.ref ob135), .val (.ref r0), .val (.int (3 : Int32)), .val (.int ((((0 : Int32) + (1 : Int32)) + (1 : Int32)) + (1 : Int32))), .val (.int (Int32.ofNat z)), .val (.int (Int32.ofNat (z / 64)))] [])) _
        refine XS.goto X142.here hx rfl (pc0 := 61) (pc' := 12) rfl (hb hby d1_61) (by decide) (by decide) ?_
        show Steps p.tables e below (T142.setTop (mkF m 12 #[.val (.ref r0), .val (.ref ob135), .val (.ref r0), .val (.int (3 : Int32)), .val (.int ((((0 : Int32) + (1 : Int32)) + (1 : Int32)) + (1 : Int32))), .val (.int (Int32.ofNat z)), .val (.int (Int32.ofNat (z / 64)))] [])) _
        refine XS.iload X142.here hx rfl (hb hby d1_12) rfl ?_
        show Steps p.tables e below (T142.setTop (mkF m 14 #[.val (.ref r0), .val (.ref ob135), .val (.ref r0), .val (.int (3 : Int32)), .val (.int ((((0 : Int32) + (1 : Int32)) + (1 : Int32)) + (1 : Int32))), .val (.int (Int32.ofNat z)), .val (.int (Int32.ofNat (z / 64)))] [(.int ((((0 : Int32) + (1 : Int32)) + (1 : Int32)) + (1 : Int32)))])) _
        refine XS.iloadN X142.here hx rfl (hb hby d1_14) rfl ?_
        show Steps p.tables e below (T142.setTop (mkF m 15 #[.val (.ref r0), .val (.ref ob135), .val (.ref r0), .val (.int (3 : Int32)), .val (.int ((((0 : Int32) + (1 : Int32)) + (1 : Int32)) + (1 : Int32))), .val (.int (Int32.ofNat z)), .val (.int (Int32.ofNat (z / 64)))] [(.int (3 : Int32)), (.int ((((0 : Int32) + (1 : Int32)) + (1 : Int32)) + (1 : Int32)))])) _
        refine XS.icmpYes X142.here hx rfl (pc0 := 15) (pc' := 64) rfl (hb hby d1_15) rfl (flt (by decide : ¬ (((((0 : Int32) + (1 : Int32)) + (1 : Int32)) + (1 : Int32)) < (3 : Int32)))).2.1 (by decide) (by decide) ?_
        exact kt
      obtain ⟨T143, h143, X143, e143, E143, A143, D143, U143, st143⟩ := newO X142 hx hZ hown (hw _ (List.mem_of_getElem? (i := 18) rfl)) (hw _ (List.mem_of_getElem? (i := 19) rfl)) (hw _ (List.mem_of_getElem? (i := 3) rfl)) e142 (g := (mkF m 64 #[.val (.ref r0), .val (.ref ob135), .val (.ref r0), .val (.int (3 : Int32)), .val (.int ((((0 : Int32) + (1 : Int32)) + (1 : Int32)) + (1 : Int32))), .val (.int (Int32.ofNat z)), .val (.int (Int32.ofNat (z / 64)))] [])) rfl (hb hby d1_64) (by decide) (by decide)
      obtain ⟨b143, g143⟩ : ∃ z, z = h142.size := ⟨_, rfl⟩
      rw [← g143] at A143 D143 U143 st143
      have f145 := (Nat.le_trans (Nat.le_trans f134 Kq135.1) (Keep.of_wr W142).1)
      have f146 := ((f138.trans Kq135 all0).wr W142 (Or.inr sz_ob135))
      have g_b143 : n0 ≤ b143 := Nat.le_trans f145 (Nat.le_of_eq g143.symm)
      have sz_b143 : h0.size ≤ b143 := Nat.le_trans f146.1 (Nat.le_of_eq g143.symm)
      have f147 := ((f102.keep Kq135 nin0).other W142 (Nat.ne_of_lt (Nat.lt_of_lt_of_le lt_r0_135 szq135)))
      have lt_r0_143 := f147.lt
      have f148 := ((f136.keep Kq135 nin0).other W142 (Nat.ne_of_lt (Nat.lt_of_lt_of_le lt_b1_135 szq135)))
      have lt_b1_143 := f148.lt
      have f149 := ((f137.keep Kq135 nin0).other W142 (Nat.ne_of_lt (Nat.lt_of_lt_of_le lt_ob17_135 szq135)))
      have lt_ob17_143 := f149.lt
      have f150 := ((V101.keep Kq135 nin0).other W142 (Nat.ne_of_lt (Nat.lt_of_lt_of_le lt_ob95_135 szq135)))
      have lt_ob95_143 := f150.lt
      have lt_ob135_143 := V142.lt
      have F143_words : Fld Z h143 b143 "com/example/emex/emex/explain/Positions" "words" "[J" .null := D143 (Or.inr (hw _ (List.mem_of_getElem? (i := 27) rfl))) (ty := (.array .long)) (by decide)
      have F143_size : Fld Z h143 b143 "com/example/emex/emex/explain/Positions" "size" "I" (.int (0 : Int32)) := D143 (Or.inr (hw _ (List.mem_of_getElem? (i := 36) rfl))) (ty := .int) (by decide)
      have c151 : ∀ t, Steps p.tables e below (T143.setTop (mkF m 69 #[.val (.ref r0), .val (.ref ob135), .val (.ref r0), .val (.int (3 : Int32)), .val (.int ((((0 : Int32) + (1 : Int32)) + (1 : Int32)) + (1 : Int32))), .val (.int (Int32.ofNat z)), .val (.int (Int32.ofNat (z / 64)))] [(.ref ob135), (.ref b143), (.ref b143)])) t → Steps p.tables e below (T143.setTop (mkF m 67 #[.val (.ref r0), .val (.ref ob135), .val (.ref r0), .val (.int (3 : Int32)), .val (.int ((((0 : Int32) + (1 : Int32)) + (1 : Int32)) + (1 : Int32))), .val (.int (Int32.ofNat z)), .val (.int (Int32.ofNat (z / 64)))] [(.ref b143)])) t := by
        intro t kt
        show Steps p.tables e below (T143.setTop (mkF m 67 #[.val (.ref r0), .val (.ref ob135), .val (.ref r0), .val (.int (3 : Int32)), .val (.int ((((0 : Int32) + (1 : Int32)) + (1 : Int32)) + (1 : Int32))), .val (.int (Int32.ofNat z)), .val (.int (Int32.ofNat (z / 64)))] [(.ref b143)])) _
        refine XS.dup X143.here hx rfl (hb hby d1_67) rfl rfl ?_
        show Steps p.tables e below (T143.setTop (mkF m 68 #[.val (.ref r0), .val (.ref ob135), .val (.ref r0), .val (.int (3 : Int32)), .val (.int ((((0 : Int32) + (1 : Int32)) + (1 : Int32)) + (1 : Int32))), .val (.int (Int32.ofNat z)), .val (.int (Int32.ofNat (z / 64)))] [(.ref b143), (.ref b143)])) _
        refine XS.aloadN X143.here hx rfl (hb hby d1_68) rfl rfl ?_
        exact kt
      have f152 := (Nat.le_trans f145 E143.1)
      have f153 := (V142.ext E143)
      obtain ⟨_, _, ⟨T154, L154, k154, n154⟩, -, X154, ⟨Lc154, hQ154, l154, y154, z154⟩, st154⟩ := X143.specialBack hx (y := (⟨"com/example/emex/emex/explain/Positions", "<init>", "([J)V"⟩ : MethodName)) rfl hown (mvT hZ (hw _ (List.mem_of_getElem? (i := 20) rfl))) (mvT hZ (hw _ (List.mem_of_getElem? (i := 21) rfl))) (mvT hZ (hw _ (List.mem_of_getElem? (i := 22) rfl))) (by decide) (backOf (W := 1) (rm4 l Z a0 hw [] b143 ob135 kk135 (z / 64 + 1) (own_or (own_or (own_or own_f0 x) y) z) h143 n0 f152 f153 hl8133 hla142 F143_words F143_size A143 g_b143 (Nat.ne_of_lt (Nat.lt_of_lt_of_le lt_ob135_143 (Nat.le_of_eq g143.symm)))) hZ (hw _ (List.mem_of_getElem? (i := 22) rfl)) (hw _ (List.mem_of_getElem? (i := 3) rfl)) (by decide) (by decide)) (g := (mkF m 69 #[.val (.ref r0), .val (.ref ob135), .val (.ref r0), .val (.int (3 : Int32)), .val (.int ((((0 : Int32) + (1 : Int32)) + (1 : Int32)) + (1 : Int32))), .val (.int (Int32.ofNat z)), .val (.int (Int32.ofNat (z / 64)))] [(.ref ob135), (.ref b143), (.ref b143)])) rfl (by rw [hml]; rfl) (Steps.refl _) (a := b143) (argsL := [(.ref ob135)]) (rest := [(.ref b143)]) (lenOf pd_2 rfl) rfl (by show 2 * 0 + _ ≤ _; exact Nat.le_of_eq rfl) (hb hby d1_69) (fun _ _ => ⟨rfl, e143, (by decide : 5 + 0 ≤ _), (by decide : 26 + 0 ≤ _)⟩)
      dsimp only [Pt.U, Pt.locs, Pt.cells, Pt.slots] at X154 l154 y154 z154 st154 hQ154
      subst l154 y154 z154
      obtain ⟨rfl, N154q, Kq154, Eq154, Fq154_0, Fq154_1⟩ := hQ154
      have N154 := Fr.app N142 N154q
      obtain ⟨fs, hr, hrun, hended, hW, hsame⟩ := X154.leave (v := some (.ref b143)) (fun h => by rw [Bd.returns] at h; cases h)
      have f156 := ((f146.ext E143).trans Kq154 (allS (Or.inr sz_b143) all0))
      have f157 := (f153.keep Kq154 (ninS (Nat.ne_of_lt (Nat.lt_of_lt_of_le lt_ob135_143 (Nat.le_of_eq g143.symm))) nin0))
      refine ⟨_, _, pre0 _ (c2 _ (st1 _ (c3 _ (c8 _ (c9 _ (c12 _ (c13 _ (c14 _ (st17 _ (c20 _ (st22 _ (c25 _ (c26 _ (c90 _ (c91 _ (c92 _ (st95 _ (c99 _ (st101 _ (c104 _ (c105 _ (c130 _ (c131 _ (c132 _ (st135 _ (c140 _ (st142 _ (c144 _ (st143 _ (c151 _ (st154.trans (?_)))))))))))))))))))))))))))))))), hrun, hended, _, _, rfl, ?_, ⟨_, rfl⟩, hW, hsame.mono (by decide) (by decide)⟩
      · show Steps p.tables e below (T154.setTop (mkF m 72 #[.val (.ref r0), .val (.ref ob135), .val (.ref r0), .val (.int (3 : Int32)), .val (.int ((((0 : Int32) + (1 : Int32)) + (1 : Int32)) + (1 : Int32))), .val (.int (Int32.ofNat z)), .val (.int (Int32.ofNat (z / 64)))] [(.ref b143)])) _
        jvm_step X154.here [X154.here.top, hx, (hb hby d1_72), X154.method', Bd.returns, Value.isRef, FieldType.isReference]
        first | (intro acts; rw [hr _ acts rfl rfl rfl]) | rw [hr _ _ rfl rfl rfl]
        exact Steps.refl _
      · show Q1_3 Z r0 kk dv x y z h0 n0 _ T154.heap _
        exact ⟨b143, ob135, kk135, (z / 64 + 1), hl8133, hz142, by omega, by omega, by omega, rfl, N154, f156, g_b143, Eq154, Fq154_0, Fq154_1, f157⟩
theorem d7_0 : decode prog_13_method_11_code 0 = .ok (.iload_n 1, 1) := by decide +kernel
theorem d7_1 : decode prog_13_method_11_code 1 = .ok (.bipush 6, 2) := by decide +kernel
theorem d7_3 : decode prog_13_method_11_code 3 = .ok (.iushr, 1) := by decide +kernel
theorem d7_4 : decode prog_13_method_11_code 4 = .ok (.istore_n 2, 1) := by decide +kernel
theorem d7_5 : decode prog_13_method_11_code 5 = .ok (.iload_n 2, 1) := by decide +kernel
theorem d7_6 : decode prog_13_method_11_code 6 = .ok (.aload_n 0, 1) := by decide +kernel
theorem d7_7 : decode prog_13_method_11_code 7 = .ok (.getfield 13, 3) := by decide +kernel
theorem d7_10 : decode prog_13_method_11_code 10 = .ok (.arraylength, 1) := by decide +kernel
theorem d7_11 : decode prog_13_method_11_code 11 = .ok (.if_icmp .ge 22, 3) := by decide +kernel
theorem d7_14 : decode prog_13_method_11_code 14 = .ok (.aload_n 0, 1) := by decide +kernel
theorem d7_15 : decode prog_13_method_11_code 15 = .ok (.getfield 13, 3) := by decide +kernel
theorem d7_18 : decode prog_13_method_11_code 18 = .ok (.iload_n 2, 1) := by decide +kernel
theorem d7_19 : decode prog_13_method_11_code 19 = .ok (.laload, 1) := by decide +kernel
theorem d7_20 : decode prog_13_method_11_code 20 = .ok (.lconst 1, 1) := by decide +kernel
theorem d7_21 : decode prog_13_method_11_code 21 = .ok (.iload_n 1, 1) := by decide +kernel
theorem d7_22 : decode prog_13_method_11_code 22 = .ok (.lshl, 1) := by decide +kernel
theorem d7_23 : decode prog_13_method_11_code 23 = .ok (.land, 1) := by decide +kernel
theorem d7_24 : decode prog_13_method_11_code 24 = .ok (.lconst 0, 1) := by decide +kernel
theorem d7_25 : decode prog_13_method_11_code 25 = .ok (.lcmp, 1) := by decide +kernel
theorem d7_26 : decode prog_13_method_11_code 26 = .ok (.ifCond .eq 7, 3) := by decide +kernel
theorem d7_29 : decode prog_13_method_11_code 29 = .ok (.iconst 1, 1) := by decide +kernel
theorem d7_30 : decode prog_13_method_11_code 30 = .ok (.goto 4, 3) := by decide +kernel
theorem d7_33 : decode prog_13_method_11_code 33 = .ok (.iconst 0, 1) := by decide +kernel
theorem d7_34 : decode prog_13_method_11_code 34 = .ok (.ireturn, 1) := by decide +kernel
theorem pn_7 : plainName "com/example/emex/emex/explain/Positions" = true := by first | (simp [plainName, overriddenIn]; done) | decide +kernel
theorem ef_7 (m : MethodId) (x0 : Addr) (x1 : Int32) : entryFrame m #[(.ref x0), (.int x1)] 3 = mkF m 0 #[.val (.ref x0), .val (.int x1), .unset] [] := by first | (simp [entryFrame, mkF, argsToLocals, Value.category]; done) | rfl
def Q7 (Z : State) (r0 : Addr) (q : Nat) (tw : Addr) (kk : ClassId) (ln : Nat) (f : Nat → Int64) (h0 : Heap) (n0 : Nat) (v : Option Value) (h : Heap) (L : List Loc) : Prop := v = some (.int (own_hs f ln q)) ∧ Fr n0 L ∧ h = h0
set_option maxRecDepth 65536 in
set_option maxHeartbeats 40000000 in
theorem rm7 (l : Launch) (Z : State) (a0 : Array Value) (hw : ∀ d ∈ tables_1, d.before a0 Z = true) (ws : List Jvm.Cond) (r0 : Addr) (q : Nat) (tw : Addr) (kk : ClassId) (ln : Nat) (f : Nat → Int64) (h0 : Heap) (n0 : Nat) (Z0 : n0 ≤ h0.size) (F_w : Fld Z h0 r0 "com/example/emex/emex/explain/Positions" "words" "[J" (.ref tw)) (V : Arv Z h0 tw kk .long (Int32.ofNat ln) (own_l8 f) (.long (0 : Int64))) (hl8 : ln ≤ 8) (hq : q < 1024) :
    MetFree l (⟨"com/example/emex/emex/explain/Positions", "has", "(I)Z"⟩ : MethodName) (head1 (Jvm.Cond.code (⟨"com/example/emex/emex/explain/Positions", "has", "(I)Z"⟩ : MethodName) prog_13_method_11_code 3 (some .boolean) :: ws) ({ frames := 0, cells := 0, slots := 0, locals := 0 } : Room)) (fun a U => a = #[(.ref r0), (.int (Int32.ofNat q))] ∧ Z.Warmed39 U.vm ∧ U.heap = h0) (fun _ _ _ _ _ => True) (fun _ U o U' => ∃ v L, o = .returned v ∧ Q7 Z r0 q tw kk ln f h0 n0 v U'.heap L ∧ FrameEnd U o U' L ({ frames := 0, cells := 0, slots := 0, locals := 0 } : Room).cells ({ frames := 0, cells := 0, slots := 0, locals := 0 } : Room).slots) := by
  refine MetFree.of_bodySF (plainFor_of_name pn_7) hisR ?_
  intro p e s m args below meth c s₁ Bd hml0 hP hK
  obtain ⟨rfl, hZ, hh⟩ := hP
  have hx := Bd.exec
  have hby := Bd.bytes
  have hml : c.maxLocals = 3 := hml0
  have hown : s.vm.findClass "com/example/emex/emex/explain/Positions" = some m.cls := findClass_of_methodNamed Bd.named
  have hnm := (name_of_methodNamed Bd.named Bd.method).1
  have X0 : Stand p l e ({ frames := 0, cells := 0, slots := 0, locals := 0 } : Room) s m #[(.ref r0), (.int (Int32.ofNat q))] below meth c s₁ [] 0 0 := Stand.of_body Bd
  have e0 : s₁.heap = h0 := by rw [← hh, Bd.state]; rfl
  have N0 := Fr.nil n0
  have pre0 : ∀ t, Steps p.tables e below (s₁.setTop (mkF m 0 #[.val (.ref r0), .val (.int (Int32.ofNat q)), .unset] [])) t → Steps p.tables e below (s₁.setTop (entryFrame m #[(.ref r0), (.int (Int32.ofNat q))] 3)) t := fun t k => castTop (ef_7 m r0 (Int32.ofNat q)) k
  have c1 : ∀ t, Steps p.tables e below (s₁.setTop (mkF m 5 #[.val (.ref r0), .val (.int (Int32.ofNat q)), .val (.int (((Int32.ofNat q).toUInt32 >>> ((6 : Int32) &&& 31).toUInt32).toInt32))] [])) t → Steps p.tables e below (s₁.setTop (mkF m 0 #[.val (.ref r0), .val (.int (Int32.ofNat q)), .unset] [])) t := by
    intro t kt
    show Steps p.tables e below (s₁.setTop (mkF m 0 #[.val (.ref r0), .val (.int (Int32.ofNat q)), .unset] [])) _
    refine XS.iloadN X0.here hx rfl (hb hby d7_0) rfl ?_
    show Steps p.tables e below (s₁.setTop (mkF m 1 #[.val (.ref r0), .val (.int (Int32.ofNat q)), .unset] [(.int (Int32.ofNat q))])) _
    refine XS.bipush X0.here hx rfl (hb hby d7_1) ?_
    show Steps p.tables e below (s₁.setTop (mkF m 3 #[.val (.ref r0), .val (.int (Int32.ofNat q)), .unset] [(.int (6 : Int32)), (.int (Int32.ofNat q))])) _
    refine XS.iushr X0.here hx rfl (hb hby d7_3) rfl ?_
    show Steps p.tables e below (s₁.setTop (mkF m 4 #[.val (.ref r0), .val (.int (Int32.ofNat q)), .unset] [(.int (((Int32.ofNat q).toUInt32 >>> ((6 : Int32) &&& 31).toUInt32).toInt32))])) _
    refine XS.istoreN X0.here hx rfl (hb hby d7_4) rfl (l' := #[.val (.ref r0), .val (.int (Int32.ofNat q)), .val (.int (((Int32.ofNat q).toUInt32 >>> ((6 : Int32) &&& 31).toUInt32).toInt32))]) rfl ?_
    exact kt
  have c2 : ∀ t, Steps p.tables e below (s₁.setTop (mkF m 5 #[.val (.ref r0), .val (.int (Int32.ofNat q)), .val (.int (Int32.ofNat (q / 64)))] [])) t → Steps p.tables e below (s₁.setTop (mkF m 5 #[.val (.ref r0), .val (.int (Int32.ofNat q)), .val (.int (((Int32.ofNat q).toUInt32 >>> ((6 : Int32) &&& 31).toUInt32).toInt32))] [])) t := fun t kt => castTop (congrArg (fun zv => (mkF m 5 #[.val (.ref r0), .val (.int (Int32.ofNat q)), .val (.int zv)] [])) (show (((Int32.ofNat q).toUInt32 >>> ((6 : Int32) &&& 31).toUInt32).toInt32) = (Int32.ofNat (q / 64)) from own_w6 q hq)) kt
  have c4 : ∀ t, Steps p.tables e below (s₁.setTop (mkF m 7 #[.val (.ref r0), .val (.int (Int32.ofNat q)), .val (.int (Int32.ofNat (q / 64)))] [(.ref r0), (.int (Int32.ofNat (q / 64)))])) t → Steps p.tables e below (s₁.setTop (mkF m 5 #[.val (.ref r0), .val (.int (Int32.ofNat q)), .val (.int (Int32.ofNat (q / 64)))] [])) t := by
    intro t kt
    show Steps p.tables e below (s₁.setTop (mkF m 5 #[.val (.ref r0), .val (.int (Int32.ofNat q)), .val (.int (Int32.ofNat (q / 64)))] [])) _
    refine XS.iloadN X0.here hx rfl (hb hby d7_5) rfl ?_
    show Steps p.tables e below (s₁.setTop (mkF m 6 #[.val (.ref r0), .val (.int (Int32.ofNat q)), .val (.int (Int32.ofNat (q / 64)))] [(.int (Int32.ofNat (q / 64)))])) _
    refine XS.aloadN X0.here hx rfl (hb hby d7_6) rfl rfl ?_
    exact kt
  obtain ⟨T3, X3, e3, st3⟩ := getF X0 hx hZ hown (host := "") (Or.inl (hw _ (List.mem_of_getElem? (i := 26) rfl))) Via.refl e0 F_w (g := (mkF m 7 #[.val (.ref r0), .val (.int (Int32.ofNat q)), .val (.int (Int32.ofNat (q / 64)))] [(.ref r0), (.int (Int32.ofNat (q / 64)))])) rfl rfl (hb hby d7_7)
  have Vc5 := V
  obtain ⟨cl5, Ar5, qk5, S5, M5, H5, G5⟩ := Vc5
  have c6 : ∀ t, Steps p.tables e below (T3.setTop (mkF m 11 #[.val (.ref r0), .val (.int (Int32.ofNat q)), .val (.int (Int32.ofNat (q / 64)))] [(.int (Int32.ofNat ln)), (.int (Int32.ofNat (q / 64)))])) t → Steps p.tables e below (T3.setTop (mkF m 10 #[.val (.ref r0), .val (.int (Int32.ofNat q)), .val (.int (Int32.ofNat (q / 64)))] [(.ref tw), (.int (Int32.ofNat (q / 64)))])) t := by
    intro t kt
    show Steps p.tables e below (T3.setTop (mkF m 10 #[.val (.ref r0), .val (.int (Int32.ofNat q)), .val (.int (Int32.ofNat (q / 64)))] [(.ref tw), (.int (Int32.ofNat (q / 64)))])) _
    refine X3.arraylength hx (by rw [e3]; exact Ar5.1) (State.isArrayOf_alike hZ.alike Ar5.2.1) (g := (mkF m 10 #[.val (.ref r0), .val (.int (Int32.ofNat q)), .val (.int (Int32.ofNat (q / 64)))] [(.ref tw), (.int (Int32.ofNat (q / 64)))])) rfl rfl (hb hby d7_10) _ ?_
    rw [len_of S5 M5]
    exact kt
  by_cases hlt : q / 64 < ln
  · skip
    have hd7 : (Int32.ofNat (q / 64)) < (Int32.ofNat ln) := by rw [own_lt _ _ (by omega) (by omega)]; omega
    have c9 : ∀ t, Steps p.tables e below (T3.setTop (mkF m 15 #[.val (.ref r0), .val (.int (Int32.ofNat q)), .val (.int (Int32.ofNat (q / 64)))] [(.ref r0)])) t → Steps p.tables e below (T3.setTop (mkF m 11 #[.val (.ref r0), .val (.int (Int32.ofNat q)), .val (.int (Int32.ofNat (q / 64)))] [(.int (Int32.ofNat ln)), (.int (Int32.ofNat (q / 64)))])) t := by
      intro t kt
      show Steps p.tables e below (T3.setTop (mkF m 11 #[.val (.ref r0), .val (.int (Int32.ofNat q)), .val (.int (Int32.ofNat (q / 64)))] [(.int (Int32.ofNat ln)), (.int (Int32.ofNat (q / 64)))])) _
      refine XS.icmpNo X3.here hx rfl (hb hby d7_11) rfl (tlt (hd7)).2.1 ?_
      show Steps p.tables e below (T3.setTop (mkF m 14 #[.val (.ref r0), .val (.int (Int32.ofNat q)), .val (.int (Int32.ofNat (q / 64)))] [])) _
      refine XS.aloadN X3.here hx rfl (hb hby d7_14) rfl rfl ?_
      exact kt
    obtain ⟨T8, X8, e8, st8⟩ := getF X3 hx hZ hown (host := "") (Or.inl (hw _ (List.mem_of_getElem? (i := 26) rfl))) Via.refl e3 F_w (g := (mkF m 15 #[.val (.ref r0), .val (.int (Int32.ofNat q)), .val (.int (Int32.ofNat (q / 64)))] [(.ref r0)])) rfl rfl (hb hby d7_15)
    have Vc10 := V
    obtain ⟨cl10, Ar10, qk10, S10, M10, H10, G10⟩ := Vc10
    have hin10 : ¬ ((Int32.ofNat (q / 64)) < 0 ∨ cl10.slots.size ≤ ((Int32.ofNat (q / 64))).toNatClampNeg) := inb_of S10 (own_in (q / 64) ln hlt hl8)
    have hat10 : cl10.slots[((Int32.ofNat (q / 64))).toNatClampNeg]? = some (.long (f (q / 64))) := H10.at hin10 (own_at8' f (q / 64) (by omega) _)
    have c11 : ∀ t, Steps p.tables e below (T8.setTop (mkF m 23 #[.val (.ref r0), .val (.int (Int32.ofNat q)), .val (.int (Int32.ofNat (q / 64)))] [(.long ((1 : Int64) <<< ((Int32.ofNat q) &&& 0x3f).toInt64)), (.long (f (q / 64)))])) t → Steps p.tables e below (T8.setTop (mkF m 18 #[.val (.ref r0), .val (.int (Int32.ofNat q)), .val (.int (Int32.ofNat (q / 64)))] [(.ref tw)])) t := by
      intro t kt
      show Steps p.tables e below (T8.setTop (mkF m 18 #[.val (.ref r0), .val (.int (Int32.ofNat q)), .val (.int (Int32.ofNat (q / 64)))] [(.ref tw)])) _
      refine XS.iloadN X8.here hx rfl (hb hby d7_18) rfl ?_
      show Steps p.tables e below (T8.setTop (mkF m 19 #[.val (.ref r0), .val (.int (Int32.ofNat q)), .val (.int (Int32.ofNat (q / 64)))] [(.int (Int32.ofNat (q / 64))), (.ref tw)])) _
      refine X8.laload hx (j := (Int32.ofNat (q / 64))) (v := (.long (f (q / 64)))) (by rw [e8]; exact Ar10.1) (State.isArrayOf_alike hZ.alike Ar10.2.1) Ar10.2.2 hin10 hat10 (g := (mkF m 19 #[.val (.ref r0), .val (.int (Int32.ofNat q)), .val (.int (Int32.ofNat (q / 64)))] [(.int (Int32.ofNat (q / 64))), (.ref tw)])) rfl rfl (hb hby d7_19) _ ?_
      show Steps p.tables e below (T8.setTop (mkF m 20 #[.val (.ref r0), .val (.int (Int32.ofNat q)), .val (.int (Int32.ofNat (q / 64)))] [(.long (f (q / 64)))])) _
      refine XS.lconst X8.here hx rfl (hb hby d7_20) ?_
      show Steps p.tables e below (T8.setTop (mkF m 21 #[.val (.ref r0), .val (.int (Int32.ofNat q)), .val (.int (Int32.ofNat (q / 64)))] [(.long (1 : Int64)), (.long (f (q / 64)))])) _
      refine XS.iloadN X8.here hx rfl (hb hby d7_21) rfl ?_
      show Steps p.tables e below (T8.setTop (mkF m 22 #[.val (.ref r0), .val (.int (Int32.ofNat q)), .val (.int (Int32.ofNat (q / 64)))] [(.int (Int32.ofNat q)), (.long (1 : Int64)), (.long (f (q / 64)))])) _
      refine XS.lshl X8.here hx rfl (hb hby d7_22) rfl ?_
      exact kt
    have c12 : ∀ t, Steps p.tables e below (T8.setTop (mkF m 23 #[.val (.ref r0), .val (.int (Int32.ofNat q)), .val (.int (Int32.ofNat (q / 64)))] [(.long (own_bit q)), (.long (f (q / 64)))])) t → Steps p.tables e below (T8.setTop (mkF m 23 #[.val (.ref r0), .val (.int (Int32.ofNat q)), .val (.int (Int32.ofNat (q / 64)))] [(.long ((1 : Int64) <<< ((Int32.ofNat q) &&& 0x3f).toInt64)), (.long (f (q / 64)))])) t := fun t kt => castTop (congrArg (fun zv => (mkF m 23 #[.val (.ref r0), .val (.int (Int32.ofNat q)), .val (.int (Int32.ofNat (q / 64)))] [(.long zv), (.long (f (q / 64)))])) (show ((1 : Int64) <<< ((Int32.ofNat q) &&& 0x3f).toInt64) = (own_bit q) from rfl)) kt
    have c13 : ∀ t, Steps p.tables e below (T8.setTop (mkF m 26 #[.val (.ref r0), .val (.int (Int32.ofNat q)), .val (.int (Int32.ofNat (q / 64)))] [(.int (lcmpW ((f (q / 64)) &&& (own_bit q)) (0 : Int64)))])) t → Steps p.tables e below (T8.setTop (mkF m 23 #[.val (.ref r0), .val (.int (Int32.ofNat q)), .val (.int (Int32.ofNat (q / 64)))] [(.long (own_bit q)), (.long (f (q / 64)))])) t := by
      intro t kt
      show Steps p.tables e below (T8.setTop (mkF m 23 #[.val (.ref r0), .val (.int (Int32.ofNat q)), .val (.int (Int32.ofNat (q / 64)))] [(.long (own_bit q)), (.long (f (q / 64)))])) _
      refine XS.land X8.here hx rfl (hb hby d7_23) rfl ?_
      show Steps p.tables e below (T8.setTop (mkF m 24 #[.val (.ref r0), .val (.int (Int32.ofNat q)), .val (.int (Int32.ofNat (q / 64)))] [(.long ((f (q / 64)) &&& (own_bit q)))])) _
      refine XS.lconst X8.here hx rfl (hb hby d7_24) ?_
      show Steps p.tables e below (T8.setTop (mkF m 25 #[.val (.ref r0), .val (.int (Int32.ofNat q)), .val (.int (Int32.ofNat (q / 64)))] [(.long (0 : Int64)), (.long ((f (q / 64)) &&& (own_bit q)))])) _
      refine XS.lcmp X8.here hx rfl (hb hby d7_25) rfl ?_
      exact kt
    by_cases hc26 : ((f (q / 64)) &&& (own_bit q)) = (0 : Int64)
    · -- it is
      have c14 : ∀ t, Steps p.tables e below (T8.setTop (mkF m 34 #[.val (.ref r0), .val (.int (Int32.ofNat q)), .val (.int (Int32.ofNat (q / 64)))] [(.int (0 : Int32))])) t → Steps p.tables e below (T8.setTop (mkF m 26 #[.val (.ref r0), .val (.int (Int32.ofNat q)), .val (.int (Int32.ofNat (q / 64)))] [(.int (lcmpW ((f (q / 64)) &&& (own_bit q)) (0 : Int64)))])) t := by
        intro t kt
        show Steps p.tables e below (T8.setTop (mkF m 26 #[.val (.ref r0), .val (.int (Int32.ofNat q)), .val (.int (Int32.ofNat (q / 64)))] [(.int (lcmpW ((f (q / 64)) &&& (own_bit q)) (0 : Int64)))])) _
        refine XS.ifYes X8.here hx rfl (pc0 := 26) (pc' := 33) rfl (hb hby d7_26) rfl ((if0 _ _).trans (teq ((lw_eq _ _).mpr hc26)).1) (by decide) (by decide) ?_
        show Steps p.tables e below (T8.setTop (mkF m 33 #[.val (.ref r0), .val (.int (Int32.ofNat q)), .val (.int (Int32.ofNat (q / 64)))] [])) _
        refine XS.iconst X8.here hx rfl (hb hby d7_33) ?_
        exact kt
      obtain ⟨fs, hr, hrun, hended, hW, hsame⟩ := X8.leave (v := some (.int (0 : Int32))) (fun h => by rw [Bd.returns] at h; cases h)
      refine ⟨_, _, pre0 _ (c1 _ (c2 _ (c4 _ (st3 _ (c6 _ (c9 _ (st8 _ (c11 _ (c12 _ (c13 _ (c14 _ (?_)))))))))))), hrun, hended, _, _, rfl, ?_, ⟨_, rfl⟩, hW, hsame.mono (by decide) (by decide)⟩
      · show Steps p.tables e below (T8.setTop (mkF m 34 #[.val (.ref r0), .val (.int (Int32.ofNat q)), .val (.int (Int32.ofNat (q / 64)))] [(.int (0 : Int32))])) _
        exact retN X8 hx (t := .boolean) Bd.returns (by simp) (hb hby d7_34) hr
      · show Q7 Z r0 q tw kk ln f h0 n0 _ T8.heap _
        rw [e8]
        exact ⟨congrArg (fun z => some (Value.int z)) (show (0 : Int32) = (own_hs f ln q) from by unfold own_hs; rw [if_pos hlt, if_pos hc26]), N0, rfl⟩
    · -- it isn't
      have c16 : ∀ t, Steps p.tables e below (T8.setTop (mkF m 34 #[.val (.ref r0), .val (.int (Int32.ofNat q)), .val (.int (Int32.ofNat (q / 64)))] [(.int (1 : Int32))])) t → Steps p.tables e below (T8.setTop (mkF m 26 #[.val (.ref r0), .val (.int (Int32.ofNat q)), .val (.int (Int32.ofNat (q / 64)))] [(.int (lcmpW ((f (q / 64)) &&& (own_bit q)) (0 : Int64)))])) t := by
        intro t kt
        show Steps p.tables e below (T8.setTop (mkF m 26 #[.val (.ref r0), .val (.int (Int32.ofNat q)), .val (.int (Int32.ofNat (q / 64)))] [(.int (lcmpW ((f (q / 64)) &&& (own_bit q)) (0 : Int64)))])) _
        refine XS.ifNo X8.here hx rfl (hb hby d7_26) rfl ((if0 _ _).trans (feq (fun q => hc26 ((lw_eq _ _).mp q))).1) ?_
        show Steps p.tables e below (T8.setTop (mkF m 29 #[.val (.ref r0), .val (.int (Int32.ofNat q)), .val (.int (Int32.ofNat (q / 64)))] [])) _
        refine XS.iconst X8.here hx rfl (hb hby d7_29) ?_
        show Steps p.tables e below (T8.setTop (mkF m 30 #[.val (.ref r0), .val (.int (Int32.ofNat q)), .val (.int (Int32.ofNat (q / 64)))] [(.int (1 : Int32))])) _
        refine XS.goto X8.here hx rfl (pc0 := 30) (pc' := 34) rfl (hb hby d7_30) (by decide) (by decide) ?_
        exact kt
      obtain ⟨fs, hr, hrun, hended, hW, hsame⟩ := X8.leave (v := some (.int (1 : Int32))) (fun h => by rw [Bd.returns] at h; cases h)
      refine ⟨_, _, pre0 _ (c1 _ (c2 _ (c4 _ (st3 _ (c6 _ (c9 _ (st8 _ (c11 _ (c12 _ (c13 _ (c16 _ (?_)))))))))))), hrun, hended, _, _, rfl, ?_, ⟨_, rfl⟩, hW, hsame.mono (by decide) (by decide)⟩
      · show Steps p.tables e below (T8.setTop (mkF m 34 #[.val (.ref r0), .val (.int (Int32.ofNat q)), .val (.int (Int32.ofNat (q / 64)))] [(.int (1 : Int32))])) _
        exact retN X8 hx (t := .boolean) Bd.returns (by simp) (hb hby d7_34) hr
      · show Q7 Z r0 q tw kk ln f h0 n0 _ T8.heap _
        rw [e8]
        exact ⟨congrArg (fun z => some (Value.int z)) (show (1 : Int32) = (own_hs f ln q) from by unfold own_hs; rw [if_pos hlt, if_neg hc26]), N0, rfl⟩
  · skip
    have hd18 : ¬ ((Int32.ofNat (q / 64)) < (Int32.ofNat ln)) := by rw [own_lt _ _ (by omega) (by omega)]; omega
    have c19 : ∀ t, Steps p.tables e below (T3.setTop (mkF m 34 #[.val (.ref r0), .val (.int (Int32.ofNat q)), .val (.int (Int32.ofNat (q / 64)))] [(.int (0 : Int32))])) t → Steps p.tables e below (T3.setTop (mkF m 11 #[.val (.ref r0), .val (.int (Int32.ofNat q)), .val (.int (Int32.ofNat (q / 64)))] [(.int (Int32.ofNat ln)), (.int (Int32.ofNat (q / 64)))])) t := by
      intro t kt
      show Steps p.tables e below (T3.setTop (mkF m 11 #[.val (.ref r0), .val (.int (Int32.ofNat q)), .val (.int (Int32.ofNat (q / 64)))] [(.int (Int32.ofNat ln)), (.int (Int32.ofNat (q / 64)))])) _
      refine XS.icmpYes X3.here hx rfl (pc0 := 11) (pc' := 33) rfl (hb hby d7_11) rfl (flt (hd18)).2.1 (by decide) (by decide) ?_
      show Steps p.tables e below (T3.setTop (mkF m 33 #[.val (.ref r0), .val (.int (Int32.ofNat q)), .val (.int (Int32.ofNat (q / 64)))] [])) _
      refine XS.iconst X3.here hx rfl (hb hby d7_33) ?_
      exact kt
    obtain ⟨fs, hr, hrun, hended, hW, hsame⟩ := X3.leave (v := some (.int (0 : Int32))) (fun h => by rw [Bd.returns] at h; cases h)
    refine ⟨_, _, pre0 _ (c1 _ (c2 _ (c4 _ (st3 _ (c6 _ (c19 _ (?_))))))), hrun, hended, _, _, rfl, ?_, ⟨_, rfl⟩, hW, hsame.mono (by decide) (by decide)⟩
    · show Steps p.tables e below (T3.setTop (mkF m 34 #[.val (.ref r0), .val (.int (Int32.ofNat q)), .val (.int (Int32.ofNat (q / 64)))] [(.int (0 : Int32))])) _
      exact retN X3 hx (t := .boolean) Bd.returns (by simp) (hb hby d7_34) hr
    · show Q7 Z r0 q tw kk ln f h0 n0 _ T3.heap _
      rw [e3]
      exact ⟨congrArg (fun z => some (Value.int z)) (show (0 : Int32) = (own_hs f ln q) from by unfold own_hs; rw [if_neg hlt]), N0, rfl⟩
theorem d8_0 : decode prog_13_method_4_code 0 = .ok (.aload_n 0, 1) := by decide +kernel
theorem d8_1 : decode prog_13_method_4_code 1 = .ok (.getfield 25, 3) := by decide +kernel
theorem d8_4 : decode prog_13_method_4_code 4 = .ok (.ireturn, 1) := by decide +kernel
theorem pn_8 : plainName "com/example/emex/emex/explain/Positions" = true := by first | (simp [plainName, overriddenIn]; done) | decide +kernel
theorem ef_8 (m : MethodId) (x0 : Addr) : entryFrame m #[(.ref x0)] 1 = mkF m 0 #[.val (.ref x0)] [] := by first | (simp [entryFrame, mkF, argsToLocals, Value.category]; done) | rfl
def Q8 (Z : State) (r0 : Addr) (z : Int32) (h0 : Heap) (n0 : Nat) (v : Option Value) (h : Heap) (L : List Loc) : Prop := v = some (.int z) ∧ Fr n0 L ∧ h = h0
set_option maxRecDepth 65536 in
set_option maxHeartbeats 40000000 in
theorem rm8 (l : Launch) (Z : State) (a0 : Array Value) (hw : ∀ d ∈ tables_1, d.before a0 Z = true) (ws : List Jvm.Cond) (r0 : Addr) (z : Int32) (h0 : Heap) (n0 : Nat) (Z0 : n0 ≤ h0.size) (F_s : Fld Z h0 r0 "com/example/emex/emex/explain/Positions" "size" "I" (.int z)) :
    MetFree l (⟨"com/example/emex/emex/explain/Positions", "size", "()I"⟩ : MethodName) (head1 (Jvm.Cond.code (⟨"com/example/emex/emex/explain/Positions", "size", "()I"⟩ : MethodName) prog_13_method_4_code 1 (some .int) :: ws) ({ frames := 0, cells := 0, slots := 0, locals := 0 } : Room)) (fun a U => a = #[(.ref r0)] ∧ Z.Warmed39 U.vm ∧ U.heap = h0) (fun _ _ _ _ _ => True) (fun _ U o U' => ∃ v L, o = .returned v ∧ Q8 Z r0 z h0 n0 v U'.heap L ∧ FrameEnd U o U' L ({ frames := 0, cells := 0, slots := 0, locals := 0 } : Room).cells ({ frames := 0, cells := 0, slots := 0, locals := 0 } : Room).slots) := by
  refine MetFree.of_bodySF (plainFor_of_name pn_8) hisR ?_
  intro p e s m args below meth c s₁ Bd hml0 hP hK
  obtain ⟨rfl, hZ, hh⟩ := hP
  have hx := Bd.exec
  have hby := Bd.bytes
  have hml : c.maxLocals = 1 := hml0
  have hown : s.vm.findClass "com/example/emex/emex/explain/Positions" = some m.cls := findClass_of_methodNamed Bd.named
  have hnm := (name_of_methodNamed Bd.named Bd.method).1
  have X0 : Stand p l e ({ frames := 0, cells := 0, slots := 0, locals := 0 } : Room) s m #[(.ref r0)] below meth c s₁ [] 0 0 := Stand.of_body Bd
  have e0 : s₁.heap = h0 := by rw [← hh, Bd.state]; rfl
  have N0 := Fr.nil n0
  have pre0 : ∀ t, Steps p.tables e below (s₁.setTop (mkF m 0 #[.val (.ref r0)] [])) t → Steps p.tables e below (s₁.setTop (entryFrame m #[(.ref r0)] 1)) t := fun t k => castTop (ef_8 m r0) k
  have c2 : ∀ t, Steps p.tables e below (s₁.setTop (mkF m 1 #[.val (.ref r0)] [(.ref r0)])) t → Steps p.tables e below (s₁.setTop (mkF m 0 #[.val (.ref r0)] [])) t := by
    intro t kt
    show Steps p.tables e below (s₁.setTop (mkF m 0 #[.val (.ref r0)] [])) _
    refine XS.aloadN X0.here hx rfl (hb hby d8_0) rfl rfl ?_
    exact kt
  obtain ⟨T1, X1, e1, st1⟩ := getF X0 hx hZ hown (host := "") (Or.inl (hw _ (List.mem_of_getElem? (i := 35) rfl))) Via.refl e0 F_s (g := (mkF m 1 #[.val (.ref r0)] [(.ref r0)])) rfl rfl (hb hby d8_1)
  obtain ⟨fs, hr, hrun, hended, hW, hsame⟩ := X1.leave (v := some (.int z)) (fun h => by rw [Bd.returns] at h; cases h)
  refine ⟨_, _, pre0 _ (c2 _ (st1 _ (?_))), hrun, hended, _, _, rfl, ?_, ⟨_, rfl⟩, hW, hsame.mono (by decide) (by decide)⟩
  · show Steps p.tables e below (T1.setTop (mkF m 4 #[.val (.ref r0)] [(.int z)])) _
    exact retI X1 hx Bd.returns (hb hby d8_4) hr
  · show Q8 Z r0 z h0 n0 _ T1.heap _
    rw [e1]
    exact ⟨congrArg (fun z => some (Value.int z)) (show z = z from by rfl), N0, rfl⟩
theorem pn_0 : plainName "com/example/emex/emex/explain/PositionsOfPinLaw" = true := by first | (simp [plainName, overriddenIn]; done) | decide +kernel
theorem ef_0 (m : MethodId) (x0 : Int32) (x1 : Int32) (x2 : Int32) (x3 : Int32) (x4 : Int32) : entryFrame m #[(.int x0), (.int x1), (.int x2), (.int x3), (.int x4)] maxLocals = mkF m 0 #[.val (.int x0), .val (.int x1), .val (.int x2), .val (.int x3), .val (.int x4), .unset, .unset, .unset, .unset, .unset, .unset, .unset, .unset, .unset, .unset] [] := by first | (simp [entryFrame, mkF, argsToLocals, Value.category, maxLocals]; done) | rfl
def Q0 (Z : State) (p0 : Int32) (p1 : Int32) (p2 : Int32) (p3 : Int32) (p4 : Int32) (h0 : Heap) (n0 : Nat) (v : Option Value) (h : Heap) (L : List Loc) : Prop := v = some (.int 1) ∧ Fr n0 L
set_option maxRecDepth 65536 in
set_option maxHeartbeats 40000000 in
theorem rm0 (l : Launch) (Z : State) (a0 : Array Value) (hw : ∀ d ∈ tables_1, d.before a0 Z = true) (ws : List Jvm.Cond) (p0 : Int32) (p1 : Int32) (p2 : Int32) (p3 : Int32) (p4 : Int32)  (h0 : Heap) (n0 : Nat) (Z0 : n0 ≤ h0.size) :
    MetFree l x (head1 (Jvm.Cond.code x code maxLocals ret :: ws) room_1) (fun a U => a = #[(.int p0), (.int p1), (.int p2), (.int p3), (.int p4)] ∧ Z.Warmed39 U.vm ∧ U.heap = h0) (fun _ _ _ _ _ => True) (fun _ U o U' => ∃ v L, o = .returned v ∧ Q0 Z p0 p1 p2 p3 p4 h0 n0 v U'.heap L ∧ FrameEnd U o U' L room_1.cells room_1.slots) := by
  refine MetFree.of_bodySF (plainFor_of_name pn_0) hisR ?_
  intro p e s m args below meth c s₁ Bd hml0 hP hK
  obtain ⟨rfl, hZ, hh⟩ := hP
  have hx := Bd.exec
  have hby := Bd.bytes
  have hml : c.maxLocals = 15 := hml0
  have hown : s.vm.findClass "com/example/emex/emex/explain/PositionsOfPinLaw" = some m.cls := findClass_of_methodNamed Bd.named
  have hnm := (name_of_methodNamed Bd.named Bd.method).1
  have X0 : Stand p l e room_1 s m #[(.int p0), (.int p1), (.int p2), (.int p3), (.int p4)] below meth c s₁ [] 0 0 := Stand.of_body Bd
  have e0 : s₁.heap = h0 := by rw [← hh, Bd.state]; rfl
  have N0 := Fr.nil n0
  have pre0 : ∀ t, Steps p.tables e below (s₁.setTop (mkF m 0 #[.val (.int p0), .val (.int p1), .val (.int p2), .val (.int p3), .val (.int p4), .unset, .unset, .unset, .unset, .unset, .unset, .unset, .unset, .unset, .unset] [])) t → Steps p.tables e below (s₁.setTop (entryFrame m #[(.int p0), (.int p1), (.int p2), (.int p3), (.int p4)] maxLocals)) t := fun t k => castTop (ef_0 m p0 p1 p2 p3 p4) k
  have c1 : ∀ t, Steps p.tables e below (s₁.setTop (mkF m 12 #[.val (.int p0), .val (.int p1), .val (.int p2), .val (.int p3), .val (.int p4), .val (.int (p3 &&& (3 : Int32))), .val (.int (p0 &&& (511 : Int32))), .unset, .unset, .unset, .unset, .unset, .unset, .unset, .unset] [])) t → Steps p.tables e below (s₁.setTop (mkF m 0 #[.val (.int p0), .val (.int p1), .val (.int p2), .val (.int p3), .val (.int p4), .unset, .unset, .unset, .unset, .unset, .unset, .unset, .unset, .unset, .unset] [])) t := by
    intro t kt
    show Steps p.tables e below (s₁.setTop (mkF m 0 #[.val (.int p0), .val (.int p1), .val (.int p2), .val (.int p3), .val (.int p4), .unset, .unset, .unset, .unset, .unset, .unset, .unset, .unset, .unset, .unset] [])) _
    refine XS.iloadN X0.here hx rfl (hb hby at_0) rfl ?_
    show Steps p.tables e below (s₁.setTop (mkF m 1 #[.val (.int p0), .val (.int p1), .val (.int p2), .val (.int p3), .val (.int p4), .unset, .unset, .unset, .unset, .unset, .unset, .unset, .unset, .unset, .unset] [(.int p3)])) _
    refine XS.iconst X0.here hx rfl (hb hby at_1) ?_
    show Steps p.tables e below (s₁.setTop (mkF m 2 #[.val (.int p0), .val (.int p1), .val (.int p2), .val (.int p3), .val (.int p4), .unset, .unset, .unset, .unset, .unset, .unset, .unset, .unset, .unset, .unset] [(.int (3 : Int32)), (.int p3)])) _
    refine XS.iand X0.here hx rfl (hb hby at_2) rfl ?_
    show Steps p.tables e below (s₁.setTop (mkF m 3 #[.val (.int p0), .val (.int p1), .val (.int p2), .val (.int p3), .val (.int p4), .unset, .unset, .unset, .unset, .unset, .unset, .unset, .unset, .unset, .unset] [(.int (p3 &&& (3 : Int32)))])) _
    refine XS.istore X0.here hx rfl (hb hby at_3) rfl (l' := #[.val (.int p0), .val (.int p1), .val (.int p2), .val (.int p3), .val (.int p4), .val (.int (p3 &&& (3 : Int32))), .unset, .unset, .unset, .unset, .unset, .unset, .unset, .unset, .unset]) rfl ?_
    show Steps p.tables e below (s₁.setTop (mkF m 5 #[.val (.int p0), .val (.int p1), .val (.int p2), .val (.int p3), .val (.int p4), .val (.int (p3 &&& (3 : Int32))), .unset, .unset, .unset, .unset, .unset, .unset, .unset, .unset, .unset] [])) _
    refine XS.iloadN X0.here hx rfl (hb hby at_5) rfl ?_
    show Steps p.tables e below (s₁.setTop (mkF m 6 #[.val (.int p0), .val (.int p1), .val (.int p2), .val (.int p3), .val (.int p4), .val (.int (p3 &&& (3 : Int32))), .unset, .unset, .unset, .unset, .unset, .unset, .unset, .unset, .unset] [(.int p0)])) _
    refine XS.sipush X0.here hx rfl (hb hby at_6) ?_
    show Steps p.tables e below (s₁.setTop (mkF m 9 #[.val (.int p0), .val (.int p1), .val (.int p2), .val (.int p3), .val (.int p4), .val (.int (p3 &&& (3 : Int32))), .unset, .unset, .unset, .unset, .unset, .unset, .unset, .unset, .unset] [(.int (511 : Int32)), (.int p0)])) _
    refine XS.iand X0.here hx rfl (hb hby at_9) rfl ?_
    show Steps p.tables e below (s₁.setTop (mkF m 10 #[.val (.int p0), .val (.int p1), .val (.int p2), .val (.int p3), .val (.int p4), .val (.int (p3 &&& (3 : Int32))), .unset, .unset, .unset, .unset, .unset, .unset, .unset, .unset, .unset] [(.int (p0 &&& (511 : Int32)))])) _
    refine XS.istore X0.here hx rfl (hb hby at_10) rfl (l' := #[.val (.int p0), .val (.int p1), .val (.int p2), .val (.int p3), .val (.int p4), .val (.int (p3 &&& (3 : Int32))), .val (.int (p0 &&& (511 : Int32))), .unset, .unset, .unset, .unset, .unset, .unset, .unset, .unset]) rfl ?_
    exact kt
  obtain ⟨xn, hxn, exn⟩ := own_m9 p0
  have c2 : ∀ t, Steps p.tables e below (s₁.setTop (mkF m 12 #[.val (.int p0), .val (.int p1), .val (.int p2), .val (.int p3), .val (.int p4), .val (.int (p3 &&& (3 : Int32))), .val (.int (Int32.ofNat xn)), .unset, .unset, .unset, .unset, .unset, .unset, .unset, .unset] [])) t → Steps p.tables e below (s₁.setTop (mkF m 12 #[.val (.int p0), .val (.int p1), .val (.int p2), .val (.int p3), .val (.int p4), .val (.int (p3 &&& (3 : Int32))), .val (.int (p0 &&& (511 : Int32))), .unset, .unset, .unset, .unset, .unset, .unset, .unset, .unset] [])) t := fun t kt => castTop (congrArg (fun zv => (mkF m 12 #[.val (.int p0), .val (.int p1), .val (.int p2), .val (.int p3), .val (.int p4), .val (.int (p3 &&& (3 : Int32))), .val (.int zv), .unset, .unset, .unset, .unset, .unset, .unset, .unset, .unset] [])) (show (p0 &&& (511 : Int32)) = (Int32.ofNat xn) from exn)) kt
  have c3 : ∀ t, Steps p.tables e below (s₁.setTop (mkF m 19 #[.val (.int p0), .val (.int p1), .val (.int p2), .val (.int p3), .val (.int p4), .val (.int (p3 &&& (3 : Int32))), .val (.int (Int32.ofNat xn)), .val (.int (p1 &&& (511 : Int32))), .unset, .unset, .unset, .unset, .unset, .unset, .unset] [])) t → Steps p.tables e below (s₁.setTop (mkF m 12 #[.val (.int p0), .val (.int p1), .val (.int p2), .val (.int p3), .val (.int p4), .val (.int (p3 &&& (3 : Int32))), .val (.int (Int32.ofNat xn)), .unset, .unset, .unset, .unset, .unset, .unset, .unset, .unset] [])) t := by
    intro t kt
    show Steps p.tables e below (s₁.setTop (mkF m 12 #[.val (.int p0), .val (.int p1), .val (.int p2), .val (.int p3), .val (.int p4), .val (.int (p3 &&& (3 : Int32))), .val (.int (Int32.ofNat xn)), .unset, .unset, .unset, .unset, .unset, .unset, .unset, .unset] [])) _
    refine XS.iloadN X0.here hx rfl (hb hby at_12) rfl ?_
    show Steps p.tables e below (s₁.setTop (mkF m 13 #[.val (.int p0), .val (.int p1), .val (.int p2), .val (.int p3), .val (.int p4), .val (.int (p3 &&& (3 : Int32))), .val (.int (Int32.ofNat xn)), .unset, .unset, .unset, .unset, .unset, .unset, .unset, .unset] [(.int p1)])) _
    refine XS.sipush X0.here hx rfl (hb hby at_13) ?_
    show Steps p.tables e below (s₁.setTop (mkF m 16 #[.val (.int p0), .val (.int p1), .val (.int p2), .val (.int p3), .val (.int p4), .val (.int (p3 &&& (3 : Int32))), .val (.int (Int32.ofNat xn)), .unset, .unset, .unset, .unset, .unset, .unset, .unset, .unset] [(.int (511 : Int32)), (.int p1)])) _
    refine XS.iand X0.here hx rfl (hb hby at_16) rfl ?_
    show Steps p.tables e below (s₁.setTop (mkF m 17 #[.val (.int p0), .val (.int p1), .val (.int p2), .val (.int p3), .val (.int p4), .val (.int (p3 &&& (3 : Int32))), .val (.int (Int32.ofNat xn)), .unset, .unset, .unset, .unset, .unset, .unset, .unset, .unset] [(.int (p1 &&& (511 : Int32)))])) _
    refine XS.istore X0.here hx rfl (hb hby at_17) rfl (l' := #[.val (.int p0), .val (.int p1), .val (.int p2), .val (.int p3), .val (.int p4), .val (.int (p3 &&& (3 : Int32))), .val (.int (Int32.ofNat xn)), .val (.int (p1 &&& (511 : Int32))), .unset, .unset, .unset, .unset, .unset, .unset, .unset]) rfl ?_
    exact kt
  obtain ⟨yn, hyn, eyn⟩ := own_m9 p1
  have c4 : ∀ t, Steps p.tables e below (s₁.setTop (mkF m 19 #[.val (.int p0), .val (.int p1), .val (.int p2), .val (.int p3), .val (.int p4), .val (.int (p3 &&& (3 : Int32))), .val (.int (Int32.ofNat xn)), .val (.int (Int32.ofNat yn)), .unset, .unset, .unset, .unset, .unset, .unset, .unset] [])) t → Steps p.tables e below (s₁.setTop (mkF m 19 #[.val (.int p0), .val (.int p1), .val (.int p2), .val (.int p3), .val (.int p4), .val (.int (p3 &&& (3 : Int32))), .val (.int (Int32.ofNat xn)), .val (.int (p1 &&& (511 : Int32))), .unset, .unset, .unset, .unset, .unset, .unset, .unset] [])) t := fun t kt => castTop (congrArg (fun zv => (mkF m 19 #[.val (.int p0), .val (.int p1), .val (.int p2), .val (.int p3), .val (.int p4), .val (.int (p3 &&& (3 : Int32))), .val (.int (Int32.ofNat xn)), .val (.int zv), .unset, .unset, .unset, .unset, .unset, .unset, .unset] [])) (show (p1 &&& (511 : Int32)) = (Int32.ofNat yn) from eyn)) kt
  have c5 : ∀ t, Steps p.tables e below (s₁.setTop (mkF m 26 #[.val (.int p0), .val (.int p1), .val (.int p2), .val (.int p3), .val (.int p4), .val (.int (p3 &&& (3 : Int32))), .val (.int (Int32.ofNat xn)), .val (.int (Int32.ofNat yn)), .val (.int (p2 &&& (511 : Int32))), .unset, .unset, .unset, .unset, .unset, .unset] [])) t → Steps p.tables e below (s₁.setTop (mkF m 19 #[.val (.int p0), .val (.int p1), .val (.int p2), .val (.int p3), .val (.int p4), .val (.int (p3 &&& (3 : Int32))), .val (.int (Int32.ofNat xn)), .val (.int (Int32.ofNat yn)), .unset, .unset, .unset, .unset, .unset, .unset, .unset] [])) t := by
    intro t kt
    show Steps p.tables e below (s₁.setTop (mkF m 19 #[.val (.int p0), .val (.int p1), .val (.int p2), .val (.int p3), .val (.int p4), .val (.int (p3 &&& (3 : Int32))), .val (.int (Int32.ofNat xn)), .val (.int (Int32.ofNat yn)), .unset, .unset, .unset, .unset, .unset, .unset, .unset] [])) _
    refine XS.iloadN X0.here hx rfl (hb hby at_19) rfl ?_
    show Steps p.tables e below (s₁.setTop (mkF m 20 #[.val (.int p0), .val (.int p1), .val (.int p2), .val (.int p3), .val (.int p4), .val (.int (p3 &&& (3 : Int32))), .val (.int (Int32.ofNat xn)), .val (.int (Int32.ofNat yn)), .unset, .unset, .unset, .unset, .unset, .unset, .unset] [(.int p2)])) _
    refine XS.sipush X0.here hx rfl (hb hby at_20) ?_
    show Steps p.tables e below (s₁.setTop (mkF m 23 #[.val (.int p0), .val (.int p1), .val (.int p2), .val (.int p3), .val (.int p4), .val (.int (p3 &&& (3 : Int32))), .val (.int (Int32.ofNat xn)), .val (.int (Int32.ofNat yn)), .unset, .unset, .unset, .unset, .unset, .unset, .unset] [(.int (511 : Int32)), (.int p2)])) _
    refine XS.iand X0.here hx rfl (hb hby at_23) rfl ?_
    show Steps p.tables e below (s₁.setTop (mkF m 24 #[.val (.int p0), .val (.int p1), .val (.int p2), .val (.int p3), .val (.int p4), .val (.int (p3 &&& (3 : Int32))), .val (.int (Int32.ofNat xn)), .val (.int (Int32.ofNat yn)), .unset, .unset, .unset, .unset, .unset, .unset, .unset] [(.int (p2 &&& (511 : Int32)))])) _
    refine XS.istore X0.here hx rfl (hb hby at_24) rfl (l' := #[.val (.int p0), .val (.int p1), .val (.int p2), .val (.int p3), .val (.int p4), .val (.int (p3 &&& (3 : Int32))), .val (.int (Int32.ofNat xn)), .val (.int (Int32.ofNat yn)), .val (.int (p2 &&& (511 : Int32))), .unset, .unset, .unset, .unset, .unset, .unset]) rfl ?_
    exact kt
  obtain ⟨zn, hzn, ezn⟩ := own_m9 p2
  have c6 : ∀ t, Steps p.tables e below (s₁.setTop (mkF m 26 #[.val (.int p0), .val (.int p1), .val (.int p2), .val (.int p3), .val (.int p4), .val (.int (p3 &&& (3 : Int32))), .val (.int (Int32.ofNat xn)), .val (.int (Int32.ofNat yn)), .val (.int (Int32.ofNat zn)), .unset, .unset, .unset, .unset, .unset, .unset] [])) t → Steps p.tables e below (s₁.setTop (mkF m 26 #[.val (.int p0), .val (.int p1), .val (.int p2), .val (.int p3), .val (.int p4), .val (.int (p3 &&& (3 : Int32))), .val (.int (Int32.ofNat xn)), .val (.int (Int32.ofNat yn)), .val (.int (p2 &&& (511 : Int32))), .unset, .unset, .unset, .unset, .unset, .unset] [])) t := fun t kt => castTop (congrArg (fun zv => (mkF m 26 #[.val (.int p0), .val (.int p1), .val (.int p2), .val (.int p3), .val (.int p4), .val (.int (p3 &&& (3 : Int32))), .val (.int (Int32.ofNat xn)), .val (.int (Int32.ofNat yn)), .val (.int zv), .unset, .unset, .unset, .unset, .unset, .unset] [])) (show (p2 &&& (511 : Int32)) = (Int32.ofNat zn) from ezn)) kt
  have c7 : ∀ t, Steps p.tables e below (s₁.setTop (mkF m 35 #[.val (.int p0), .val (.int p1), .val (.int p2), .val (.int p3), .val (.int p4), .val (.int (p3 &&& (3 : Int32))), .val (.int (Int32.ofNat xn)), .val (.int (Int32.ofNat yn)), .val (.int (Int32.ofNat zn)), .val (.int (((p4.toUInt32 >>> ((10 : Int32) &&& 31).toUInt32).toInt32) &&& (3 : Int32))), .unset, .unset, .unset, .unset, .unset] [])) t → Steps p.tables e below (s₁.setTop (mkF m 26 #[.val (.int p0), .val (.int p1), .val (.int p2), .val (.int p3), .val (.int p4), .val (.int (p3 &&& (3 : Int32))), .val (.int (Int32.ofNat xn)), .val (.int (Int32.ofNat yn)), .val (.int (Int32.ofNat zn)), .unset, .unset, .unset, .unset, .unset, .unset] [])) t := by
    intro t kt
    show Steps p.tables e below (s₁.setTop (mkF m 26 #[.val (.int p0), .val (.int p1), .val (.int p2), .val (.int p3), .val (.int p4), .val (.int (p3 &&& (3 : Int32))), .val (.int (Int32.ofNat xn)), .val (.int (Int32.ofNat yn)), .val (.int (Int32.ofNat zn)), .unset, .unset, .unset, .unset, .unset, .unset] [])) _
    refine XS.iload X0.here hx rfl (hb hby at_26) rfl ?_
    show Steps p.tables e below (s₁.setTop (mkF m 28 #[.val (.int p0), .val (.int p1), .val (.int p2), .val (.int p3), .val (.int p4), .val (.int (p3 &&& (3 : Int32))), .val (.int (Int32.ofNat xn)), .val (.int (Int32.ofNat yn)), .val (.int (Int32.ofNat zn)), .unset, .unset, .unset, .unset, .unset, .unset] [(.int p4)])) _
    refine XS.bipush X0.here hx rfl (hb hby at_28) ?_
    show Steps p.tables e below (s₁.setTop (mkF m 30 #[.val (.int p0), .val (.int p1), .val (.int p2), .val (.int p3), .val (.int p4), .val (.int (p3 &&& (3 : Int32))), .val (.int (Int32.ofNat xn)), .val (.int (Int32.ofNat yn)), .val (.int (Int32.ofNat zn)), .unset, .unset, .unset, .unset, .unset, .unset] [(.int (10 : Int32)), (.int p4)])) _
    refine XS.iushr X0.here hx rfl (hb hby at_30) rfl ?_
    show Steps p.tables e below (s₁.setTop (mkF m 31 #[.val (.int p0), .val (.int p1), .val (.int p2), .val (.int p3), .val (.int p4), .val (.int (p3 &&& (3 : Int32))), .val (.int (Int32.ofNat xn)), .val (.int (Int32.ofNat yn)), .val (.int (Int32.ofNat zn)), .unset, .unset, .unset, .unset, .unset, .unset] [(.int ((p4.toUInt32 >>> ((10 : Int32) &&& 31).toUInt32).toInt32))])) _
    refine XS.iconst X0.here hx rfl (hb hby at_31) ?_
    show Steps p.tables e below (s₁.setTop (mkF m 32 #[.val (.int p0), .val (.int p1), .val (.int p2), .val (.int p3), .val (.int p4), .val (.int (p3 &&& (3 : Int32))), .val (.int (Int32.ofNat xn)), .val (.int (Int32.ofNat yn)), .val (.int (Int32.ofNat zn)), .unset, .unset, .unset, .unset, .unset, .unset] [(.int (3 : Int32)), (.int ((p4.toUInt32 >>> ((10 : Int32) &&& 31).toUInt32).toInt32))])) _
    refine XS.iand X0.here hx rfl (hb hby at_32) rfl ?_
    show Steps p.tables e below (s₁.setTop (mkF m 33 #[.val (.int p0), .val (.int p1), .val (.int p2), .val (.int p3), .val (.int p4), .val (.int (p3 &&& (3 : Int32))), .val (.int (Int32.ofNat xn)), .val (.int (Int32.ofNat yn)), .val (.int (Int32.ofNat zn)), .unset, .unset, .unset, .unset, .unset, .unset] [(.int (((p4.toUInt32 >>> ((10 : Int32) &&& 31).toUInt32).toInt32) &&& (3 : Int32)))])) _
    refine XS.istore X0.here hx rfl (hb hby at_33) rfl (l' := #[.val (.int p0), .val (.int p1), .val (.int p2), .val (.int p3), .val (.int p4), .val (.int (p3 &&& (3 : Int32))), .val (.int (Int32.ofNat xn)), .val (.int (Int32.ofNat yn)), .val (.int (Int32.ofNat zn)), .val (.int (((p4.toUInt32 >>> ((10 : Int32) &&& 31).toUInt32).toInt32) &&& (3 : Int32))), .unset, .unset, .unset, .unset, .unset]) rfl ?_
    exact kt
  have c8 : ∀ t, Steps p.tables e below (s₁.setTop (mkF m 81 #[.val (.int p0), .val (.int p1), .val (.int p2), .val (.int p3), .val (.int p4), .val (.int (p3 &&& (3 : Int32))), .val (.int (Int32.ofNat xn)), .val (.int (Int32.ofNat yn)), .val (.int (Int32.ofNat zn)), .val (.int (((p4.toUInt32 >>> ((10 : Int32) &&& 31).toUInt32).toInt32) &&& (3 : Int32))), .val (.int (own_q (((p4.toUInt32 >>> ((10 : Int32) &&& 31).toUInt32).toInt32) &&& (3 : Int32)) (Int32.ofNat xn) (Int32.ofNat yn) (Int32.ofNat zn) (p4 &&& (1023 : Int32)))), .unset, .unset, .unset, .unset] [])) t → Steps p.tables e below (s₁.setTop (mkF m 35 #[.val (.int p0), .val (.int p1), .val (.int p2), .val (.int p3), .val (.int p4), .val (.int (p3 &&& (3 : Int32))), .val (.int (Int32.ofNat xn)), .val (.int (Int32.ofNat yn)), .val (.int (Int32.ofNat zn)), .val (.int (((p4.toUInt32 >>> ((10 : Int32) &&& 31).toUInt32).toInt32) &&& (3 : Int32))), .unset, .unset, .unset, .unset, .unset] [])) t := by
    intro t kt
    show Steps p.tables e below (s₁.setTop (mkF m 35 #[.val (.int p0), .val (.int p1), .val (.int p2), .val (.int p3), .val (.int p4), .val (.int (p3 &&& (3 : Int32))), .val (.int (Int32.ofNat xn)), .val (.int (Int32.ofNat yn)), .val (.int (Int32.ofNat zn)), .val (.int (((p4.toUInt32 >>> ((10 : Int32) &&& 31).toUInt32).toInt32) &&& (3 : Int32))), .unset, .unset, .unset, .unset, .unset] [])) _
    refine XS.iload X0.here hx rfl (hb hby at_35) rfl ?_
    by_cases hc37 : (((p4.toUInt32 >>> ((10 : Int32) &&& 31).toUInt32).toInt32) &&& (3 : Int32)) = (0 : Int32)
    · -- it is
      show Steps p.tables e below (s₁.setTop (mkF m 37 #[.val (.int p0), .val (.int p1), .val (.int p2), .val (.int p3), .val (.int p4), .val (.int (p3 &&& (3 : Int32))), .val (.int (Int32.ofNat xn)), .val (.int (Int32.ofNat yn)), .val (.int (Int32.ofNat zn)), .val (.int (((p4.toUInt32 >>> ((10 : Int32) &&& 31).toUInt32).toInt32) &&& (3 : Int32))), .unset, .unset, .unset, .unset, .unset] [(.int (((p4.toUInt32 >>> ((10 : Int32) &&& 31).toUInt32).toInt32) &&& (3 : Int32)))])) _
      refine XS.ifNo X0.here hx rfl (hb hby at_37) rfl ((if0 _ _).trans (teq hc37).2) ?_
      show Steps p.tables e below (s₁.setTop (mkF m 40 #[.val (.int p0), .val (.int p1), .val (.int p2), .val (.int p3), .val (.int p4), .val (.int (p3 &&& (3 : Int32))), .val (.int (Int32.ofNat xn)), .val (.int (Int32.ofNat yn)), .val (.int (Int32.ofNat zn)), .val (.int (((p4.toUInt32 >>> ((10 : Int32) &&& 31).toUInt32).toInt32) &&& (3 : Int32))), .unset, .unset, .unset, .unset, .unset] [])) _
      refine XS.iload X0.here hx rfl (hb hby at_40) rfl ?_
      show Steps p.tables e below (s₁.setTop (mkF m 42 #[.val (.int p0), .val (.int p1), .val (.int p2), .val (.int p3), .val (.int p4), .val (.int (p3 &&& (3 : Int32))), .val (.int (Int32.ofNat xn)), .val (.int (Int32.ofNat yn)), .val (.int (Int32.ofNat zn)), .val (.int (((p4.toUInt32 >>> ((10 : Int32) &&& 31).toUInt32).toInt32) &&& (3 : Int32))), .unset, .unset, .unset, .unset, .unset] [(.int (Int32.ofNat xn))])) _
      refine XS.istore X0.here hx rfl (hb hby at_42) rfl (l' := #[.val (.int p0), .val (.int p1), .val (.int p2), .val (.int p3), .val (.int p4), .val (.int (p3 &&& (3 : Int32))), .val (.int (Int32.ofNat xn)), .val (.int (Int32.ofNat yn)), .val (.int (Int32.ofNat zn)), .val (.int (((p4.toUInt32 >>> ((10 : Int32) &&& 31).toUInt32).toInt32) &&& (3 : Int32))), .val (.int (Int32.ofNat xn)), .unset, .unset, .unset, .unset]) rfl ?_
      show Steps p.tables e below (s₁.setTop (mkF m 44 #[.val (.int p0), .val (.int p1), .val (.int p2), .val (.int p3), .val (.int p4), .val (.int (p3 &&& (3 : Int32))), .val (.int (Int32.ofNat xn)), .val (.int (Int32.ofNat yn)), .val (.int (Int32.ofNat zn)), .val (.int (((p4.toUInt32 >>> ((10 : Int32) &&& 31).toUInt32).toInt32) &&& (3 : Int32))), .val (.int (Int32.ofNat xn)), .unset, .unset, .unset, .unset] [])) _
      refine XS.goto X0.here hx rfl (pc0 := 44) (pc' := 81) rfl (hb hby at_44) (by decide) (by decide) ?_
      rw [show (own_q (((p4.toUInt32 >>> ((10 : Int32) &&& 31).toUInt32).toInt32) &&& (3 : Int32)) (Int32.ofNat xn) (Int32.ofNat yn) (Int32.ofNat zn) (p4 &&& (1023 : Int32))) = (Int32.ofNat xn) from by unfold own_q; rw [if_pos hc37]] at kt
      exact kt
    · -- it isn't
      show Steps p.tables e below (s₁.setTop (mkF m 37 #[.val (.int p0), .val (.int p1), .val (.int p2), .val (.int p3), .val (.int p4), .val (.int (p3 &&& (3 : Int32))), .val (.int (Int32.ofNat xn)), .val (.int (Int32.ofNat yn)), .val (.int (Int32.ofNat zn)), .val (.int (((p4.toUInt32 >>> ((10 : Int32) &&& 31).toUInt32).toInt32) &&& (3 : Int32))), .unset, .unset, .unset, .unset, .unset] [(.int (((p4.toUInt32 >>> ((10 : Int32) &&& 31).toUInt32).toInt32) &&& (3 : Int32)))])) _
      refine XS.ifYes X0.here hx rfl (pc0 := 37) (pc' := 47) rfl (hb hby at_37) rfl ((if0 _ _).trans (feq hc37).2) (by decide) (by decide) ?_
      show Steps p.tables e below (s₁.setTop (mkF m 47 #[.val (.int p0), .val (.int p1), .val (.int p2), .val (.int p3), .val (.int p4), .val (.int (p3 &&& (3 : Int32))), .val (.int (Int32.ofNat xn)), .val (.int (Int32.ofNat yn)), .val (.int (Int32.ofNat zn)), .val (.int (((p4.toUInt32 >>> ((10 : Int32) &&& 31).toUInt32).toInt32) &&& (3 : Int32))), .unset, .unset, .unset, .unset, .unset] [])) _
      refine XS.iload X0.here hx rfl (hb hby at_47) rfl ?_
      show Steps p.tables e below (s₁.setTop (mkF m 49 #[.val (.int p0), .val (.int p1), .val (.int p2), .val (.int p3), .val (.int p4), .val (.int (p3 &&& (3 : Int32))), .val (.int (Int32.ofNat xn)), .val (.int (Int32.ofNat yn)), .val (.int (Int32.ofNat zn)), .val (.int (((p4.toUInt32 >>> ((10 : Int32) &&& 31).toUInt32).toInt32) &&& (3 : Int32))), .unset, .unset, .unset, .unset, .unset] [(.int (((p4.toUInt32 >>> ((10 : Int32) &&& 31).toUInt32).toInt32) &&& (3 : Int32)))])) _
      refine XS.iconst X0.here hx rfl (hb hby at_49) ?_
      by_cases hc50 : (((p4.toUInt32 >>> ((10 : Int32) &&& 31).toUInt32).toInt32) &&& (3 : Int32)) = (1 : Int32)
      · -- it is
        show Steps p.tables e below (s₁.setTop (mkF m 50 #[.val (.int p0), .val (.int p1), .val (.int p2), .val (.int p3), .val (.int p4), .val (.int (p3 &&& (3 : Int32))), .val (.int (Int32.ofNat xn)), .val (.int (Int32.ofNat yn)), .val (.int (Int32.ofNat zn)), .val (.int (((p4.toUInt32 >>> ((10 : Int32) &&& 31).toUInt32).toInt32) &&& (3 : Int32))), .unset, .unset, .unset, .unset, .unset] [(.int (1 : Int32)), (.int (((p4.toUInt32 >>> ((10 : Int32) &&& 31).toUInt32).toInt32) &&& (3 : Int32)))])) _
        refine XS.icmpNo X0.here hx rfl (hb hby at_50) rfl (teq hc50).2 ?_
        show Steps p.tables e below (s₁.setTop (mkF m 53 #[.val (.int p0), .val (.int p1), .val (.int p2), .val (.int p3), .val (.int p4), .val (.int (p3 &&& (3 : Int32))), .val (.int (Int32.ofNat xn)), .val (.int (Int32.ofNat yn)), .val (.int (Int32.ofNat zn)), .val (.int (((p4.toUInt32 >>> ((10 : Int32) &&& 31).toUInt32).toInt32) &&& (3 : Int32))), .unset, .unset, .unset, .unset, .unset] [])) _
        refine XS.iload X0.here hx rfl (hb hby at_53) rfl ?_
        show Steps p.tables e below (s₁.setTop (mkF m 55 #[.val (.int p0), .val (.int p1), .val (.int p2), .val (.int p3), .val (.int p4), .val (.int (p3 &&& (3 : Int32))), .val (.int (Int32.ofNat xn)), .val (.int (Int32.ofNat yn)), .val (.int (Int32.ofNat zn)), .val (.int (((p4.toUInt32 >>> ((10 : Int32) &&& 31).toUInt32).toInt32) &&& (3 : Int32))), .unset, .unset, .unset, .unset, .unset] [(.int (Int32.ofNat yn))])) _
        refine XS.istore X0.here hx rfl (hb hby at_55) rfl (l' := #[.val (.int p0), .val (.int p1), .val (.int p2), .val (.int p3), .val (.int p4), .val (.int (p3 &&& (3 : Int32))), .val (.int (Int32.ofNat xn)), .val (.int (Int32.ofNat yn)), .val (.int (Int32.ofNat zn)), .val (.int (((p4.toUInt32 >>> ((10 : Int32) &&& 31).toUInt32).toInt32) &&& (3 : Int32))), .val (.int (Int32.ofNat yn)), .unset, .unset, .unset, .unset]) rfl ?_
        show Steps p.tables e below (s₁.setTop (mkF m 57 #[.val (.int p0), .val (.int p1), .val (.int p2), .val (.int p3), .val (.int p4), .val (.int (p3 &&& (3 : Int32))), .val (.int (Int32.ofNat xn)), .val (.int (Int32.ofNat yn)), .val (.int (Int32.ofNat zn)), .val (.int (((p4.toUInt32 >>> ((10 : Int32) &&& 31).toUInt32).toInt32) &&& (3 : Int32))), .val (.int (Int32.ofNat yn)), .unset, .unset, .unset, .unset] [])) _
        refine XS.goto X0.here hx rfl (pc0 := 57) (pc' := 81) rfl (hb hby at_57) (by decide) (by decide) ?_
        rw [show (own_q (((p4.toUInt32 >>> ((10 : Int32) &&& 31).toUInt32).toInt32) &&& (3 : Int32)) (Int32.ofNat xn) (Int32.ofNat yn) (Int32.ofNat zn) (p4 &&& (1023 : Int32))) = (Int32.ofNat yn) from by unfold own_q; rw [if_neg hc37, if_pos hc50]] at kt
        exact kt
      · -- it isn't
        show Steps p.tables e below (s₁.setTop (mkF m 50 #[.val (.int p0), .val (.int p1), .val (.int p2), .val (.int p3), .val (.int p4), .val (.int (p3 &&& (3 : Int32))), .val (.int (Int32.ofNat xn)), .val (.int (Int32.ofNat yn)), .val (.int (Int32.ofNat zn)), .val (.int (((p4.toUInt32 >>> ((10 : Int32) &&& 31).toUInt32).toInt32) &&& (3 : Int32))), .unset, .unset, .unset, .unset, .unset] [(.int (1 : Int32)), (.int (((p4.toUInt32 >>> ((10 : Int32) &&& 31).toUInt32).toInt32) &&& (3 : Int32)))])) _
        refine XS.icmpYes X0.here hx rfl (pc0 := 50) (pc' := 60) rfl (hb hby at_50) rfl (feq hc50).2 (by decide) (by decide) ?_
        show Steps p.tables e below (s₁.setTop (mkF m 60 #[.val (.int p0), .val (.int p1), .val (.int p2), .val (.int p3), .val (.int p4), .val (.int (p3 &&& (3 : Int32))), .val (.int (Int32.ofNat xn)), .val (.int (Int32.ofNat yn)), .val (.int (Int32.ofNat zn)), .val (.int (((p4.toUInt32 >>> ((10 : Int32) &&& 31).toUInt32).toInt32) &&& (3 : Int32))), .unset, .unset, .unset, .unset, .unset] [])) _
        refine XS.iload X0.here hx rfl (hb hby at_60) rfl ?_
        show Steps p.tables e below (s₁.setTop (mkF m 62 #[.val (.int p0), .val (.int p1), .val (.int p2), .val (.int p3), .val (.int p4), .val (.int (p3 &&& (3 : Int32))), .val (.int (Int32.ofNat xn)), .val (.int (Int32.ofNat yn)), .val (.int (Int32.ofNat zn)), .val (.int (((p4.toUInt32 >>> ((10 : Int32) &&& 31).toUInt32).toInt32) &&& (3 : Int32))), .unset, .unset, .unset, .unset, .unset] [(.int (((p4.toUInt32 >>> ((10 : Int32) &&& 31).toUInt32).toInt32) &&& (3 : Int32)))])) _
        refine XS.iconst X0.here hx rfl (hb hby at_62) ?_
        by_cases hc63 : (((p4.toUInt32 >>> ((10 : Int32) &&& 31).toUInt32).toInt32) &&& (3 : Int32)) = (2 : Int32)
        · -- it is
          show Steps p.tables e below (s₁.setTop (mkF m 63 #[.val (.int p0), .val (.int p1), .val (.int p2), .val (.int p3), .val (.int p4), .val (.int (p3 &&& (3 : Int32))), .val (.int (Int32.ofNat xn)), .val (.int (Int32.ofNat yn)), .val (.int (Int32.ofNat zn)), .val (.int (((p4.toUInt32 >>> ((10 : Int32) &&& 31).toUInt32).toInt32) &&& (3 : Int32))), .unset, .unset, .unset, .unset, .unset] [(.int (2 : Int32)), (.int (((p4.toUInt32 >>> ((10 : Int32) &&& 31).toUInt32).toInt32) &&& (3 : Int32)))])) _
          refine XS.icmpNo X0.here hx rfl (hb hby at_63) rfl (teq hc63).2 ?_
          show Steps p.tables e below (s₁.setTop (mkF m 66 #[.val (.int p0), .val (.int p1), .val (.int p2), .val (.int p3), .val (.int p4), .val (.int (p3 &&& (3 : Int32))), .val (.int (Int32.ofNat xn)), .val (.int (Int32.ofNat yn)), .val (.int (Int32.ofNat zn)), .val (.int (((p4.toUInt32 >>> ((10 : Int32) &&& 31).toUInt32).toInt32) &&& (3 : Int32))), .unset, .unset, .unset, .unset, .unset] [])) _
          refine XS.iload X0.here hx rfl (hb hby at_66) rfl ?_
          show Steps p.tables e below (s₁.setTop (mkF m 68 #[.val (.int p0), .val (.int p1), .val (.int p2), .val (.int p3), .val (.int p4), .val (.int (p3 &&& (3 : Int32))), .val (.int (Int32.ofNat xn)), .val (.int (Int32.ofNat yn)), .val (.int (Int32.ofNat zn)), .val (.int (((p4.toUInt32 >>> ((10 : Int32) &&& 31).toUInt32).toInt32) &&& (3 : Int32))), .unset, .unset, .unset, .unset, .unset] [(.int (Int32.ofNat zn))])) _
          refine XS.istore X0.here hx rfl (hb hby at_68) rfl (l' := #[.val (.int p0), .val (.int p1), .val (.int p2), .val (.int p3), .val (.int p4), .val (.int (p3 &&& (3 : Int32))), .val (.int (Int32.ofNat xn)), .val (.int (Int32.ofNat yn)), .val (.int (Int32.ofNat zn)), .val (.int (((p4.toUInt32 >>> ((10 : Int32) &&& 31).toUInt32).toInt32) &&& (3 : Int32))), .val (.int (Int32.ofNat zn)), .unset, .unset, .unset, .unset]) rfl ?_
          show Steps p.tables e below (s₁.setTop (mkF m 70 #[.val (.int p0), .val (.int p1), .val (.int p2), .val (.int p3), .val (.int p4), .val (.int (p3 &&& (3 : Int32))), .val (.int (Int32.ofNat xn)), .val (.int (Int32.ofNat yn)), .val (.int (Int32.ofNat zn)), .val (.int (((p4.toUInt32 >>> ((10 : Int32) &&& 31).toUInt32).toInt32) &&& (3 : Int32))), .val (.int (Int32.ofNat zn)), .unset, .unset, .unset, .unset] [])) _
          refine XS.goto X0.here hx rfl (pc0 := 70) (pc' := 81) rfl (hb hby at_70) (by decide) (by decide) ?_
          rw [show (own_q (((p4.toUInt32 >>> ((10 : Int32) &&& 31).toUInt32).toInt32) &&& (3 : Int32)) (Int32.ofNat xn) (Int32.ofNat yn) (Int32.ofNat zn) (p4 &&& (1023 : Int32))) = (Int32.ofNat zn) from by unfold own_q; rw [if_neg hc37, if_neg hc50, if_pos hc63]] at kt
          exact kt
        · -- it isn't
          show Steps p.tables e below (s₁.setTop (mkF m 63 #[.val (.int p0), .val (.int p1), .val (.int p2), .val (.int p3), .val (.int p4), .val (.int (p3 &&& (3 : Int32))), .val (.int (Int32.ofNat xn)), .val (.int (Int32.ofNat yn)), .val (.int (Int32.ofNat zn)), .val (.int (((p4.toUInt32 >>> ((10 : Int32) &&& 31).toUInt32).toInt32) &&& (3 : Int32))), .unset, .unset, .unset, .unset, .unset] [(.int (2 : Int32)), (.int (((p4.toUInt32 >>> ((10 : Int32) &&& 31).toUInt32).toInt32) &&& (3 : Int32)))])) _
          refine XS.icmpYes X0.here hx rfl (pc0 := 63) (pc' := 73) rfl (hb hby at_63) rfl (feq hc63).2 (by decide) (by decide) ?_
          show Steps p.tables e below (s₁.setTop (mkF m 73 #[.val (.int p0), .val (.int p1), .val (.int p2), .val (.int p3), .val (.int p4), .val (.int (p3 &&& (3 : Int32))), .val (.int (Int32.ofNat xn)), .val (.int (Int32.ofNat yn)), .val (.int (Int32.ofNat zn)), .val (.int (((p4.toUInt32 >>> ((10 : Int32) &&& 31).toUInt32).toInt32) &&& (3 : Int32))), .unset, .unset, .unset, .unset, .unset] [])) _
          refine XS.iload X0.here hx rfl (hb hby at_73) rfl ?_
          show Steps p.tables e below (s₁.setTop (mkF m 75 #[.val (.int p0), .val (.int p1), .val (.int p2), .val (.int p3), .val (.int p4), .val (.int (p3 &&& (3 : Int32))), .val (.int (Int32.ofNat xn)), .val (.int (Int32.ofNat yn)), .val (.int (Int32.ofNat zn)), .val (.int (((p4.toUInt32 >>> ((10 : Int32) &&& 31).toUInt32).toInt32) &&& (3 : Int32))), .unset, .unset, .unset, .unset, .unset] [(.int p4)])) _
          refine XS.sipush X0.here hx rfl (hb hby at_75) ?_
          show Steps p.tables e below (s₁.setTop (mkF m 78 #[.val (.int p0), .val (.int p1), .val (.int p2), .val (.int p3), .val (.int p4), .val (.int (p3 &&& (3 : Int32))), .val (.int (Int32.ofNat xn)), .val (.int (Int32.ofNat yn)), .val (.int (Int32.ofNat zn)), .val (.int (((p4.toUInt32 >>> ((10 : Int32) &&& 31).toUInt32).toInt32) &&& (3 : Int32))), .unset, .unset, .unset, .unset, .unset] [(.int (1023 : Int32)), (.int p4)])) _
          refine XS.iand X0.here hx rfl (hb hby at_78) rfl ?_
          show Steps p.tables e below (s₁.setTop (mkF m 79 #[.val (.int p0), .val (.int p1), .val (.int p2), .val (.int p3), .val (.int p4), .val (.int (p3 &&& (3 : Int32))), .val (.int (Int32.ofNat xn)), .val (.int (Int32.ofNat yn)), .val (.int (Int32.ofNat zn)), .val (.int (((p4.toUInt32 >>> ((10 : Int32) &&& 31).toUInt32).toInt32) &&& (3 : Int32))), .unset, .unset, .unset, .unset, .unset] [(.int (p4 &&& (1023 : Int32)))])) _
          refine XS.istore X0.here hx rfl (hb hby at_79) rfl (l' := #[.val (.int p0), .val (.int p1), .val (.int p2), .val (.int p3), .val (.int p4), .val (.int (p3 &&& (3 : Int32))), .val (.int (Int32.ofNat xn)), .val (.int (Int32.ofNat yn)), .val (.int (Int32.ofNat zn)), .val (.int (((p4.toUInt32 >>> ((10 : Int32) &&& 31).toUInt32).toInt32) &&& (3 : Int32))), .val (.int (p4 &&& (1023 : Int32))), .unset, .unset, .unset, .unset]) rfl ?_
          rw [show (own_q (((p4.toUInt32 >>> ((10 : Int32) &&& 31).toUInt32).toInt32) &&& (3 : Int32)) (Int32.ofNat xn) (Int32.ofNat yn) (Int32.ofNat zn) (p4 &&& (1023 : Int32))) = (p4 &&& (1023 : Int32)) from by unfold own_q; rw [if_neg hc37, if_neg hc50, if_neg hc63]] at kt
          exact kt
  obtain ⟨qn, hqn, eqn⟩ := own_qq (((p4.toUInt32 >>> ((10 : Int32) &&& 31).toUInt32).toInt32) &&& (3 : Int32)) xn yn zn p4 hxn hyn hzn
  have c9 : ∀ t, Steps p.tables e below (s₁.setTop (mkF m 81 #[.val (.int p0), .val (.int p1), .val (.int p2), .val (.int p3), .val (.int p4), .val (.int (p3 &&& (3 : Int32))), .val (.int (Int32.ofNat xn)), .val (.int (Int32.ofNat yn)), .val (.int (Int32.ofNat zn)), .val (.int (((p4.toUInt32 >>> ((10 : Int32) &&& 31).toUInt32).toInt32) &&& (3 : Int32))), .val (.int (Int32.ofNat qn)), .unset, .unset, .unset, .unset] [])) t → Steps p.tables e below (s₁.setTop (mkF m 81 #[.val (.int p0), .val (.int p1), .val (.int p2), .val (.int p3), .val (.int p4), .val (.int (p3 &&& (3 : Int32))), .val (.int (Int32.ofNat xn)), .val (.int (Int32.ofNat yn)), .val (.int (Int32.ofNat zn)), .val (.int (((p4.toUInt32 >>> ((10 : Int32) &&& 31).toUInt32).toInt32) &&& (3 : Int32))), .val (.int (own_q (((p4.toUInt32 >>> ((10 : Int32) &&& 31).toUInt32).toInt32) &&& (3 : Int32)) (Int32.ofNat xn) (Int32.ofNat yn) (Int32.ofNat zn) (p4 &&& (1023 : Int32)))), .unset, .unset, .unset, .unset] [])) t := fun t kt => castTop (congrArg (fun zv => (mkF m 81 #[.val (.int p0), .val (.int p1), .val (.int p2), .val (.int p3), .val (.int p4), .val (.int (p3 &&& (3 : Int32))), .val (.int (Int32.ofNat xn)), .val (.int (Int32.ofNat yn)), .val (.int (Int32.ofNat zn)), .val (.int (((p4.toUInt32 >>> ((10 : Int32) &&& 31).toUInt32).toInt32) &&& (3 : Int32))), .val (.int zv), .unset, .unset, .unset, .unset] [])) (show (own_q (((p4.toUInt32 >>> ((10 : Int32) &&& 31).toUInt32).toInt32) &&& (3 : Int32)) (Int32.ofNat xn) (Int32.ofNat yn) (Int32.ofNat zn) (p4 &&& (1023 : Int32))) = (Int32.ofNat qn) from eqn)) kt
  rcases own_four p3 with hsz | hsz | hsz | hsz
  · skip
    have c10 : ∀ t, Steps p.tables e below (s₁.setTop (mkF m 81 #[.val (.int p0), .val (.int p1), .val (.int p2), .val (.int p3), .val (.int p4), .val (.int (0 : Int32)), .val (.int (Int32.ofNat xn)), .val (.int (Int32.ofNat yn)), .val (.int (Int32.ofNat zn)), .val (.int (((p4.toUInt32 >>> ((10 : Int32) &&& 31).toUInt32).toInt32) &&& (3 : Int32))), .val (.int (Int32.ofNat qn)), .unset, .unset, .unset, .unset] [])) t → Steps p.tables e below (s₁.setTop (mkF m 81 #[.val (.int p0), .val (.int p1), .val (.int p2), .val (.int p3), .val (.int p4), .val (.int (p3 &&& (3 : Int32))), .val (.int (Int32.ofNat xn)), .val (.int (Int32.ofNat yn)), .val (.int (Int32.ofNat zn)), .val (.int (((p4.toUInt32 >>> ((10 : Int32) &&& 31).toUInt32).toInt32) &&& (3 : Int32))), .val (.int (Int32.ofNat qn)), .unset, .unset, .unset, .unset] [])) t := fun t kt => castTop (congrArg (fun zv => (mkF m 81 #[.val (.int p0), .val (.int p1), .val (.int p2), .val (.int p3), .val (.int p4), .val (.int zv), .val (.int (Int32.ofNat xn)), .val (.int (Int32.ofNat yn)), .val (.int (Int32.ofNat zn)), .val (.int (((p4.toUInt32 >>> ((10 : Int32) &&& 31).toUInt32).toInt32) &&& (3 : Int32))), .val (.int (Int32.ofNat qn)), .unset, .unset, .unset, .unset] [])) (show (p3 &&& (3 : Int32)) = (0 : Int32) from hsz)) kt
    have c12 : ∀ t, Steps p.tables e below (s₁.setTop (mkF m 83 #[.val (.int p0), .val (.int p1), .val (.int p2), .val (.int p3), .val (.int p4), .val (.int (0 : Int32)), .val (.int (Int32.ofNat xn)), .val (.int (Int32.ofNat yn)), .val (.int (Int32.ofNat zn)), .val (.int (((p4.toUInt32 >>> ((10 : Int32) &&& 31).toUInt32).toInt32) &&& (3 : Int32))), .val (.int (Int32.ofNat qn)), .unset, .unset, .unset, .unset] [(.int (0 : Int32))])) t → Steps p.tables e below (s₁.setTop (mkF m 81 #[.val (.int p0), .val (.int p1), .val (.int p2), .val (.int p3), .val (.int p4), .val (.int (0 : Int32)), .val (.int (Int32.ofNat xn)), .val (.int (Int32.ofNat yn)), .val (.int (Int32.ofNat zn)), .val (.int (((p4.toUInt32 >>> ((10 : Int32) &&& 31).toUInt32).toInt32) &&& (3 : Int32))), .val (.int (Int32.ofNat qn)), .unset, .unset, .unset, .unset] [])) t := by
      intro t kt
      show Steps p.tables e below (s₁.setTop (mkF m 81 #[.val (.int p0), .val (.int p1), .val (.int p2), .val (.int p3), .val (.int p4), .val (.int (0 : Int32)), .val (.int (Int32.ofNat xn)), .val (.int (Int32.ofNat yn)), .val (.int (Int32.ofNat zn)), .val (.int (((p4.toUInt32 >>> ((10 : Int32) &&& 31).toUInt32).toInt32) &&& (3 : Int32))), .val (.int (Int32.ofNat qn)), .unset, .unset, .unset, .unset] [])) _
      refine XS.iload X0.here hx rfl (hb hby at_81) rfl ?_
      exact kt
    obtain ⟨T11, h11, k11, X11, e11, E11, A11, st11⟩ := newP X0 hx hZ (hw _ (List.mem_of_getElem? (i := 0) rfl)) e0 (g := (mkF m 83 #[.val (.int p0), .val (.int p1), .val (.int p2), .val (.int p3), .val (.int p4), .val (.int (0 : Int32)), .val (.int (Int32.ofNat xn)), .val (.int (Int32.ofNat yn)), .val (.int (Int32.ofNat zn)), .val (.int (((p4.toUInt32 >>> ((10 : Int32) &&& 31).toUInt32).toInt32) &&& (3 : Int32))), .val (.int (Int32.ofNat qn)), .unset, .unset, .unset, .unset] [(.int (0 : Int32))])) rfl (hb hby at_83) rfl (by decide) (cap := 0) (by decide) (by decide) (by decide) (by decide)
    obtain ⟨b11, g11⟩ : ∃ z, z = h0.size := ⟨_, rfl⟩
    rw [← g11] at A11 st11
    have g_b11 : n0 ≤ b11 := Nat.le_trans Z0 (Nat.le_of_eq g11.symm)
    have sz_b11 : h0.size ≤ b11 := Nat.le_trans (Keep.refl h0 []).1 (Nat.le_of_eq g11.symm)
    have V11 : Arv Z h11 b11 k11 .int (0 : Int32) [] (.int (0 : Int32)) := (Arv.new A11 (by decide)).pad (pad_rep [] (.int (0 : Int32)) 0)
    have c13 : ∀ t, Steps p.tables e below (T11.setTop (mkF m 124 #[.val (.int p0), .val (.int p1), .val (.int p2), .val (.int p3), .val (.int p4), .val (.int (0 : Int32)), .val (.int (Int32.ofNat xn)), .val (.int (Int32.ofNat yn)), .val (.int (Int32.ofNat zn)), .val (.int (((p4.toUInt32 >>> ((10 : Int32) &&& 31).toUInt32).toInt32) &&& (3 : Int32))), .val (.int (Int32.ofNat qn)), .val (.ref b11), .unset, .unset, .unset] [(.ref b11)])) t → Steps p.tables e below (T11.setTop (mkF m 85 #[.val (.int p0), .val (.int p1), .val (.int p2), .val (.int p3), .val (.int p4), .val (.int (0 : Int32)), .val (.int (Int32.ofNat xn)), .val (.int (Int32.ofNat yn)), .val (.int (Int32.ofNat zn)), .val (.int (((p4.toUInt32 >>> ((10 : Int32) &&& 31).toUInt32).toInt32) &&& (3 : Int32))), .val (.int (Int32.ofNat qn)), .unset, .unset, .unset, .unset] [(.ref b11)])) t := by
      intro t kt
      show Steps p.tables e below (T11.setTop (mkF m 85 #[.val (.int p0), .val (.int p1), .val (.int p2), .val (.int p3), .val (.int p4), .val (.int (0 : Int32)), .val (.int (Int32.ofNat xn)), .val (.int (Int32.ofNat yn)), .val (.int (Int32.ofNat zn)), .val (.int (((p4.toUInt32 >>> ((10 : Int32) &&& 31).toUInt32).toInt32) &&& (3 : Int32))), .val (.int (Int32.ofNat qn)), .unset, .unset, .unset, .unset] [(.ref b11)])) _
      refine XS.astore X11.here hx rfl (hb hby at_85) rfl rfl (l' := #[.val (.int p0), .val (.int p1), .val (.int p2), .val (.int p3), .val (.int p4), .val (.int (0 : Int32)), .val (.int (Int32.ofNat xn)), .val (.int (Int32.ofNat yn)), .val (.int (Int32.ofNat zn)), .val (.int (((p4.toUInt32 >>> ((10 : Int32) &&& 31).toUInt32).toInt32) &&& (3 : Int32))), .val (.int (Int32.ofNat qn)), .val (.ref b11), .unset, .unset, .unset]) rfl ?_
      show Steps p.tables e below (T11.setTop (mkF m 87 #[.val (.int p0), .val (.int p1), .val (.int p2), .val (.int p3), .val (.int p4), .val (.int (0 : Int32)), .val (.int (Int32.ofNat xn)), .val (.int (Int32.ofNat yn)), .val (.int (Int32.ofNat zn)), .val (.int (((p4.toUInt32 >>> ((10 : Int32) &&& 31).toUInt32).toInt32) &&& (3 : Int32))), .val (.int (Int32.ofNat qn)), .val (.ref b11), .unset, .unset, .unset] [])) _
      refine XS.iload X11.here hx rfl (hb hby at_87) rfl ?_
      show Steps p.tables e below (T11.setTop (mkF m 89 #[.val (.int p0), .val (.int p1), .val (.int p2), .val (.int p3), .val (.int p4), .val (.int (0 : Int32)), .val (.int (Int32.ofNat xn)), .val (.int (Int32.ofNat yn)), .val (.int (Int32.ofNat zn)), .val (.int (((p4.toUInt32 >>> ((10 : Int32) &&& 31).toUInt32).toInt32) &&& (3 : Int32))), .val (.int (Int32.ofNat qn)), .val (.ref b11), .unset, .unset, .unset] [(.int (0 : Int32))])) _
      refine XS.ifYes X11.here hx rfl (pc0 := 89) (pc' := 98) rfl (hb hby at_89) rfl ((if0 _ _).trans (flt (by decide : ¬ ((0 : Int32) < (0 : Int32)))).2.2.2) (by decide) (by decide) ?_
      show Steps p.tables e below (T11.setTop (mkF m 98 #[.val (.int p0), .val (.int p1), .val (.int p2), .val (.int p3), .val (.int p4), .val (.int (0 : Int32)), .val (.int (Int32.ofNat xn)), .val (.int (Int32.ofNat yn)), .val (.int (Int32.ofNat zn)), .val (.int (((p4.toUInt32 >>> ((10 : Int32) &&& 31).toUInt32).toInt32) &&& (3 : Int32))), .val (.int (Int32.ofNat qn)), .val (.ref b11), .unset, .unset, .unset] [])) _
      refine XS.iload X11.here hx rfl (hb hby at_98) rfl ?_
      show Steps p.tables e below (T11.setTop (mkF m 100 #[.val (.int p0), .val (.int p1), .val (.int p2), .val (.int p3), .val (.int p4), .val (.int (0 : Int32)), .val (.int (Int32.ofNat xn)), .val (.int (Int32.ofNat yn)), .val (.int (Int32.ofNat zn)), .val (.int (((p4.toUInt32 >>> ((10 : Int32) &&& 31).toUInt32).toInt32) &&& (3 : Int32))), .val (.int (Int32.ofNat qn)), .val (.ref b11), .unset, .unset, .unset] [(.int (0 : Int32))])) _
      refine XS.iconst X11.here hx rfl (hb hby at_100) ?_
      show Steps p.tables e below (T11.setTop (mkF m 101 #[.val (.int p0), .val (.int p1), .val (.int p2), .val (.int p3), .val (.int p4), .val (.int (0 : Int32)), .val (.int (Int32.ofNat xn)), .val (.int (Int32.ofNat yn)), .val (.int (Int32.ofNat zn)), .val (.int (((p4.toUInt32 >>> ((10 : Int32) &&& 31).toUInt32).toInt32) &&& (3 : Int32))), .val (.int (Int32.ofNat qn)), .val (.ref b11), .unset, .unset, .unset] [(.int (1 : Int32)), (.int (0 : Int32))])) _
      refine XS.icmpYes X11.here hx rfl (pc0 := 101) (pc' := 110) rfl (hb hby at_101) rfl (flt (by decide : ¬ ((1 : Int32) < (0 : Int32)))).2.2.2 (by decide) (by decide) ?_
      show Steps p.tables e below (T11.setTop (mkF m 110 #[.val (.int p0), .val (.int p1), .val (.int p2), .val (.int p3), .val (.int p4), .val (.int (0 : Int32)), .val (.int (Int32.ofNat xn)), .val (.int (Int32.ofNat yn)), .val (.int (Int32.ofNat zn)), .val (.int (((p4.toUInt32 >>> ((10 : Int32) &&& 31).toUInt32).toInt32) &&& (3 : Int32))), .val (.int (Int32.ofNat qn)), .val (.ref b11), .unset, .unset, .unset] [])) _
      refine XS.iload X11.here hx rfl (hb hby at_110) rfl ?_
      show Steps p.tables e below (T11.setTop (mkF m 112 #[.val (.int p0), .val (.int p1), .val (.int p2), .val (.int p3), .val (.int p4), .val (.int (0 : Int32)), .val (.int (Int32.ofNat xn)), .val (.int (Int32.ofNat yn)), .val (.int (Int32.ofNat zn)), .val (.int (((p4.toUInt32 >>> ((10 : Int32) &&& 31).toUInt32).toInt32) &&& (3 : Int32))), .val (.int (Int32.ofNat qn)), .val (.ref b11), .unset, .unset, .unset] [(.int (0 : Int32))])) _
      refine XS.iconst X11.here hx rfl (hb hby at_112) ?_
      show Steps p.tables e below (T11.setTop (mkF m 113 #[.val (.int p0), .val (.int p1), .val (.int p2), .val (.int p3), .val (.int p4), .val (.int (0 : Int32)), .val (.int (Int32.ofNat xn)), .val (.int (Int32.ofNat yn)), .val (.int (Int32.ofNat zn)), .val (.int (((p4.toUInt32 >>> ((10 : Int32) &&& 31).toUInt32).toInt32) &&& (3 : Int32))), .val (.int (Int32.ofNat qn)), .val (.ref b11), .unset, .unset, .unset] [(.int (2 : Int32)), (.int (0 : Int32))])) _
      refine XS.icmpYes X11.here hx rfl (pc0 := 113) (pc' := 122) rfl (hb hby at_113) rfl (flt (by decide : ¬ ((2 : Int32) < (0 : Int32)))).2.2.2 (by decide) (by decide) ?_
      show Steps p.tables e below (T11.setTop (mkF m 122 #[.val (.int p0), .val (.int p1), .val (.int p2), .val (.int p3), .val (.int p4), .val (.int (0 : Int32)), .val (.int (Int32.ofNat xn)), .val (.int (Int32.ofNat yn)), .val (.int (Int32.ofNat zn)), .val (.int (((p4.toUInt32 >>> ((10 : Int32) &&& 31).toUInt32).toInt32) &&& (3 : Int32))), .val (.int (Int32.ofNat qn)), .val (.ref b11), .unset, .unset, .unset] [])) _
      refine XS.aload X11.here hx rfl (hb hby at_122) rfl rfl ?_
      exact kt
    have f14 := (Nat.le_trans Z0 E11.1)
    obtain ⟨_, _, ⟨T15, L15, k15, n15⟩, -, X15, ⟨Lc15, hQ15, l15, y15, z15⟩, st15⟩ := Jvm.LawKit.callS X11 hx (y := (⟨"com/example/emex/emex/explain/Positions", "of", "([I)Lcom/example/emex/emex/explain/Positions;"⟩ : MethodName)) hown (mvT hZ (hw _ (List.mem_of_getElem? (i := 1) rfl))) (mvT hZ (hw _ (List.mem_of_getElem? (i := 2) rfl))) (mvT hZ (hw _ (List.mem_of_getElem? (i := 3) rfl))) (mvT hZ (hw _ (List.mem_of_getElem? (i := 4) rfl))) (by decide) (backOf (W := 0) (rm1_0 l Z a0 hw [] b11 k11 (.int (0 : Int32))  h11 n0 f14 V11 ) hZ (hw _ (List.mem_of_getElem? (i := 4) rfl)) (hw _ (List.mem_of_getElem? (i := 3) rfl)) (by decide) (by decide)) (g := (mkF m 124 #[.val (.int p0), .val (.int p1), .val (.int p2), .val (.int p3), .val (.int p4), .val (.int (0 : Int32)), .val (.int (Int32.ofNat xn)), .val (.int (Int32.ofNat yn)), .val (.int (Int32.ofNat zn)), .val (.int (((p4.toUInt32 >>> ((10 : Int32) &&& 31).toUInt32).toInt32) &&& (3 : Int32))), .val (.int (Int32.ofNat qn)), .val (.ref b11), .unset, .unset, .unset] [(.ref b11)])) rfl (by rw [hml]; rfl) (argsL := [(.ref b11)]) (rest := []) (lenOf pd_4 rfl) rfl (by show 2 * 0 + _ ≤ _; exact Nat.le_of_eq rfl) (hb hby at_124) (fun _ _ => ⟨rfl, e11, (by decide : 1 + 2 ≤ _), (by decide : 0 + 2 ≤ _)⟩)
    dsimp only [Pt.U, Pt.locs, Pt.cells, Pt.slots] at X15 l15 y15 z15 st15 hQ15
    subst l15 y15 z15
    obtain ⟨ob15, ot15, kk15, ln, hl8, hz, rfl, N15q, Kq15, g_ob15, Eq15, Fw15, Fs15, Vq15⟩ := hQ15
    have N15 := Fr.app N0 N15q
    have c16 : ∀ t, Steps p.tables e below (T15.setTop (mkF m 129 #[.val (.int p0), .val (.int p1), .val (.int p2), .val (.int p3), .val (.int p4), .val (.int (0 : Int32)), .val (.int (Int32.ofNat xn)), .val (.int (Int32.ofNat yn)), .val (.int (Int32.ofNat zn)), .val (.int (((p4.toUInt32 >>> ((10 : Int32) &&& 31).toUInt32).toInt32) &&& (3 : Int32))), .val (.int (Int32.ofNat qn)), .val (.ref b11), .val (.ref ob15), .unset, .unset] [])) t → Steps p.tables e below (T15.setTop (mkF m 127 #[.val (.int p0), .val (.int p1), .val (.int p2), .val (.int p3), .val (.int p4), .val (.int (0 : Int32)), .val (.int (Int32.ofNat xn)), .val (.int (Int32.ofNat yn)), .val (.int (Int32.ofNat zn)), .val (.int (((p4.toUInt32 >>> ((10 : Int32) &&& 31).toUInt32).toInt32) &&& (3 : Int32))), .val (.int (Int32.ofNat qn)), .val (.ref b11), .unset, .unset, .unset] [(.ref ob15)])) t := by
      intro t kt
      show Steps p.tables e below (T15.setTop (mkF m 127 #[.val (.int p0), .val (.int p1), .val (.int p2), .val (.int p3), .val (.int p4), .val (.int (0 : Int32)), .val (.int (Int32.ofNat xn)), .val (.int (Int32.ofNat yn)), .val (.int (Int32.ofNat zn)), .val (.int (((p4.toUInt32 >>> ((10 : Int32) &&& 31).toUInt32).toInt32) &&& (3 : Int32))), .val (.int (Int32.ofNat qn)), .val (.ref b11), .unset, .unset, .unset] [(.ref ob15)])) _
      refine XS.astore X15.here hx rfl (hb hby at_127) rfl rfl (l' := #[.val (.int p0), .val (.int p1), .val (.int p2), .val (.int p3), .val (.int p4), .val (.int (0 : Int32)), .val (.int (Int32.ofNat xn)), .val (.int (Int32.ofNat yn)), .val (.int (Int32.ofNat zn)), .val (.int (((p4.toUInt32 >>> ((10 : Int32) &&& 31).toUInt32).toInt32) &&& (3 : Int32))), .val (.int (Int32.ofNat qn)), .val (.ref b11), .val (.ref ob15), .unset, .unset]) rfl ?_
      exact kt
    have c17 : ∀ t, Steps p.tables e below (T15.setTop (mkF m 174 #[.val (.int p0), .val (.int p1), .val (.int p2), .val (.int p3), .val (.int p4), .val (.int (0 : Int32)), .val (.int (Int32.ofNat xn)), .val (.int (Int32.ofNat yn)), .val (.int (Int32.ofNat zn)), .val (.int (((p4.toUInt32 >>> ((10 : Int32) &&& 31).toUInt32).toInt32) &&& (3 : Int32))), .val (.int (Int32.ofNat qn)), .val (.ref b11), .val (.ref ob15), .val (.int (0 : Int32)), .unset] [])) t → Steps p.tables e below (T15.setTop (mkF m 129 #[.val (.int p0), .val (.int p1), .val (.int p2), .val (.int p3), .val (.int p4), .val (.int (0 : Int32)), .val (.int (Int32.ofNat xn)), .val (.int (Int32.ofNat yn)), .val (.int (Int32.ofNat zn)), .val (.int (((p4.toUInt32 >>> ((10 : Int32) &&& 31).toUInt32).toInt32) &&& (3 : Int32))), .val (.int (Int32.ofNat qn)), .val (.ref b11), .val (.ref ob15), .unset, .unset] [])) t := by
      intro t kt
      show Steps p.tables e below (T15.setTop (mkF m 129 #[.val (.int p0), .val (.int p1), .val (.int p2), .val (.int p3), .val (.int p4), .val (.int (0 : Int32)), .val (.int (Int32.ofNat xn)), .val (.int (Int32.ofNat yn)), .val (.int (Int32.ofNat zn)), .val (.int (((p4.toUInt32 >>> ((10 : Int32) &&& 31).toUInt32).toInt32) &&& (3 : Int32))), .val (.int (Int32.ofNat qn)), .val (.ref b11), .val (.ref ob15), .unset, .unset] [])) _
      refine XS.iload X15.here hx rfl (hb hby at_129) rfl ?_
      show Steps p.tables e below (T15.setTop (mkF m 131 #[.val (.int p0), .val (.int p1), .val (.int p2), .val (.int p3), .val (.int p4), .val (.int (0 : Int32)), .val (.int (Int32.ofNat xn)), .val (.int (Int32.ofNat yn)), .val (.int (Int32.ofNat zn)), .val (.int (((p4.toUInt32 >>> ((10 : Int32) &&& 31).toUInt32).toInt32) &&& (3 : Int32))), .val (.int (Int32.ofNat qn)), .val (.ref b11), .val (.ref ob15), .unset, .unset] [(.int (0 : Int32))])) _
      refine XS.ifYes X15.here hx rfl (pc0 := 131) (pc' := 141) rfl (hb hby at_131) rfl ((if0 _ _).trans (flt (by decide : ¬ ((0 : Int32) < (0 : Int32)))).2.2.2) (by decide) (by decide) ?_
      show Steps p.tables e below (T15.setTop (mkF m 141 #[.val (.int p0), .val (.int p1), .val (.int p2), .val (.int p3), .val (.int p4), .val (.int (0 : Int32)), .val (.int (Int32.ofNat xn)), .val (.int (Int32.ofNat yn)), .val (.int (Int32.ofNat zn)), .val (.int (((p4.toUInt32 >>> ((10 : Int32) &&& 31).toUInt32).toInt32) &&& (3 : Int32))), .val (.int (Int32.ofNat qn)), .val (.ref b11), .val (.ref ob15), .unset, .unset] [])) _
      refine XS.iload X15.here hx rfl (hb hby at_141) rfl ?_
      show Steps p.tables e below (T15.setTop (mkF m 143 #[.val (.int p0), .val (.int p1), .val (.int p2), .val (.int p3), .val (.int p4), .val (.int (0 : Int32)), .val (.int (Int32.ofNat xn)), .val (.int (Int32.ofNat yn)), .val (.int (Int32.ofNat zn)), .val (.int (((p4.toUInt32 >>> ((10 : Int32) &&& 31).toUInt32).toInt32) &&& (3 : Int32))), .val (.int (Int32.ofNat qn)), .val (.ref b11), .val (.ref ob15), .unset, .unset] [(.int (0 : Int32))])) _
      refine XS.iconst X15.here hx rfl (hb hby at_143) ?_
      show Steps p.tables e below (T15.setTop (mkF m 144 #[.val (.int p0), .val (.int p1), .val (.int p2), .val (.int p3), .val (.int p4), .val (.int (0 : Int32)), .val (.int (Int32.ofNat xn)), .val (.int (Int32.ofNat yn)), .val (.int (Int32.ofNat zn)), .val (.int (((p4.toUInt32 >>> ((10 : Int32) &&& 31).toUInt32).toInt32) &&& (3 : Int32))), .val (.int (Int32.ofNat qn)), .val (.ref b11), .val (.ref ob15), .unset, .unset] [(.int (1 : Int32)), (.int (0 : Int32))])) _
      refine XS.icmpYes X15.here hx rfl (pc0 := 144) (pc' := 154) rfl (hb hby at_144) rfl (flt (by decide : ¬ ((1 : Int32) < (0 : Int32)))).2.2.2 (by decide) (by decide) ?_
      show Steps p.tables e below (T15.setTop (mkF m 154 #[.val (.int p0), .val (.int p1), .val (.int p2), .val (.int p3), .val (.int p4), .val (.int (0 : Int32)), .val (.int (Int32.ofNat xn)), .val (.int (Int32.ofNat yn)), .val (.int (Int32.ofNat zn)), .val (.int (((p4.toUInt32 >>> ((10 : Int32) &&& 31).toUInt32).toInt32) &&& (3 : Int32))), .val (.int (Int32.ofNat qn)), .val (.ref b11), .val (.ref ob15), .unset, .unset] [])) _
      refine XS.iload X15.here hx rfl (hb hby at_154) rfl ?_
      show Steps p.tables e below (T15.setTop (mkF m 156 #[.val (.int p0), .val (.int p1), .val (.int p2), .val (.int p3), .val (.int p4), .val (.int (0 : Int32)), .val (.int (Int32.ofNat xn)), .val (.int (Int32.ofNat yn)), .val (.int (Int32.ofNat zn)), .val (.int (((p4.toUInt32 >>> ((10 : Int32) &&& 31).toUInt32).toInt32) &&& (3 : Int32))), .val (.int (Int32.ofNat qn)), .val (.ref b11), .val (.ref ob15), .unset, .unset] [(.int (0 : Int32))])) _
      refine XS.iconst X15.here hx rfl (hb hby at_156) ?_
      show Steps p.tables e below (T15.setTop (mkF m 157 #[.val (.int p0), .val (.int p1), .val (.int p2), .val (.int p3), .val (.int p4), .val (.int (0 : Int32)), .val (.int (Int32.ofNat xn)), .val (.int (Int32.ofNat yn)), .val (.int (Int32.ofNat zn)), .val (.int (((p4.toUInt32 >>> ((10 : Int32) &&& 31).toUInt32).toInt32) &&& (3 : Int32))), .val (.int (Int32.ofNat qn)), .val (.ref b11), .val (.ref ob15), .unset, .unset] [(.int (2 : Int32)), (.int (0 : Int32))])) _
      refine XS.icmpYes X15.here hx rfl (pc0 := 157) (pc' := 171) rfl (hb hby at_157) rfl (flt (by decide : ¬ ((2 : Int32) < (0 : Int32)))).2.2.2 (by decide) (by decide) ?_
      show Steps p.tables e below (T15.setTop (mkF m 171 #[.val (.int p0), .val (.int p1), .val (.int p2), .val (.int p3), .val (.int p4), .val (.int (0 : Int32)), .val (.int (Int32.ofNat xn)), .val (.int (Int32.ofNat yn)), .val (.int (Int32.ofNat zn)), .val (.int (((p4.toUInt32 >>> ((10 : Int32) &&& 31).toUInt32).toInt32) &&& (3 : Int32))), .val (.int (Int32.ofNat qn)), .val (.ref b11), .val (.ref ob15), .unset, .unset] [])) _
      refine XS.iconst X15.here hx rfl (hb hby at_171) ?_
      show Steps p.tables e below (T15.setTop (mkF m 172 #[.val (.int p0), .val (.int p1), .val (.int p2), .val (.int p3), .val (.int p4), .val (.int (0 : Int32)), .val (.int (Int32.ofNat xn)), .val (.int (Int32.ofNat yn)), .val (.int (Int32.ofNat zn)), .val (.int (((p4.toUInt32 >>> ((10 : Int32) &&& 31).toUInt32).toInt32) &&& (3 : Int32))), .val (.int (Int32.ofNat qn)), .val (.ref b11), .val (.ref ob15), .unset, .unset] [(.int (0 : Int32))])) _
      refine XS.istore X15.here hx rfl (hb hby at_172) rfl (l' := #[.val (.int p0), .val (.int p1), .val (.int p2), .val (.int p3), .val (.int p4), .val (.int (0 : Int32)), .val (.int (Int32.ofNat xn)), .val (.int (Int32.ofNat yn)), .val (.int (Int32.ofNat zn)), .val (.int (((p4.toUInt32 >>> ((10 : Int32) &&& 31).toUInt32).toInt32) &&& (3 : Int32))), .val (.int (Int32.ofNat qn)), .val (.ref b11), .val (.ref ob15), .val (.int (0 : Int32)), .unset]) rfl ?_
      exact kt
    have c18 : ∀ t, Steps p.tables e below (T15.setTop (mkF m 233 #[.val (.int p0), .val (.int p1), .val (.int p2), .val (.int p3), .val (.int p4), .val (.int (0 : Int32)), .val (.int (Int32.ofNat xn)), .val (.int (Int32.ofNat yn)), .val (.int (Int32.ofNat zn)), .val (.int (((p4.toUInt32 >>> ((10 : Int32) &&& 31).toUInt32).toInt32) &&& (3 : Int32))), .val (.int (Int32.ofNat qn)), .val (.ref b11), .val (.ref ob15), .val (.int (0 : Int32)), .val (.int (0 : Int32))] [])) t → Steps p.tables e below (T15.setTop (mkF m 174 #[.val (.int p0), .val (.int p1), .val (.int p2), .val (.int p3), .val (.int p4), .val (.int (0 : Int32)), .val (.int (Int32.ofNat xn)), .val (.int (Int32.ofNat yn)), .val (.int (Int32.ofNat zn)), .val (.int (((p4.toUInt32 >>> ((10 : Int32) &&& 31).toUInt32).toInt32) &&& (3 : Int32))), .val (.int (Int32.ofNat qn)), .val (.ref b11), .val (.ref ob15), .val (.int (0 : Int32)), .unset] [])) t := by
      intro t kt
      show Steps p.tables e below (T15.setTop (mkF m 174 #[.val (.int p0), .val (.int p1), .val (.int p2), .val (.int p3), .val (.int p4), .val (.int (0 : Int32)), .val (.int (Int32.ofNat xn)), .val (.int (Int32.ofNat yn)), .val (.int (Int32.ofNat zn)), .val (.int (((p4.toUInt32 >>> ((10 : Int32) &&& 31).toUInt32).toInt32) &&& (3 : Int32))), .val (.int (Int32.ofNat qn)), .val (.ref b11), .val (.ref ob15), .val (.int (0 : Int32)), .unset] [])) _
      refine XS.iconst X15.here hx rfl (hb hby at_174) ?_
      show Steps p.tables e below (T15.setTop (mkF m 175 #[.val (.int p0), .val (.int p1), .val (.int p2), .val (.int p3), .val (.int p4), .val (.int (0 : Int32)), .val (.int (Int32.ofNat xn)), .val (.int (Int32.ofNat yn)), .val (.int (Int32.ofNat zn)), .val (.int (((p4.toUInt32 >>> ((10 : Int32) &&& 31).toUInt32).toInt32) &&& (3 : Int32))), .val (.int (Int32.ofNat qn)), .val (.ref b11), .val (.ref ob15), .val (.int (0 : Int32)), .unset] [(.int (0 : Int32))])) _
      refine XS.istore X15.here hx rfl (hb hby at_175) rfl (l' := #[.val (.int p0), .val (.int p1), .val (.int p2), .val (.int p3), .val (.int p4), .val (.int (0 : Int32)), .val (.int (Int32.ofNat xn)), .val (.int (Int32.ofNat yn)), .val (.int (Int32.ofNat zn)), .val (.int (((p4.toUInt32 >>> ((10 : Int32) &&& 31).toUInt32).toInt32) &&& (3 : Int32))), .val (.int (Int32.ofNat qn)), .val (.ref b11), .val (.ref ob15), .val (.int (0 : Int32)), .val (.int (0 : Int32))]) rfl ?_
      show Steps p.tables e below (T15.setTop (mkF m 177 #[.val (.int p0), .val (.int p1), .val (.int p2), .val (.int p3), .val (.int p4), .val (.int (0 : Int32)), .val (.int (Int32.ofNat xn)), .val (.int (Int32.ofNat yn)), .val (.int (Int32.ofNat zn)), .val (.int (((p4.toUInt32 >>> ((10 : Int32) &&& 31).toUInt32).toInt32) &&& (3 : Int32))), .val (.int (Int32.ofNat qn)), .val (.ref b11), .val (.ref ob15), .val (.int (0 : Int32)), .val (.int (0 : Int32))] [])) _
      refine XS.iload X15.here hx rfl (hb hby at_177) rfl ?_
      show Steps p.tables e below (T15.setTop (mkF m 179 #[.val (.int p0), .val (.int p1), .val (.int p2), .val (.int p3), .val (.int p4), .val (.int (0 : Int32)), .val (.int (Int32.ofNat xn)), .val (.int (Int32.ofNat yn)), .val (.int (Int32.ofNat zn)), .val (.int (((p4.toUInt32 >>> ((10 : Int32) &&& 31).toUInt32).toInt32) &&& (3 : Int32))), .val (.int (Int32.ofNat qn)), .val (.ref b11), .val (.ref ob15), .val (.int (0 : Int32)), .val (.int (0 : Int32))] [(.int (0 : Int32))])) _
      refine XS.ifYes X15.here hx rfl (pc0 := 179) (pc' := 188) rfl (hb hby at_179) rfl ((if0 _ _).trans (flt (by decide : ¬ ((0 : Int32) < (0 : Int32)))).2.2.2) (by decide) (by decide) ?_
      show Steps p.tables e below (T15.setTop (mkF m 188 #[.val (.int p0), .val (.int p1), .val (.int p2), .val (.int p3), .val (.int p4), .val (.int (0 : Int32)), .val (.int (Int32.ofNat xn)), .val (.int (Int32.ofNat yn)), .val (.int (Int32.ofNat zn)), .val (.int (((p4.toUInt32 >>> ((10 : Int32) &&& 31).toUInt32).toInt32) &&& (3 : Int32))), .val (.int (Int32.ofNat qn)), .val (.ref b11), .val (.ref ob15), .val (.int (0 : Int32)), .val (.int (0 : Int32))] [])) _
      refine XS.iload X15.here hx rfl (hb hby at_188) rfl ?_
      show Steps p.tables e below (T15.setTop (mkF m 190 #[.val (.int p0), .val (.int p1), .val (.int p2), .val (.int p3), .val (.int p4), .val (.int (0 : Int32)), .val (.int (Int32.ofNat xn)), .val (.int (Int32.ofNat yn)), .val (.int (Int32.ofNat zn)), .val (.int (((p4.toUInt32 >>> ((10 : Int32) &&& 31).toUInt32).toInt32) &&& (3 : Int32))), .val (.int (Int32.ofNat qn)), .val (.ref b11), .val (.ref ob15), .val (.int (0 : Int32)), .val (.int (0 : Int32))] [(.int (0 : Int32))])) _
      refine XS.iconst X15.here hx rfl (hb hby at_190) ?_
      show Steps p.tables e below (T15.setTop (mkF m 191 #[.val (.int p0), .val (.int p1), .val (.int p2), .val (.int p3), .val (.int p4), .val (.int (0 : Int32)), .val (.int (Int32.ofNat xn)), .val (.int (Int32.ofNat yn)), .val (.int (Int32.ofNat zn)), .val (.int (((p4.toUInt32 >>> ((10 : Int32) &&& 31).toUInt32).toInt32) &&& (3 : Int32))), .val (.int (Int32.ofNat qn)), .val (.ref b11), .val (.ref ob15), .val (.int (0 : Int32)), .val (.int (0 : Int32))] [(.int (1 : Int32)), (.int (0 : Int32))])) _
      refine XS.icmpYes X15.here hx rfl (pc0 := 191) (pc' := 207) rfl (hb hby at_191) rfl (flt (by decide : ¬ ((1 : Int32) < (0 : Int32)))).2.2.2 (by decide) (by decide) ?_
      show Steps p.tables e below (T15.setTop (mkF m 207 #[.val (.int p0), .val (.int p1), .val (.int p2), .val (.int p3), .val (.int p4), .val (.int (0 : Int32)), .val (.int (Int32.ofNat xn)), .val (.int (Int32.ofNat yn)), .val (.int (Int32.ofNat zn)), .val (.int (((p4.toUInt32 >>> ((10 : Int32) &&& 31).toUInt32).toInt32) &&& (3 : Int32))), .val (.int (Int32.ofNat qn)), .val (.ref b11), .val (.ref ob15), .val (.int (0 : Int32)), .val (.int (0 : Int32))] [])) _
      refine XS.iload X15.here hx rfl (hb hby at_207) rfl ?_
      show Steps p.tables e below (T15.setTop (mkF m 209 #[.val (.int p0), .val (.int p1), .val (.int p2), .val (.int p3), .val (.int p4), .val (.int (0 : Int32)), .val (.int (Int32.ofNat xn)), .val (.int (Int32.ofNat yn)), .val (.int (Int32.ofNat zn)), .val (.int (((p4.toUInt32 >>> ((10 : Int32) &&& 31).toUInt32).toInt32) &&& (3 : Int32))), .val (.int (Int32.ofNat qn)), .val (.ref b11), .val (.ref ob15), .val (.int (0 : Int32)), .val (.int (0 : Int32))] [(.int (0 : Int32))])) _
      refine XS.iconst X15.here hx rfl (hb hby at_209) ?_
      show Steps p.tables e below (T15.setTop (mkF m 210 #[.val (.int p0), .val (.int p1), .val (.int p2), .val (.int p3), .val (.int p4), .val (.int (0 : Int32)), .val (.int (Int32.ofNat xn)), .val (.int (Int32.ofNat yn)), .val (.int (Int32.ofNat zn)), .val (.int (((p4.toUInt32 >>> ((10 : Int32) &&& 31).toUInt32).toInt32) &&& (3 : Int32))), .val (.int (Int32.ofNat qn)), .val (.ref b11), .val (.ref ob15), .val (.int (0 : Int32)), .val (.int (0 : Int32))] [(.int (2 : Int32)), (.int (0 : Int32))])) _
      refine XS.icmpYes X15.here hx rfl (pc0 := 210) (pc' := 233) rfl (hb hby at_210) rfl (flt (by decide : ¬ ((2 : Int32) < (0 : Int32)))).2.2.2 (by decide) (by decide) ?_
      exact kt
    have c19 : ∀ t, Steps p.tables e below (T15.setTop (mkF m 237 #[.val (.int p0), .val (.int p1), .val (.int p2), .val (.int p3), .val (.int p4), .val (.int (0 : Int32)), .val (.int (Int32.ofNat xn)), .val (.int (Int32.ofNat yn)), .val (.int (Int32.ofNat zn)), .val (.int (((p4.toUInt32 >>> ((10 : Int32) &&& 31).toUInt32).toInt32) &&& (3 : Int32))), .val (.int (Int32.ofNat qn)), .val (.ref b11), .val (.ref ob15), .val (.int (0 : Int32)), .val (.int (0 : Int32))] [(.int (Int32.ofNat qn)), (.ref ob15)])) t → Steps p.tables e below (T15.setTop (mkF m 233 #[.val (.int p0), .val (.int p1), .val (.int p2), .val (.int p3), .val (.int p4), .val (.int (0 : Int32)), .val (.int (Int32.ofNat xn)), .val (.int (Int32.ofNat yn)), .val (.int (Int32.ofNat zn)), .val (.int (((p4.toUInt32 >>> ((10 : Int32) &&& 31).toUInt32).toInt32) &&& (3 : Int32))), .val (.int (Int32.ofNat qn)), .val (.ref b11), .val (.ref ob15), .val (.int (0 : Int32)), .val (.int (0 : Int32))] [])) t := by
      intro t kt
      show Steps p.tables e below (T15.setTop (mkF m 233 #[.val (.int p0), .val (.int p1), .val (.int p2), .val (.int p3), .val (.int p4), .val (.int (0 : Int32)), .val (.int (Int32.ofNat xn)), .val (.int (Int32.ofNat yn)), .val (.int (Int32.ofNat zn)), .val (.int (((p4.toUInt32 >>> ((10 : Int32) &&& 31).toUInt32).toInt32) &&& (3 : Int32))), .val (.int (Int32.ofNat qn)), .val (.ref b11), .val (.ref ob15), .val (.int (0 : Int32)), .val (.int (0 : Int32))] [])) _
      refine XS.aload X15.here hx rfl (hb hby at_233) rfl rfl ?_
      show Steps p.tables e below (T15.setTop (mkF m 235 #[.val (.int p0), .val (.int p1), .val (.int p2), .val (.int p3), .val (.int p4), .val (.int (0 : Int32)), .val (.int (Int32.ofNat xn)), .val (.int (Int32.ofNat yn)), .val (.int (Int32.ofNat zn)), .val (.int (((p4.toUInt32 >>> ((10 : Int32) &&& 31).toUInt32).toInt32) &&& (3 : Int32))), .val (.int (Int32.ofNat qn)), .val (.ref b11), .val (.ref ob15), .val (.int (0 : Int32)), .val (.int (0 : Int32))] [(.ref ob15)])) _
      refine XS.iload X15.here hx rfl (hb hby at_235) rfl ?_
      exact kt
    have f20 := (Nat.le_trans f14 Kq15.1)
    obtain ⟨cq21, kq21, q21a, q21b, q21c⟩ := isOf hZ rfl Eq15
    obtain ⟨_, _, ⟨T22, L22, k22, n22⟩, -, X22, ⟨Lc22, hQ22, l22, y22, z22⟩, st22⟩ := X15.virtualBack hx (y := (⟨"com/example/emex/emex/explain/Positions", "has", "(I)Z"⟩ : MethodName)) (z := (⟨"com/example/emex/emex/explain/Positions", "has", "(I)Z"⟩ : MethodName)) hown (mvT hZ (hw _ (List.mem_of_getElem? (i := 37) rfl))) (mvT hZ (hw _ (List.mem_of_getElem? (i := 38) rfl))) (notFace_of_selects (args := #[]) (mvT hZ (hw _ (List.mem_of_getElem? (i := 40) rfl)))) (mvT hZ (hw _ (List.mem_of_getElem? (i := 40) rfl))) (mvT hZ (hw _ (List.mem_of_getElem? (i := 39) rfl))) (by decide) (backOf (W := 0) (rm7 l Z a0 hw []  ob15 qn ot15 kk15 ln own_f0 T15.heap n0 f20 Fw15 Vq15 hl8 hqn) hZ (hw _ (List.mem_of_getElem? (i := 41) rfl)) (hw _ (List.mem_of_getElem? (i := 3) rfl)) (by decide) (by decide)) q21a q21c (g := (mkF m 237 #[.val (.int p0), .val (.int p1), .val (.int p2), .val (.int p3), .val (.int p4), .val (.int (0 : Int32)), .val (.int (Int32.ofNat xn)), .val (.int (Int32.ofNat yn)), .val (.int (Int32.ofNat zn)), .val (.int (((p4.toUInt32 >>> ((10 : Int32) &&& 31).toUInt32).toInt32) &&& (3 : Int32))), .val (.int (Int32.ofNat qn)), .val (.ref b11), .val (.ref ob15), .val (.int (0 : Int32)), .val (.int (0 : Int32))] [(.int (Int32.ofNat qn)), (.ref ob15)])) rfl (by rw [hml]; rfl) (Steps.refl _) (argsL := [(.int (Int32.ofNat qn))]) (rest := []) (lenOf pd_5 rfl) rfl (by show 2 * 0 + _ ≤ _; exact Nat.le_of_eq rfl) (hb hby at_237) (fun _ _ => ⟨rfl, rfl, (by decide : 3 + 0 ≤ _), (by decide : 2 + 0 ≤ _)⟩)
    dsimp only [Pt.U, Pt.locs, Pt.cells, Pt.slots] at X22 l22 y22 z22 st22 hQ22
    subst l22 y22 z22
    obtain ⟨rfl, N22q, e22⟩ := hQ22
    have N22 := Fr.app N15 N22q
    have c24 : ∀ t, Steps p.tables e below (T22.setTop (mkF m 242 #[.val (.int p0), .val (.int p1), .val (.int p2), .val (.int p3), .val (.int p4), .val (.int (0 : Int32)), .val (.int (Int32.ofNat xn)), .val (.int (Int32.ofNat yn)), .val (.int (Int32.ofNat zn)), .val (.int (((p4.toUInt32 >>> ((10 : Int32) &&& 31).toUInt32).toInt32) &&& (3 : Int32))), .val (.int (Int32.ofNat qn)), .val (.ref b11), .val (.ref ob15), .val (.int (0 : Int32)), .val (.int (0 : Int32))] [(.int (0 : Int32)), (.int (own_hs own_f0 ln qn))])) t → Steps p.tables e below (T22.setTop (mkF m 240 #[.val (.int p0), .val (.int p1), .val (.int p2), .val (.int p3), .val (.int p4), .val (.int (0 : Int32)), .val (.int (Int32.ofNat xn)), .val (.int (Int32.ofNat yn)), .val (.int (Int32.ofNat zn)), .val (.int (((p4.toUInt32 >>> ((10 : Int32) &&& 31).toUInt32).toInt32) &&& (3 : Int32))), .val (.int (Int32.ofNat qn)), .val (.ref b11), .val (.ref ob15), .val (.int (0 : Int32)), .val (.int (0 : Int32))] [(.int (own_hs own_f0 ln qn))])) t := by
      intro t kt
      show Steps p.tables e below (T22.setTop (mkF m 240 #[.val (.int p0), .val (.int p1), .val (.int p2), .val (.int p3), .val (.int p4), .val (.int (0 : Int32)), .val (.int (Int32.ofNat xn)), .val (.int (Int32.ofNat yn)), .val (.int (Int32.ofNat zn)), .val (.int (((p4.toUInt32 >>> ((10 : Int32) &&& 31).toUInt32).toInt32) &&& (3 : Int32))), .val (.int (Int32.ofNat qn)), .val (.ref b11), .val (.ref ob15), .val (.int (0 : Int32)), .val (.int (0 : Int32))] [(.int (own_hs own_f0 ln qn))])) _
      refine XS.iload X22.here hx rfl (hb hby at_240) rfl ?_
      exact kt
    have hd23 : (own_hs own_f0 ln qn) = (0 : Int32) := own_H0 ln qn  hqn  hz
    have c25 : ∀ t, Steps p.tables e below (T22.setTop (mkF m 247 #[.val (.int p0), .val (.int p1), .val (.int p2), .val (.int p3), .val (.int p4), .val (.int (0 : Int32)), .val (.int (Int32.ofNat xn)), .val (.int (Int32.ofNat yn)), .val (.int (Int32.ofNat zn)), .val (.int (((p4.toUInt32 >>> ((10 : Int32) &&& 31).toUInt32).toInt32) &&& (3 : Int32))), .val (.int (Int32.ofNat qn)), .val (.ref b11), .val (.ref ob15), .val (.int (0 : Int32)), .val (.int (0 : Int32))] [(.ref ob15)])) t → Steps p.tables e below (T22.setTop (mkF m 242 #[.val (.int p0), .val (.int p1), .val (.int p2), .val (.int p3), .val (.int p4), .val (.int (0 : Int32)), .val (.int (Int32.ofNat xn)), .val (.int (Int32.ofNat yn)), .val (.int (Int32.ofNat zn)), .val (.int (((p4.toUInt32 >>> ((10 : Int32) &&& 31).toUInt32).toInt32) &&& (3 : Int32))), .val (.int (Int32.ofNat qn)), .val (.ref b11), .val (.ref ob15), .val (.int (0 : Int32)), .val (.int (0 : Int32))] [(.int (0 : Int32)), (.int (own_hs own_f0 ln qn))])) t := by
      intro t kt
      show Steps p.tables e below (T22.setTop (mkF m 242 #[.val (.int p0), .val (.int p1), .val (.int p2), .val (.int p3), .val (.int p4), .val (.int (0 : Int32)), .val (.int (Int32.ofNat xn)), .val (.int (Int32.ofNat yn)), .val (.int (Int32.ofNat zn)), .val (.int (((p4.toUInt32 >>> ((10 : Int32) &&& 31).toUInt32).toInt32) &&& (3 : Int32))), .val (.int (Int32.ofNat qn)), .val (.ref b11), .val (.ref ob15), .val (.int (0 : Int32)), .val (.int (0 : Int32))] [(.int (0 : Int32)), (.int (own_hs own_f0 ln qn))])) _
      refine XS.icmpNo X22.here hx rfl (hb hby at_242) rfl (teq (hd23)).2 ?_
      show Steps p.tables e below (T22.setTop (mkF m 245 #[.val (.int p0), .val (.int p1), .val (.int p2), .val (.int p3), .val (.int p4), .val (.int (0 : Int32)), .val (.int (Int32.ofNat xn)), .val (.int (Int32.ofNat yn)), .val (.int (Int32.ofNat zn)), .val (.int (((p4.toUInt32 >>> ((10 : Int32) &&& 31).toUInt32).toInt32) &&& (3 : Int32))), .val (.int (Int32.ofNat qn)), .val (.ref b11), .val (.ref ob15), .val (.int (0 : Int32)), .val (.int (0 : Int32))] [])) _
      refine XS.aload X22.here hx rfl (hb hby at_245) rfl rfl ?_
      exact kt
    obtain ⟨cq26, kq26, q26a, q26b, q26c⟩ := isOf hZ e22 Eq15
    obtain ⟨_, _, ⟨T27, L27, k27, n27⟩, -, X27, ⟨Lc27, hQ27, l27, y27, z27⟩, st27⟩ := X22.virtualBack hx (y := (⟨"com/example/emex/emex/explain/Positions", "size", "()I"⟩ : MethodName)) (z := (⟨"com/example/emex/emex/explain/Positions", "size", "()I"⟩ : MethodName)) hown (mvT hZ (hw _ (List.mem_of_getElem? (i := 42) rfl))) (mvT hZ (hw _ (List.mem_of_getElem? (i := 43) rfl))) (notFace_of_selects (args := #[]) (mvT hZ (hw _ (List.mem_of_getElem? (i := 45) rfl)))) (mvT hZ (hw _ (List.mem_of_getElem? (i := 45) rfl))) (mvT hZ (hw _ (List.mem_of_getElem? (i := 44) rfl))) (by decide) (backOf (W := 0) (rm8 l Z a0 hw [] ob15 (own_cnt own_f0 ln) T15.heap n0 f20 Fs15) hZ (hw _ (List.mem_of_getElem? (i := 46) rfl)) (hw _ (List.mem_of_getElem? (i := 3) rfl)) (by decide) (by decide)) q26a q26c (g := (mkF m 247 #[.val (.int p0), .val (.int p1), .val (.int p2), .val (.int p3), .val (.int p4), .val (.int (0 : Int32)), .val (.int (Int32.ofNat xn)), .val (.int (Int32.ofNat yn)), .val (.int (Int32.ofNat zn)), .val (.int (((p4.toUInt32 >>> ((10 : Int32) &&& 31).toUInt32).toInt32) &&& (3 : Int32))), .val (.int (Int32.ofNat qn)), .val (.ref b11), .val (.ref ob15), .val (.int (0 : Int32)), .val (.int (0 : Int32))] [(.ref ob15)])) rfl (by rw [hml]; rfl) (Steps.refl _) (argsL := []) (rest := []) (lenOf pd_6 rfl) rfl (by show 2 * 0 + _ ≤ _; exact Nat.le_of_eq rfl) (hb hby at_247) (fun _ _ => ⟨rfl, e22, (by decide : 3 + 0 ≤ _), (by decide : 2 + 0 ≤ _)⟩)
    dsimp only [Pt.U, Pt.locs, Pt.cells, Pt.slots] at X27 l27 y27 z27 st27 hQ27
    subst l27 y27 z27
    obtain ⟨rfl, N27q, e27⟩ := hQ27
    have N27 := Fr.app N22 N27q
    have c29 : ∀ t, Steps p.tables e below (T27.setTop (mkF m 252 #[.val (.int p0), .val (.int p1), .val (.int p2), .val (.int p3), .val (.int p4), .val (.int (0 : Int32)), .val (.int (Int32.ofNat xn)), .val (.int (Int32.ofNat yn)), .val (.int (Int32.ofNat zn)), .val (.int (((p4.toUInt32 >>> ((10 : Int32) &&& 31).toUInt32).toInt32) &&& (3 : Int32))), .val (.int (Int32.ofNat qn)), .val (.ref b11), .val (.ref ob15), .val (.int (0 : Int32)), .val (.int (0 : Int32))] [(.int (0 : Int32)), (.int (own_cnt own_f0 ln))])) t → Steps p.tables e below (T27.setTop (mkF m 250 #[.val (.int p0), .val (.int p1), .val (.int p2), .val (.int p3), .val (.int p4), .val (.int (0 : Int32)), .val (.int (Int32.ofNat xn)), .val (.int (Int32.ofNat yn)), .val (.int (Int32.ofNat zn)), .val (.int (((p4.toUInt32 >>> ((10 : Int32) &&& 31).toUInt32).toInt32) &&& (3 : Int32))), .val (.int (Int32.ofNat qn)), .val (.ref b11), .val (.ref ob15), .val (.int (0 : Int32)), .val (.int (0 : Int32))] [(.int (own_cnt own_f0 ln))])) t := by
      intro t kt
      show Steps p.tables e below (T27.setTop (mkF m 250 #[.val (.int p0), .val (.int p1), .val (.int p2), .val (.int p3), .val (.int p4), .val (.int (0 : Int32)), .val (.int (Int32.ofNat xn)), .val (.int (Int32.ofNat yn)), .val (.int (Int32.ofNat zn)), .val (.int (((p4.toUInt32 >>> ((10 : Int32) &&& 31).toUInt32).toInt32) &&& (3 : Int32))), .val (.int (Int32.ofNat qn)), .val (.ref b11), .val (.ref ob15), .val (.int (0 : Int32)), .val (.int (0 : Int32))] [(.int (own_cnt own_f0 ln))])) _
      refine XS.iload X27.here hx rfl (hb hby at_250) rfl ?_
      exact kt
    have hd28 : (own_cnt own_f0 ln) = (0 : Int32) := own_C0 ln  hl8  
    have c30 : ∀ t, Steps p.tables e below (T27.setTop (mkF m 260 #[.val (.int p0), .val (.int p1), .val (.int p2), .val (.int p3), .val (.int p4), .val (.int (0 : Int32)), .val (.int (Int32.ofNat xn)), .val (.int (Int32.ofNat yn)), .val (.int (Int32.ofNat zn)), .val (.int (((p4.toUInt32 >>> ((10 : Int32) &&& 31).toUInt32).toInt32) &&& (3 : Int32))), .val (.int (Int32.ofNat qn)), .val (.ref b11), .val (.ref ob15), .val (.int (0 : Int32)), .val (.int (0 : Int32))] [(.int (1 : Int32))])) t → Steps p.tables e below (T27.setTop (mkF m 252 #[.val (.int p0), .val (.int p1), .val (.int p2), .val (.int p3), .val (.int p4), .val (.int (0 : Int32)), .val (.int (Int32.ofNat xn)), .val (.int (Int32.ofNat yn)), .val (.int (Int32.ofNat zn)), .val (.int (((p4.toUInt32 >>> ((10 : Int32) &&& 31).toUInt32).toInt32) &&& (3 : Int32))), .val (.int (Int32.ofNat qn)), .val (.ref b11), .val (.ref ob15), .val (.int (0 : Int32)), .val (.int (0 : Int32))] [(.int (0 : Int32)), (.int (own_cnt own_f0 ln))])) t := by
      intro t kt
      show Steps p.tables e below (T27.setTop (mkF m 252 #[.val (.int p0), .val (.int p1), .val (.int p2), .val (.int p3), .val (.int p4), .val (.int (0 : Int32)), .val (.int (Int32.ofNat xn)), .val (.int (Int32.ofNat yn)), .val (.int (Int32.ofNat zn)), .val (.int (((p4.toUInt32 >>> ((10 : Int32) &&& 31).toUInt32).toInt32) &&& (3 : Int32))), .val (.int (Int32.ofNat qn)), .val (.ref b11), .val (.ref ob15), .val (.int (0 : Int32)), .val (.int (0 : Int32))] [(.int (0 : Int32)), (.int (own_cnt own_f0 ln))])) _
      refine XS.icmpNo X27.here hx rfl (hb hby at_252) rfl (teq (hd28)).2 ?_
      show Steps p.tables e below (T27.setTop (mkF m 255 #[.val (.int p0), .val (.int p1), .val (.int p2), .val (.int p3), .val (.int p4), .val (.int (0 : Int32)), .val (.int (Int32.ofNat xn)), .val (.int (Int32.ofNat yn)), .val (.int (Int32.ofNat zn)), .val (.int (((p4.toUInt32 >>> ((10 : Int32) &&& 31).toUInt32).toInt32) &&& (3 : Int32))), .val (.int (Int32.ofNat qn)), .val (.ref b11), .val (.ref ob15), .val (.int (0 : Int32)), .val (.int (0 : Int32))] [])) _
      refine XS.iconst X27.here hx rfl (hb hby at_255) ?_
      show Steps p.tables e below (T27.setTop (mkF m 256 #[.val (.int p0), .val (.int p1), .val (.int p2), .val (.int p3), .val (.int p4), .val (.int (0 : Int32)), .val (.int (Int32.ofNat xn)), .val (.int (Int32.ofNat yn)), .val (.int (Int32.ofNat zn)), .val (.int (((p4.toUInt32 >>> ((10 : Int32) &&& 31).toUInt32).toInt32) &&& (3 : Int32))), .val (.int (Int32.ofNat qn)), .val (.ref b11), .val (.ref ob15), .val (.int (0 : Int32)), .val (.int (0 : Int32))] [(.int (1 : Int32))])) _
      refine XS.goto X27.here hx rfl (pc0 := 256) (pc' := 260) rfl (hb hby at_256) (by decide) (by decide) ?_
      exact kt
    obtain ⟨fs, hr, hrun, hended, hW, hsame⟩ := X27.leave (v := some (.int (1 : Int32))) (fun h => by rw [Bd.returns] at h; cases h)
    refine ⟨_, _, pre0 _ (c1 _ (c2 _ (c3 _ (c4 _ (c5 _ (c6 _ (c7 _ (c8 _ (c9 _ (c10 _ (c12 _ (st11 _ (c13 _ (st15 _ (c16 _ (c17 _ (c18 _ (c19 _ (st22.trans (c24 _ (c25 _ (st27.trans (c29 _ (c30 _ (?_))))))))))))))))))))))))), hrun, hended, _, _, rfl, ?_, ⟨_, rfl⟩, hW, hsame.mono (by decide) (by decide)⟩
    · show Steps p.tables e below (T27.setTop (mkF m 260 #[.val (.int p0), .val (.int p1), .val (.int p2), .val (.int p3), .val (.int p4), .val (.int (0 : Int32)), .val (.int (Int32.ofNat xn)), .val (.int (Int32.ofNat yn)), .val (.int (Int32.ofNat zn)), .val (.int (((p4.toUInt32 >>> ((10 : Int32) &&& 31).toUInt32).toInt32) &&& (3 : Int32))), .val (.int (Int32.ofNat qn)), .val (.ref b11), .val (.ref ob15), .val (.int (0 : Int32)), .val (.int (0 : Int32))] [(.int (1 : Int32))])) _
      exact retN X27 hx (t := .boolean) Bd.returns (by simp) (hb hby at_260) hr
    · show Q0 Z p0 p1 p2 p3 p4 h0 n0 _ T27.heap _
      rw [e27]
      exact ⟨congrArg (fun z => some (Value.int z)) (show (1 : Int32) = (1 : Int32) from by rfl), N27⟩
  · skip
    have c32 : ∀ t, Steps p.tables e below (s₁.setTop (mkF m 81 #[.val (.int p0), .val (.int p1), .val (.int p2), .val (.int p3), .val (.int p4), .val (.int (1 : Int32)), .val (.int (Int32.ofNat xn)), .val (.int (Int32.ofNat yn)), .val (.int (Int32.ofNat zn)), .val (.int (((p4.toUInt32 >>> ((10 : Int32) &&& 31).toUInt32).toInt32) &&& (3 : Int32))), .val (.int (Int32.ofNat qn)), .unset, .unset, .unset, .unset] [])) t → Steps p.tables e below (s₁.setTop (mkF m 81 #[.val (.int p0), .val (.int p1), .val (.int p2), .val (.int p3), .val (.int p4), .val (.int (p3 &&& (3 : Int32))), .val (.int (Int32.ofNat xn)), .val (.int (Int32.ofNat yn)), .val (.int (Int32.ofNat zn)), .val (.int (((p4.toUInt32 >>> ((10 : Int32) &&& 31).toUInt32).toInt32) &&& (3 : Int32))), .val (.int (Int32.ofNat qn)), .unset, .unset, .unset, .unset] [])) t := fun t kt => castTop (congrArg (fun zv => (mkF m 81 #[.val (.int p0), .val (.int p1), .val (.int p2), .val (.int p3), .val (.int p4), .val (.int zv), .val (.int (Int32.ofNat xn)), .val (.int (Int32.ofNat yn)), .val (.int (Int32.ofNat zn)), .val (.int (((p4.toUInt32 >>> ((10 : Int32) &&& 31).toUInt32).toInt32) &&& (3 : Int32))), .val (.int (Int32.ofNat qn)), .unset, .unset, .unset, .unset] [])) (show (p3 &&& (3 : Int32)) = (1 : Int32) from hsz)) kt
    have c34 : ∀ t, Steps p.tables e below (s₁.setTop (mkF m 83 #[.val (.int p0), .val (.int p1), .val (.int p2), .val (.int p3), .val (.int p4), .val (.int (1 : Int32)), .val (.int (Int32.ofNat xn)), .val (.int (Int32.ofNat yn)), .val (.int (Int32.ofNat zn)), .val (.int (((p4.toUInt32 >>> ((10 : Int32) &&& 31).toUInt32).toInt32) &&& (3 : Int32))), .val (.int (Int32.ofNat qn)), .unset, .unset, .unset, .unset] [(.int (1 : Int32))])) t → Steps p.tables e below (s₁.setTop (mkF m 81 #[.val (.int p0), .val (.int p1), .val (.int p2), .val (.int p3), .val (.int p4), .val (.int (1 : Int32)), .val (.int (Int32.ofNat xn)), .val (.int (Int32.ofNat yn)), .val (.int (Int32.ofNat zn)), .val (.int (((p4.toUInt32 >>> ((10 : Int32) &&& 31).toUInt32).toInt32) &&& (3 : Int32))), .val (.int (Int32.ofNat qn)), .unset, .unset, .unset, .unset] [])) t := by
      intro t kt
      show Steps p.tables e below (s₁.setTop (mkF m 81 #[.val (.int p0), .val (.int p1), .val (.int p2), .val (.int p3), .val (.int p4), .val (.int (1 : Int32)), .val (.int (Int32.ofNat xn)), .val (.int (Int32.ofNat yn)), .val (.int (Int32.ofNat zn)), .val (.int (((p4.toUInt32 >>> ((10 : Int32) &&& 31).toUInt32).toInt32) &&& (3 : Int32))), .val (.int (Int32.ofNat qn)), .unset, .unset, .unset, .unset] [])) _
      refine XS.iload X0.here hx rfl (hb hby at_81) rfl ?_
      exact kt
    obtain ⟨T33, h33, k33, X33, e33, E33, A33, st33⟩ := newP X0 hx hZ (hw _ (List.mem_of_getElem? (i := 0) rfl)) e0 (g := (mkF m 83 #[.val (.int p0), .val (.int p1), .val (.int p2), .val (.int p3), .val (.int p4), .val (.int (1 : Int32)), .val (.int (Int32.ofNat xn)), .val (.int (Int32.ofNat yn)), .val (.int (Int32.ofNat zn)), .val (.int (((p4.toUInt32 >>> ((10 : Int32) &&& 31).toUInt32).toInt32) &&& (3 : Int32))), .val (.int (Int32.ofNat qn)), .unset, .unset, .unset, .unset] [(.int (1 : Int32))])) rfl (hb hby at_83) rfl (by decide) (cap := 1) (by decide) (by decide) (by decide) (by decide)
    obtain ⟨b33, g33⟩ : ∃ z, z = h0.size := ⟨_, rfl⟩
    rw [← g33] at A33 st33
    have g_b33 : n0 ≤ b33 := Nat.le_trans Z0 (Nat.le_of_eq g33.symm)
    have sz_b33 : h0.size ≤ b33 := Nat.le_trans (Keep.refl h0 []).1 (Nat.le_of_eq g33.symm)
    have V33 : Arv Z h33 b33 k33 .int (1 : Int32) [(.int (0 : Int32))] (.int (0 : Int32)) := (Arv.new A33 (by decide)).pad (pad_rep [] (.int (0 : Int32)) 1)
    have c35 : ∀ t, Steps p.tables e below (T33.setTop (mkF m 97 #[.val (.int p0), .val (.int p1), .val (.int p2), .val (.int p3), .val (.int p4), .val (.int (1 : Int32)), .val (.int (Int32.ofNat xn)), .val (.int (Int32.ofNat yn)), .val (.int (Int32.ofNat zn)), .val (.int (((p4.toUInt32 >>> ((10 : Int32) &&& 31).toUInt32).toInt32) &&& (3 : Int32))), .val (.int (Int32.ofNat qn)), .val (.ref b33), .unset, .unset, .unset] [(.int (Int32.ofNat xn)), (.int (0 : Int32)), (.ref b33)])) t → Steps p.tables e below (T33.setTop (mkF m 85 #[.val (.int p0), .val (.int p1), .val (.int p2), .val (.int p3), .val (.int p4), .val (.int (1 : Int32)), .val (.int (Int32.ofNat xn)), .val (.int (Int32.ofNat yn)), .val (.int (Int32.ofNat zn)), .val (.int (((p4.toUInt32 >>> ((10 : Int32) &&& 31).toUInt32).toInt32) &&& (3 : Int32))), .val (.int (Int32.ofNat qn)), .unset, .unset, .unset, .unset] [(.ref b33)])) t := by
      intro t kt
      show Steps p.tables e below (T33.setTop (mkF m 85 #[.val (.int p0), .val (.int p1), .val (.int p2), .val (.int p3), .val (.int p4), .val (.int (1 : Int32)), .val (.int (Int32.ofNat xn)), .val (.int (Int32.ofNat yn)), .val (.int (Int32.ofNat zn)), .val (.int (((p4.toUInt32 >>> ((10 : Int32) &&& 31).toUInt32).toInt32) &&& (3 : Int32))), .val (.int (Int32.ofNat qn)), .unset, .unset, .unset, .unset] [(.ref b33)])) _
      refine XS.astore X33.here hx rfl (hb hby at_85) rfl rfl (l' := #[.val (.int p0), .val (.int p1), .val (.int p2), .val (.int p3), .val (.int p4), .val (.int (1 : Int32)), .val (.int (Int32.ofNat xn)), .val (.int (Int32.ofNat yn)), .val (.int (Int32.ofNat zn)), .val (.int (((p4.toUInt32 >>> ((10 : Int32) &&& 31).toUInt32).toInt32) &&& (3 : Int32))), .val (.int (Int32.ofNat qn)), .val (.ref b33), .unset, .unset, .unset]) rfl ?_
      show Steps p.tables e below (T33.setTop (mkF m 87 #[.val (.int p0), .val (.int p1), .val (.int p2), .val (.int p3), .val (.int p4), .val (.int (1 : Int32)), .val (.int (Int32.ofNat xn)), .val (.int (Int32.ofNat yn)), .val (.int (Int32.ofNat zn)), .val (.int (((p4.toUInt32 >>> ((10 : Int32) &&& 31).toUInt32).toInt32) &&& (3 : Int32))), .val (.int (Int32.ofNat qn)), .val (.ref b33), .unset, .unset, .unset] [])) _
      refine XS.iload X33.here hx rfl (hb hby at_87) rfl ?_
      show Steps p.tables e below (T33.setTop (mkF m 89 #[.val (.int p0), .val (.int p1), .val (.int p2), .val (.int p3), .val (.int p4), .val (.int (1 : Int32)), .val (.int (Int32.ofNat xn)), .val (.int (Int32.ofNat yn)), .val (.int (Int32.ofNat zn)), .val (.int (((p4.toUInt32 >>> ((10 : Int32) &&& 31).toUInt32).toInt32) &&& (3 : Int32))), .val (.int (Int32.ofNat qn)), .val (.ref b33), .unset, .unset, .unset] [(.int (1 : Int32))])) _
      refine XS.ifNo X33.here hx rfl (hb hby at_89) rfl ((if0 _ _).trans (tlt (by decide : (0 : Int32) < (1 : Int32))).2.2.2) ?_
      show Steps p.tables e below (T33.setTop (mkF m 92 #[.val (.int p0), .val (.int p1), .val (.int p2), .val (.int p3), .val (.int p4), .val (.int (1 : Int32)), .val (.int (Int32.ofNat xn)), .val (.int (Int32.ofNat yn)), .val (.int (Int32.ofNat zn)), .val (.int (((p4.toUInt32 >>> ((10 : Int32) &&& 31).toUInt32).toInt32) &&& (3 : Int32))), .val (.int (Int32.ofNat qn)), .val (.ref b33), .unset, .unset, .unset] [])) _
      refine XS.aload X33.here hx rfl (hb hby at_92) rfl rfl ?_
      show Steps p.tables e below (T33.setTop (mkF m 94 #[.val (.int p0), .val (.int p1), .val (.int p2), .val (.int p3), .val (.int p4), .val (.int (1 : Int32)), .val (.int (Int32.ofNat xn)), .val (.int (Int32.ofNat yn)), .val (.int (Int32.ofNat zn)), .val (.int (((p4.toUInt32 >>> ((10 : Int32) &&& 31).toUInt32).toInt32) &&& (3 : Int32))), .val (.int (Int32.ofNat qn)), .val (.ref b33), .unset, .unset, .unset] [(.ref b33)])) _
      refine XS.iconst X33.here hx rfl (hb hby at_94) ?_
      show Steps p.tables e below (T33.setTop (mkF m 95 #[.val (.int p0), .val (.int p1), .val (.int p2), .val (.int p3), .val (.int p4), .val (.int (1 : Int32)), .val (.int (Int32.ofNat xn)), .val (.int (Int32.ofNat yn)), .val (.int (Int32.ofNat zn)), .val (.int (((p4.toUInt32 >>> ((10 : Int32) &&& 31).toUInt32).toInt32) &&& (3 : Int32))), .val (.int (Int32.ofNat qn)), .val (.ref b33), .unset, .unset, .unset] [(.int (0 : Int32)), (.ref b33)])) _
      refine XS.iload X33.here hx rfl (hb hby at_95) rfl ?_
      exact kt
    have Vc36 := V33
    obtain ⟨cl36, Ar36, qk36, S36, M36, H36, G36⟩ := Vc36
    have hin36 : ¬ ((0 : Int32) < 0 ∨ cl36.slots.size ≤ ((0 : Int32)).toNatClampNeg) := inb_of S36 ⟨by decide, by decide⟩
    obtain ⟨T37, h37, X37, e37, W37, st37⟩ := stI X33 hx hZ e33 Ar36 (j := (0 : Int32)) hin36 (g := (mkF m 97 #[.val (.int p0), .val (.int p1), .val (.int p2), .val (.int p3), .val (.int p4), .val (.int (1 : Int32)), .val (.int (Int32.ofNat xn)), .val (.int (Int32.ofNat yn)), .val (.int (Int32.ofNat zn)), .val (.int (((p4.toUInt32 >>> ((10 : Int32) &&& 31).toUInt32).toInt32) &&& (3 : Int32))), .val (.int (Int32.ofNat qn)), .val (.ref b33), .unset, .unset, .unset] [(.int (Int32.ofNat xn)), (.int (0 : Int32)), (.ref b33)])) rfl rfl (hb hby at_97)
    have V37 : Arv Z h37 b33 k33 .int (1 : Int32) [(.int (Int32.ofNat xn))] (.int (0 : Int32)) := Arv.set Ar36 qk36 S36 M36 H36 G36 rfl W37 0 rfl (Nat.le_of_ble_eq_true rfl)
    have N37 := Fr.snoc X37 N0 g_b33
    have c38 : ∀ t, Steps p.tables e below (T37.setTop (mkF m 124 #[.val (.int p0), .val (.int p1), .val (.int p2), .val (.int p3), .val (.int p4), .val (.int (1 : Int32)), .val (.int (Int32.ofNat xn)), .val (.int (Int32.ofNat yn)), .val (.int (Int32.ofNat zn)), .val (.int (((p4.toUInt32 >>> ((10 : Int32) &&& 31).toUInt32).toInt32) &&& (3 : Int32))), .val (.int (Int32.ofNat qn)), .val (.ref b33), .unset, .unset, .unset] [(.ref b33)])) t → Steps p.tables e below (T37.setTop (mkF m 98 #[.val (.int p0), .val (.int p1), .val (.int p2), .val (.int p3), .val (.int p4), .val (.int (1 : Int32)), .val (.int (Int32.ofNat xn)), .val (.int (Int32.ofNat yn)), .val (.int (Int32.ofNat zn)), .val (.int (((p4.toUInt32 >>> ((10 : Int32) &&& 31).toUInt32).toInt32) &&& (3 : Int32))), .val (.int (Int32.ofNat qn)), .val (.ref b33), .unset, .unset, .unset] [])) t := by
      intro t kt
      show Steps p.tables e below (T37.setTop (mkF m 98 #[.val (.int p0), .val (.int p1), .val (.int p2), .val (.int p3), .val (.int p4), .val (.int (1 : Int32)), .val (.int (Int32.ofNat xn)), .val (.int (Int32.ofNat yn)), .val (.int (Int32.ofNat zn)), .val (.int (((p4.toUInt32 >>> ((10 : Int32) &&& 31).toUInt32).toInt32) &&& (3 : Int32))), .val (.int (Int32.ofNat qn)), .val (.ref b33), .unset, .unset, .unset] [])) _
      refine XS.iload X37.here hx rfl (hb hby at_98) rfl ?_
      show Steps p.tables e below (T37.setTop (mkF m 100 #[.val (.int p0), .val (.int p1), .val (.int p2), .val (.int p3), .val (.int p4), .val (.int (1 : Int32)), .val (.int (Int32.ofNat xn)), .val (.int (Int32.ofNat yn)), .val (.int (Int32.ofNat zn)), .val (.int (((p4.toUInt32 >>> ((10 : Int32) &&& 31).toUInt32).toInt32) &&& (3 : Int32))), .val (.int (Int32.ofNat qn)), .val (.ref b33), .unset, .unset, .unset] [(.int (1 : Int32))])) _
      refine XS.iconst X37.here hx rfl (hb hby at_100) ?_
      show Steps p.tables e below (T37.setTop (mkF m 101 #[.val (.int p0), .val (.int p1), .val (.int p2), .val (.int p3), .val (.int p4), .val (.int (1 : Int32)), .val (.int (Int32.ofNat xn)), .val (.int (Int32.ofNat yn)), .val (.int (Int32.ofNat zn)), .val (.int (((p4.toUInt32 >>> ((10 : Int32) &&& 31).toUInt32).toInt32) &&& (3 : Int32))), .val (.int (Int32.ofNat qn)), .val (.ref b33), .unset, .unset, .unset] [(.int (1 : Int32)), (.int (1 : Int32))])) _
      refine XS.icmpYes X37.here hx rfl (pc0 := 101) (pc' := 110) rfl (hb hby at_101) rfl (flt (by decide : ¬ ((1 : Int32) < (1 : Int32)))).2.2.2 (by decide) (by decide) ?_
      show Steps p.tables e below (T37.setTop (mkF m 110 #[.val (.int p0), .val (.int p1), .val (.int p2), .val (.int p3), .val (.int p4), .val (.int (1 : Int32)), .val (.int (Int32.ofNat xn)), .val (.int (Int32.ofNat yn)), .val (.int (Int32.ofNat zn)), .val (.int (((p4.toUInt32 >>> ((10 : Int32) &&& 31).toUInt32).toInt32) &&& (3 : Int32))), .val (.int (Int32.ofNat qn)), .val (.ref b33), .unset, .unset, .unset] [])) _
      refine XS.iload X37.here hx rfl (hb hby at_110) rfl ?_
      show Steps p.tables e below (T37.setTop (mkF m 112 #[.val (.int p0), .val (.int p1), .val (.int p2), .val (.int p3), .val (.int p4), .val (.int (1 : Int32)), .val (.int (Int32.ofNat xn)), .val (.int (Int32.ofNat yn)), .val (.int (Int32.ofNat zn)), .val (.int (((p4.toUInt32 >>> ((10 : Int32) &&& 31).toUInt32).toInt32) &&& (3 : Int32))), .val (.int (Int32.ofNat qn)), .val (.ref b33), .unset, .unset, .unset] [(.int (1 : Int32))])) _
      refine XS.iconst X37.here hx rfl (hb hby at_112) ?_
      show Steps p.tables e below (T37.setTop (mkF m 113 #[.val (.int p0), .val (.int p1), .val (.int p2), .val (.int p3), .val (.int p4), .val (.int (1 : Int32)), .val (.int (Int32.ofNat xn)), .val (.int (Int32.ofNat yn)), .val (.int (Int32.ofNat zn)), .val (.int (((p4.toUInt32 >>> ((10 : Int32) &&& 31).toUInt32).toInt32) &&& (3 : Int32))), .val (.int (Int32.ofNat qn)), .val (.ref b33), .unset, .unset, .unset] [(.int (2 : Int32)), (.int (1 : Int32))])) _
      refine XS.icmpYes X37.here hx rfl (pc0 := 113) (pc' := 122) rfl (hb hby at_113) rfl (flt (by decide : ¬ ((2 : Int32) < (1 : Int32)))).2.2.2 (by decide) (by decide) ?_
      show Steps p.tables e below (T37.setTop (mkF m 122 #[.val (.int p0), .val (.int p1), .val (.int p2), .val (.int p3), .val (.int p4), .val (.int (1 : Int32)), .val (.int (Int32.ofNat xn)), .val (.int (Int32.ofNat yn)), .val (.int (Int32.ofNat zn)), .val (.int (((p4.toUInt32 >>> ((10 : Int32) &&& 31).toUInt32).toInt32) &&& (3 : Int32))), .val (.int (Int32.ofNat qn)), .val (.ref b33), .unset, .unset, .unset] [])) _
      refine XS.aload X37.here hx rfl (hb hby at_122) rfl rfl ?_
      exact kt
    have f39 := (Nat.le_trans (Nat.le_trans Z0 E33.1) (Keep.of_wr W37).1)
    obtain ⟨_, _, ⟨T40, L40, k40, n40⟩, -, X40, ⟨Lc40, hQ40, l40, y40, z40⟩, st40⟩ := Jvm.LawKit.callS X37 hx (y := (⟨"com/example/emex/emex/explain/Positions", "of", "([I)Lcom/example/emex/emex/explain/Positions;"⟩ : MethodName)) hown (mvT hZ (hw _ (List.mem_of_getElem? (i := 1) rfl))) (mvT hZ (hw _ (List.mem_of_getElem? (i := 2) rfl))) (mvT hZ (hw _ (List.mem_of_getElem? (i := 3) rfl))) (mvT hZ (hw _ (List.mem_of_getElem? (i := 4) rfl))) (by decide) (backOf (W := 0) (rm1_1 l Z a0 hw [] b33 k33 (.int (0 : Int32)) xn h37 n0 f39 V37 hxn) hZ (hw _ (List.mem_of_getElem? (i := 4) rfl)) (hw _ (List.mem_of_getElem? (i := 3) rfl)) (by decide) (by decide)) (g := (mkF m 124 #[.val (.int p0), .val (.int p1), .val (.int p2), .val (.int p3), .val (.int p4), .val (.int (1 : Int32)), .val (.int (Int32.ofNat xn)), .val (.int (Int32.ofNat yn)), .val (.int (Int32.ofNat zn)), .val (.int (((p4.toUInt32 >>> ((10 : Int32) &&& 31).toUInt32).toInt32) &&& (3 : Int32))), .val (.int (Int32.ofNat qn)), .val (.ref b33), .unset, .unset, .unset] [(.ref b33)])) rfl (by rw [hml]; rfl) (argsL := [(.ref b33)]) (rest := []) (lenOf pd_4 rfl) rfl (by show 2 * 0 + _ ≤ _; exact Nat.le_of_eq rfl) (hb hby at_124) (fun _ _ => ⟨rfl, e37, (by decide : 1 + 3 ≤ _), (by decide : 1 + 10 ≤ _)⟩)
    dsimp only [Pt.U, Pt.locs, Pt.cells, Pt.slots] at X40 l40 y40 z40 st40 hQ40
    subst l40 y40 z40
    obtain ⟨ob40, ot40, kk40, ln, hl8, hz, hp0, rfl, N40q, Kq40, g_ob40, Eq40, Fw40, Fs40, Vq40⟩ := hQ40
    have N40 := Fr.app N37 N40q
    have c41 : ∀ t, Steps p.tables e below (T40.setTop (mkF m 129 #[.val (.int p0), .val (.int p1), .val (.int p2), .val (.int p3), .val (.int p4), .val (.int (1 : Int32)), .val (.int (Int32.ofNat xn)), .val (.int (Int32.ofNat yn)), .val (.int (Int32.ofNat zn)), .val (.int (((p4.toUInt32 >>> ((10 : Int32) &&& 31).toUInt32).toInt32) &&& (3 : Int32))), .val (.int (Int32.ofNat qn)), .val (.ref b33), .val (.ref ob40), .unset, .unset] [])) t → Steps p.tables e below (T40.setTop (mkF m 127 #[.val (.int p0), .val (.int p1), .val (.int p2), .val (.int p3), .val (.int p4), .val (.int (1 : Int32)), .val (.int (Int32.ofNat xn)), .val (.int (Int32.ofNat yn)), .val (.int (Int32.ofNat zn)), .val (.int (((p4.toUInt32 >>> ((10 : Int32) &&& 31).toUInt32).toInt32) &&& (3 : Int32))), .val (.int (Int32.ofNat qn)), .val (.ref b33), .unset, .unset, .unset] [(.ref ob40)])) t := by
      intro t kt
      show Steps p.tables e below (T40.setTop (mkF m 127 #[.val (.int p0), .val (.int p1), .val (.int p2), .val (.int p3), .val (.int p4), .val (.int (1 : Int32)), .val (.int (Int32.ofNat xn)), .val (.int (Int32.ofNat yn)), .val (.int (Int32.ofNat zn)), .val (.int (((p4.toUInt32 >>> ((10 : Int32) &&& 31).toUInt32).toInt32) &&& (3 : Int32))), .val (.int (Int32.ofNat qn)), .val (.ref b33), .unset, .unset, .unset] [(.ref ob40)])) _
      refine XS.astore X40.here hx rfl (hb hby at_127) rfl rfl (l' := #[.val (.int p0), .val (.int p1), .val (.int p2), .val (.int p3), .val (.int p4), .val (.int (1 : Int32)), .val (.int (Int32.ofNat xn)), .val (.int (Int32.ofNat yn)), .val (.int (Int32.ofNat zn)), .val (.int (((p4.toUInt32 >>> ((10 : Int32) &&& 31).toUInt32).toInt32) &&& (3 : Int32))), .val (.int (Int32.ofNat qn)), .val (.ref b33), .val (.ref ob40), .unset, .unset]) rfl ?_
      exact kt
    have c42 : ∀ t, Steps p.tables e below (T40.setTop (mkF m 174 #[.val (.int p0), .val (.int p1), .val (.int p2), .val (.int p3), .val (.int p4), .val (.int (1 : Int32)), .val (.int (Int32.ofNat xn)), .val (.int (Int32.ofNat yn)), .val (.int (Int32.ofNat zn)), .val (.int (((p4.toUInt32 >>> ((10 : Int32) &&& 31).toUInt32).toInt32) &&& (3 : Int32))), .val (.int (Int32.ofNat qn)), .val (.ref b33), .val (.ref ob40), .val (.int (own_eh1 (Int32.ofNat qn) (Int32.ofNat xn))), .unset] [])) t → Steps p.tables e below (T40.setTop (mkF m 129 #[.val (.int p0), .val (.int p1), .val (.int p2), .val (.int p3), .val (.int p4), .val (.int (1 : Int32)), .val (.int (Int32.ofNat xn)), .val (.int (Int32.ofNat yn)), .val (.int (Int32.ofNat zn)), .val (.int (((p4.toUInt32 >>> ((10 : Int32) &&& 31).toUInt32).toInt32) &&& (3 : Int32))), .val (.int (Int32.ofNat qn)), .val (.ref b33), .val (.ref ob40), .unset, .unset] [])) t := by
      intro t kt
      show Steps p.tables e below (T40.setTop (mkF m 129 #[.val (.int p0), .val (.int p1), .val (.int p2), .val (.int p3), .val (.int p4), .val (.int (1 : Int32)), .val (.int (Int32.ofNat xn)), .val (.int (Int32.ofNat yn)), .val (.int (Int32.ofNat zn)), .val (.int (((p4.toUInt32 >>> ((10 : Int32) &&& 31).toUInt32).toInt32) &&& (3 : Int32))), .val (.int (Int32.ofNat qn)), .val (.ref b33), .val (.ref ob40), .unset, .unset] [])) _
      refine XS.iload X40.here hx rfl (hb hby at_129) rfl ?_
      show Steps p.tables e below (T40.setTop (mkF m 131 #[.val (.int p0), .val (.int p1), .val (.int p2), .val (.int p3), .val (.int p4), .val (.int (1 : Int32)), .val (.int (Int32.ofNat xn)), .val (.int (Int32.ofNat yn)), .val (.int (Int32.ofNat zn)), .val (.int (((p4.toUInt32 >>> ((10 : Int32) &&& 31).toUInt32).toInt32) &&& (3 : Int32))), .val (.int (Int32.ofNat qn)), .val (.ref b33), .val (.ref ob40), .unset, .unset] [(.int (1 : Int32))])) _
      refine XS.ifNo X40.here hx rfl (hb hby at_131) rfl ((if0 _ _).trans (tlt (by decide : (0 : Int32) < (1 : Int32))).2.2.2) ?_
      show Steps p.tables e below (T40.setTop (mkF m 134 #[.val (.int p0), .val (.int p1), .val (.int p2), .val (.int p3), .val (.int p4), .val (.int (1 : Int32)), .val (.int (Int32.ofNat xn)), .val (.int (Int32.ofNat yn)), .val (.int (Int32.ofNat zn)), .val (.int (((p4.toUInt32 >>> ((10 : Int32) &&& 31).toUInt32).toInt32) &&& (3 : Int32))), .val (.int (Int32.ofNat qn)), .val (.ref b33), .val (.ref ob40), .unset, .unset] [])) _
      refine XS.iload X40.here hx rfl (hb hby at_134) rfl ?_
      show Steps p.tables e below (T40.setTop (mkF m 136 #[.val (.int p0), .val (.int p1), .val (.int p2), .val (.int p3), .val (.int p4), .val (.int (1 : Int32)), .val (.int (Int32.ofNat xn)), .val (.int (Int32.ofNat yn)), .val (.int (Int32.ofNat zn)), .val (.int (((p4.toUInt32 >>> ((10 : Int32) &&& 31).toUInt32).toInt32) &&& (3 : Int32))), .val (.int (Int32.ofNat qn)), .val (.ref b33), .val (.ref ob40), .unset, .unset] [(.int (Int32.ofNat qn))])) _
      refine XS.iload X40.here hx rfl (hb hby at_136) rfl ?_
      by_cases hc138 : (Int32.ofNat qn) = (Int32.ofNat xn)
      · -- it is
        show Steps p.tables e below (T40.setTop (mkF m 138 #[.val (.int p0), .val (.int p1), .val (.int p2), .val (.int p3), .val (.int p4), .val (.int (1 : Int32)), .val (.int (Int32.ofNat xn)), .val (.int (Int32.ofNat yn)), .val (.int (Int32.ofNat zn)), .val (.int (((p4.toUInt32 >>> ((10 : Int32) &&& 31).toUInt32).toInt32) &&& (3 : Int32))), .val (.int (Int32.ofNat qn)), .val (.ref b33), .val (.ref ob40), .unset, .unset] [(.int (Int32.ofNat xn)), (.int (Int32.ofNat qn))])) _
        refine XS.icmpYes X40.here hx rfl (pc0 := 138) (pc' := 167) rfl (hb hby at_138) rfl (teq hc138).1 (by decide) (by decide) ?_
        show Steps p.tables e below (T40.setTop (mkF m 167 #[.val (.int p0), .val (.int p1), .val (.int p2), .val (.int p3), .val (.int p4), .val (.int (1 : Int32)), .val (.int (Int32.ofNat xn)), .val (.int (Int32.ofNat yn)), .val (.int (Int32.ofNat zn)), .val (.int (((p4.toUInt32 >>> ((10 : Int32) &&& 31).toUInt32).toInt32) &&& (3 : Int32))), .val (.int (Int32.ofNat qn)), .val (.ref b33), .val (.ref ob40), .unset, .unset] [])) _
        refine XS.iconst X40.here hx rfl (hb hby at_167) ?_
        show Steps p.tables e below (T40.setTop (mkF m 168 #[.val (.int p0), .val (.int p1), .val (.int p2), .val (.int p3), .val (.int p4), .val (.int (1 : Int32)), .val (.int (Int32.ofNat xn)), .val (.int (Int32.ofNat yn)), .val (.int (Int32.ofNat zn)), .val (.int (((p4.toUInt32 >>> ((10 : Int32) &&& 31).toUInt32).toInt32) &&& (3 : Int32))), .val (.int (Int32.ofNat qn)), .val (.ref b33), .val (.ref ob40), .unset, .unset] [(.int (1 : Int32))])) _
        refine XS.goto X40.here hx rfl (pc0 := 168) (pc' := 172) rfl (hb hby at_168) (by decide) (by decide) ?_
        show Steps p.tables e below (T40.setTop (mkF m 172 #[.val (.int p0), .val (.int p1), .val (.int p2), .val (.int p3), .val (.int p4), .val (.int (1 : Int32)), .val (.int (Int32.ofNat xn)), .val (.int (Int32.ofNat yn)), .val (.int (Int32.ofNat zn)), .val (.int (((p4.toUInt32 >>> ((10 : Int32) &&& 31).toUInt32).toInt32) &&& (3 : Int32))), .val (.int (Int32.ofNat qn)), .val (.ref b33), .val (.ref ob40), .unset, .unset] [(.int (1 : Int32))])) _
        refine XS.istore X40.here hx rfl (hb hby at_172) rfl (l' := #[.val (.int p0), .val (.int p1), .val (.int p2), .val (.int p3), .val (.int p4), .val (.int (1 : Int32)), .val (.int (Int32.ofNat xn)), .val (.int (Int32.ofNat yn)), .val (.int (Int32.ofNat zn)), .val (.int (((p4.toUInt32 >>> ((10 : Int32) &&& 31).toUInt32).toInt32) &&& (3 : Int32))), .val (.int (Int32.ofNat qn)), .val (.ref b33), .val (.ref ob40), .val (.int (1 : Int32)), .unset]) rfl ?_
        rw [show (own_eh1 (Int32.ofNat qn) (Int32.ofNat xn)) = (1 : Int32) from by unfold own_eh1; rw [if_pos hc138]] at kt
        exact kt
      · -- it isn't
        show Steps p.tables e below (T40.setTop (mkF m 138 #[.val (.int p0), .val (.int p1), .val (.int p2), .val (.int p3), .val (.int p4), .val (.int (1 : Int32)), .val (.int (Int32.ofNat xn)), .val (.int (Int32.ofNat yn)), .val (.int (Int32.ofNat zn)), .val (.int (((p4.toUInt32 >>> ((10 : Int32) &&& 31).toUInt32).toInt32) &&& (3 : Int32))), .val (.int (Int32.ofNat qn)), .val (.ref b33), .val (.ref ob40), .unset, .unset] [(.int (Int32.ofNat xn)), (.int (Int32.ofNat qn))])) _
        refine XS.icmpNo X40.here hx rfl (hb hby at_138) rfl (feq hc138).1 ?_
        show Steps p.tables e below (T40.setTop (mkF m 141 #[.val (.int p0), .val (.int p1), .val (.int p2), .val (.int p3), .val (.int p4), .val (.int (1 : Int32)), .val (.int (Int32.ofNat xn)), .val (.int (Int32.ofNat yn)), .val (.int (Int32.ofNat zn)), .val (.int (((p4.toUInt32 >>> ((10 : Int32) &&& 31).toUInt32).toInt32) &&& (3 : Int32))), .val (.int (Int32.ofNat qn)), .val (.ref b33), .val (.ref ob40), .unset, .unset] [])) _
        refine XS.iload X40.here hx rfl (hb hby at_141) rfl ?_
        show Steps p.tables e below (T40.setTop (mkF m 143 #[.val (.int p0), .val (.int p1), .val (.int p2), .val (.int p3), .val (.int p4), .val (.int (1 : Int32)), .val (.int (Int32.ofNat xn)), .val (.int (Int32.ofNat yn)), .val (.int (Int32.ofNat zn)), .val (.int (((p4.toUInt32 >>> ((10 : Int32) &&& 31).toUInt32).toInt32) &&& (3 : Int32))), .val (.int (Int32.ofNat qn)), .val (.ref b33), .val (.ref ob40), .unset, .unset] [(.int (1 : Int32))])) _
        refine XS.iconst X40.here hx rfl (hb hby at_143) ?_
        show Steps p.tables e below (T40.setTop (mkF m 144 #[.val (.int p0), .val (.int p1), .val (.int p2), .val (.int p3), .val (.int p4), .val (.int (1 : Int32)), .val (.int (Int32.ofNat xn)), .val (.int (Int32.ofNat yn)), .val (.int (Int32.ofNat zn)), .val (.int (((p4.toUInt32 >>> ((10 : Int32) &&& 31).toUInt32).toInt32) &&& (3 : Int32))), .val (.int (Int32.ofNat qn)), .val (.ref b33), .val (.ref ob40), .unset, .unset] [(.int (1 : Int32)), (.int (1 : Int32))])) _
        refine XS.icmpYes X40.here hx rfl (pc0 := 144) (pc' := 154) rfl (hb hby at_144) rfl (flt (by decide : ¬ ((1 : Int32) < (1 : Int32)))).2.2.2 (by decide) (by decide) ?_
        show Steps p.tables e below (T40.setTop (mkF m 154 #[.val (.int p0), .val (.int p1), .val (.int p2), .val (.int p3), .val (.int p4), .val (.int (1 : Int32)), .val (.int (Int32.ofNat xn)), .val (.int (Int32.ofNat yn)), .val (.int (Int32.ofNat zn)), .val (.int (((p4.toUInt32 >>> ((10 : Int32) &&& 31).toUInt32).toInt32) &&& (3 : Int32))), .val (.int (Int32.ofNat qn)), .val (.ref b33), .val (.ref ob40), .unset, .unset] [])) _
        refine XS.iload X40.here hx rfl (hb hby at_154) rfl ?_
        show Steps p.tables e below (T40.setTop (mkF m 156 #[.val (.int p0), .val (.int p1), .val (.int p2), .val (.int p3), .val (.int p4), .val (.int (1 : Int32)), .val (.int (Int32.ofNat xn)), .val (.int (Int32.ofNat yn)), .val (.int (Int32.ofNat zn)), .val (.int (((p4.toUInt32 >>> ((10 : Int32) &&& 31).toUInt32).toInt32) &&& (3 : Int32))), .val (.int (Int32.ofNat qn)), .val (.ref b33), .val (.ref ob40), .unset, .unset] [(.int (1 : Int32))])) _
        refine XS.iconst X40.here hx rfl (hb hby at_156) ?_
        show Steps p.tables e below (T40.setTop (mkF m 157 #[.val (.int p0), .val (.int p1), .val (.int p2), .val (.int p3), .val (.int p4), .val (.int (1 : Int32)), .val (.int (Int32.ofNat xn)), .val (.int (Int32.ofNat yn)), .val (.int (Int32.ofNat zn)), .val (.int (((p4.toUInt32 >>> ((10 : Int32) &&& 31).toUInt32).toInt32) &&& (3 : Int32))), .val (.int (Int32.ofNat qn)), .val (.ref b33), .val (.ref ob40), .unset, .unset] [(.int (2 : Int32)), (.int (1 : Int32))])) _
        refine XS.icmpYes X40.here hx rfl (pc0 := 157) (pc' := 171) rfl (hb hby at_157) rfl (flt (by decide : ¬ ((2 : Int32) < (1 : Int32)))).2.2.2 (by decide) (by decide) ?_
        show Steps p.tables e below (T40.setTop (mkF m 171 #[.val (.int p0), .val (.int p1), .val (.int p2), .val (.int p3), .val (.int p4), .val (.int (1 : Int32)), .val (.int (Int32.ofNat xn)), .val (.int (Int32.ofNat yn)), .val (.int (Int32.ofNat zn)), .val (.int (((p4.toUInt32 >>> ((10 : Int32) &&& 31).toUInt32).toInt32) &&& (3 : Int32))), .val (.int (Int32.ofNat qn)), .val (.ref b33), .val (.ref ob40), .unset, .unset] [])) _
        refine XS.iconst X40.here hx rfl (hb hby at_171) ?_
        show Steps p.tables e below (T40.setTop (mkF m 172 #[.val (.int p0), .val (.int p1), .val (.int p2), .val (.int p3), .val (.int p4), .val (.int (1 : Int32)), .val (.int (Int32.ofNat xn)), .val (.int (Int32.ofNat yn)), .val (.int (Int32.ofNat zn)), .val (.int (((p4.toUInt32 >>> ((10 : Int32) &&& 31).toUInt32).toInt32) &&& (3 : Int32))), .val (.int (Int32.ofNat qn)), .val (.ref b33), .val (.ref ob40), .unset, .unset] [(.int (0 : Int32))])) _
        refine XS.istore X40.here hx rfl (hb hby at_172) rfl (l' := #[.val (.int p0), .val (.int p1), .val (.int p2), .val (.int p3), .val (.int p4), .val (.int (1 : Int32)), .val (.int (Int32.ofNat xn)), .val (.int (Int32.ofNat yn)), .val (.int (Int32.ofNat zn)), .val (.int (((p4.toUInt32 >>> ((10 : Int32) &&& 31).toUInt32).toInt32) &&& (3 : Int32))), .val (.int (Int32.ofNat qn)), .val (.ref b33), .val (.ref ob40), .val (.int (0 : Int32)), .unset]) rfl ?_
        rw [show (own_eh1 (Int32.ofNat qn) (Int32.ofNat xn)) = (0 : Int32) from by unfold own_eh1; rw [if_neg hc138]] at kt
        exact kt
    have c43 : ∀ t, Steps p.tables e below (T40.setTop (mkF m 233 #[.val (.int p0), .val (.int p1), .val (.int p2), .val (.int p3), .val (.int p4), .val (.int (1 : Int32)), .val (.int (Int32.ofNat xn)), .val (.int (Int32.ofNat yn)), .val (.int (Int32.ofNat zn)), .val (.int (((p4.toUInt32 >>> ((10 : Int32) &&& 31).toUInt32).toInt32) &&& (3 : Int32))), .val (.int (Int32.ofNat qn)), .val (.ref b33), .val (.ref ob40), .val (.int (own_eh1 (Int32.ofNat qn) (Int32.ofNat xn))), .val (.int (1 : Int32))] [])) t → Steps p.tables e below (T40.setTop (mkF m 174 #[.val (.int p0), .val (.int p1), .val (.int p2), .val (.int p3), .val (.int p4), .val (.int (1 : Int32)), .val (.int (Int32.ofNat xn)), .val (.int (Int32.ofNat yn)), .val (.int (Int32.ofNat zn)), .val (.int (((p4.toUInt32 >>> ((10 : Int32) &&& 31).toUInt32).toInt32) &&& (3 : Int32))), .val (.int (Int32.ofNat qn)), .val (.ref b33), .val (.ref ob40), .val (.int (own_eh1 (Int32.ofNat qn) (Int32.ofNat xn))), .unset] [])) t := by
      intro t kt
      show Steps p.tables e below (T40.setTop (mkF m 174 #[.val (.int p0), .val (.int p1), .val (.int p2), .val (.int p3), .val (.int p4), .val (.int (1 : Int32)), .val (.int (Int32.ofNat xn)), .val (.int (Int32.ofNat yn)), .val (.int (Int32.ofNat zn)), .val (.int (((p4.toUInt32 >>> ((10 : Int32) &&& 31).toUInt32).toInt32) &&& (3 : Int32))), .val (.int (Int32.ofNat qn)), .val (.ref b33), .val (.ref ob40), .val (.int (own_eh1 (Int32.ofNat qn) (Int32.ofNat xn))), .unset] [])) _
      refine XS.iconst X40.here hx rfl (hb hby at_174) ?_
      show Steps p.tables e below (T40.setTop (mkF m 175 #[.val (.int p0), .val (.int p1), .val (.int p2), .val (.int p3), .val (.int p4), .val (.int (1 : Int32)), .val (.int (Int32.ofNat xn)), .val (.int (Int32.ofNat yn)), .val (.int (Int32.ofNat zn)), .val (.int (((p4.toUInt32 >>> ((10 : Int32) &&& 31).toUInt32).toInt32) &&& (3 : Int32))), .val (.int (Int32.ofNat qn)), .val (.ref b33), .val (.ref ob40), .val (.int (own_eh1 (Int32.ofNat qn) (Int32.ofNat xn))), .unset] [(.int (0 : Int32))])) _
      refine XS.istore X40.here hx rfl (hb hby at_175) rfl (l' := #[.val (.int p0), .val (.int p1), .val (.int p2), .val (.int p3), .val (.int p4), .val (.int (1 : Int32)), .val (.int (Int32.ofNat xn)), .val (.int (Int32.ofNat yn)), .val (.int (Int32.ofNat zn)), .val (.int (((p4.toUInt32 >>> ((10 : Int32) &&& 31).toUInt32).toInt32) &&& (3 : Int32))), .val (.int (Int32.ofNat qn)), .val (.ref b33), .val (.ref ob40), .val (.int (own_eh1 (Int32.ofNat qn) (Int32.ofNat xn))), .val (.int (0 : Int32))]) rfl ?_
      show Steps p.tables e below (T40.setTop (mkF m 177 #[.val (.int p0), .val (.int p1), .val (.int p2), .val (.int p3), .val (.int p4), .val (.int (1 : Int32)), .val (.int (Int32.ofNat xn)), .val (.int (Int32.ofNat yn)), .val (.int (Int32.ofNat zn)), .val (.int (((p4.toUInt32 >>> ((10 : Int32) &&& 31).toUInt32).toInt32) &&& (3 : Int32))), .val (.int (Int32.ofNat qn)), .val (.ref b33), .val (.ref ob40), .val (.int (own_eh1 (Int32.ofNat qn) (Int32.ofNat xn))), .val (.int (0 : Int32))] [])) _
      refine XS.iload X40.here hx rfl (hb hby at_177) rfl ?_
      show Steps p.tables e below (T40.setTop (mkF m 179 #[.val (.int p0), .val (.int p1), .val (.int p2), .val (.int p3), .val (.int p4), .val (.int (1 : Int32)), .val (.int (Int32.ofNat xn)), .val (.int (Int32.ofNat yn)), .val (.int (Int32.ofNat zn)), .val (.int (((p4.toUInt32 >>> ((10 : Int32) &&& 31).toUInt32).toInt32) &&& (3 : Int32))), .val (.int (Int32.ofNat qn)), .val (.ref b33), .val (.ref ob40), .val (.int (own_eh1 (Int32.ofNat qn) (Int32.ofNat xn))), .val (.int (0 : Int32))] [(.int (1 : Int32))])) _
      refine XS.ifNo X40.here hx rfl (hb hby at_179) rfl ((if0 _ _).trans (tlt (by decide : (0 : Int32) < (1 : Int32))).2.2.2) ?_
      show Steps p.tables e below (T40.setTop (mkF m 182 #[.val (.int p0), .val (.int p1), .val (.int p2), .val (.int p3), .val (.int p4), .val (.int (1 : Int32)), .val (.int (Int32.ofNat xn)), .val (.int (Int32.ofNat yn)), .val (.int (Int32.ofNat zn)), .val (.int (((p4.toUInt32 >>> ((10 : Int32) &&& 31).toUInt32).toInt32) &&& (3 : Int32))), .val (.int (Int32.ofNat qn)), .val (.ref b33), .val (.ref ob40), .val (.int (own_eh1 (Int32.ofNat qn) (Int32.ofNat xn))), .val (.int (0 : Int32))] [])) _
      refine XS.iload X40.here hx rfl (hb hby at_182) rfl ?_
      show Steps p.tables e below (T40.setTop (mkF m 184 #[.val (.int p0), .val (.int p1), .val (.int p2), .val (.int p3), .val (.int p4), .val (.int (1 : Int32)), .val (.int (Int32.ofNat xn)), .val (.int (Int32.ofNat yn)), .val (.int (Int32.ofNat zn)), .val (.int (((p4.toUInt32 >>> ((10 : Int32) &&& 31).toUInt32).toInt32) &&& (3 : Int32))), .val (.int (Int32.ofNat qn)), .val (.ref b33), .val (.ref ob40), .val (.int (own_eh1 (Int32.ofNat qn) (Int32.ofNat xn))), .val (.int (0 : Int32))] [(.int (0 : Int32))])) _
      refine XS.iconst X40.here hx rfl (hb hby at_184) ?_
      show Steps p.tables e below (T40.setTop (mkF m 185 #[.val (.int p0), .val (.int p1), .val (.int p2), .val (.int p3), .val (.int p4), .val (.int (1 : Int32)), .val (.int (Int32.ofNat xn)), .val (.int (Int32.ofNat yn)), .val (.int (Int32.ofNat zn)), .val (.int (((p4.toUInt32 >>> ((10 : Int32) &&& 31).toUInt32).toInt32) &&& (3 : Int32))), .val (.int (Int32.ofNat qn)), .val (.ref b33), .val (.ref ob40), .val (.int (own_eh1 (Int32.ofNat qn) (Int32.ofNat xn))), .val (.int (0 : Int32))] [(.int (1 : Int32)), (.int (0 : Int32))])) _
      refine XS.iadd X40.here hx rfl (hb hby at_185) rfl ?_
      show Steps p.tables e below (T40.setTop (mkF m 186 #[.val (.int p0), .val (.int p1), .val (.int p2), .val (.int p3), .val (.int p4), .val (.int (1 : Int32)), .val (.int (Int32.ofNat xn)), .val (.int (Int32.ofNat yn)), .val (.int (Int32.ofNat zn)), .val (.int (((p4.toUInt32 >>> ((10 : Int32) &&& 31).toUInt32).toInt32) &&& (3 : Int32))), .val (.int (Int32.ofNat qn)), .val (.ref b33), .val (.ref ob40), .val (.int (own_eh1 (Int32.ofNat qn) (Int32.ofNat xn))), .val (.int (0 : Int32))] [(.int ((0 : Int32) + (1 : Int32)))])) _
      refine XS.istore X40.here hx rfl (hb hby at_186) rfl (l' := #[.val (.int p0), .val (.int p1), .val (.int p2), .val (.int p3), .val (.int p4), .val (.int (1 : Int32)), .val (.int (Int32.ofNat xn)), .val (.int (Int32.ofNat yn)), .val (.int (Int32.ofNat zn)), .val (.int (((p4.toUInt32 >>> ((10 : Int32) &&& 31).toUInt32).toInt32) &&& (3 : Int32))), .val (.int (Int32.ofNat qn)), .val (.ref b33), .val (.ref ob40), .val (.int (own_eh1 (Int32.ofNat qn) (Int32.ofNat xn))), .val (.int ((0 : Int32) + (1 : Int32)))]) rfl ?_
      show Steps p.tables e below (T40.setTop (mkF m 188 #[.val (.int p0), .val (.int p1), .val (.int p2), .val (.int p3), .val (.int p4), .val (.int (1 : Int32)), .val (.int (Int32.ofNat xn)), .val (.int (Int32.ofNat yn)), .val (.int (Int32.ofNat zn)), .val (.int (((p4.toUInt32 >>> ((10 : Int32) &&& 31).toUInt32).toInt32) &&& (3 : Int32))), .val (.int (Int32.ofNat qn)), .val (.ref b33), .val (.ref ob40), .val (.int (own_eh1 (Int32.ofNat qn) (Int32.ofNat xn))), .val (.int ((0 : Int32) + (1 : Int32)))] [])) _
      refine XS.iload X40.here hx rfl (hb hby at_188) rfl ?_
      show Steps p.tables e below (T40.setTop (mkF m 190 #[.val (.int p0), .val (.int p1), .val (.int p2), .val (.int p3), .val (.int p4), .val (.int (1 : Int32)), .val (.int (Int32.ofNat xn)), .val (.int (Int32.ofNat yn)), .val (.int (Int32.ofNat zn)), .val (.int (((p4.toUInt32 >>> ((10 : Int32) &&& 31).toUInt32).toInt32) &&& (3 : Int32))), .val (.int (Int32.ofNat qn)), .val (.ref b33), .val (.ref ob40), .val (.int (own_eh1 (Int32.ofNat qn) (Int32.ofNat xn))), .val (.int ((0 : Int32) + (1 : Int32)))] [(.int (1 : Int32))])) _
      refine XS.iconst X40.here hx rfl (hb hby at_190) ?_
      show Steps p.tables e below (T40.setTop (mkF m 191 #[.val (.int p0), .val (.int p1), .val (.int p2), .val (.int p3), .val (.int p4), .val (.int (1 : Int32)), .val (.int (Int32.ofNat xn)), .val (.int (Int32.ofNat yn)), .val (.int (Int32.ofNat zn)), .val (.int (((p4.toUInt32 >>> ((10 : Int32) &&& 31).toUInt32).toInt32) &&& (3 : Int32))), .val (.int (Int32.ofNat qn)), .val (.ref b33), .val (.ref ob40), .val (.int (own_eh1 (Int32.ofNat qn) (Int32.ofNat xn))), .val (.int ((0 : Int32) + (1 : Int32)))] [(.int (1 : Int32)), (.int (1 : Int32))])) _
      refine XS.icmpYes X40.here hx rfl (pc0 := 191) (pc' := 207) rfl (hb hby at_191) rfl (flt (by decide : ¬ ((1 : Int32) < (1 : Int32)))).2.2.2 (by decide) (by decide) ?_
      show Steps p.tables e below (T40.setTop (mkF m 207 #[.val (.int p0), .val (.int p1), .val (.int p2), .val (.int p3), .val (.int p4), .val (.int (1 : Int32)), .val (.int (Int32.ofNat xn)), .val (.int (Int32.ofNat yn)), .val (.int (Int32.ofNat zn)), .val (.int (((p4.toUInt32 >>> ((10 : Int32) &&& 31).toUInt32).toInt32) &&& (3 : Int32))), .val (.int (Int32.ofNat qn)), .val (.ref b33), .val (.ref ob40), .val (.int (own_eh1 (Int32.ofNat qn) (Int32.ofNat xn))), .val (.int ((0 : Int32) + (1 : Int32)))] [])) _
      refine XS.iload X40.here hx rfl (hb hby at_207) rfl ?_
      show Steps p.tables e below (T40.setTop (mkF m 209 #[.val (.int p0), .val (.int p1), .val (.int p2), .val (.int p3), .val (.int p4), .val (.int (1 : Int32)), .val (.int (Int32.ofNat xn)), .val (.int (Int32.ofNat yn)), .val (.int (Int32.ofNat zn)), .val (.int (((p4.toUInt32 >>> ((10 : Int32) &&& 31).toUInt32).toInt32) &&& (3 : Int32))), .val (.int (Int32.ofNat qn)), .val (.ref b33), .val (.ref ob40), .val (.int (own_eh1 (Int32.ofNat qn) (Int32.ofNat xn))), .val (.int ((0 : Int32) + (1 : Int32)))] [(.int (1 : Int32))])) _
      refine XS.iconst X40.here hx rfl (hb hby at_209) ?_
      show Steps p.tables e below (T40.setTop (mkF m 210 #[.val (.int p0), .val (.int p1), .val (.int p2), .val (.int p3), .val (.int p4), .val (.int (1 : Int32)), .val (.int (Int32.ofNat xn)), .val (.int (Int32.ofNat yn)), .val (.int (Int32.ofNat zn)), .val (.int (((p4.toUInt32 >>> ((10 : Int32) &&& 31).toUInt32).toInt32) &&& (3 : Int32))), .val (.int (Int32.ofNat qn)), .val (.ref b33), .val (.ref ob40), .val (.int (own_eh1 (Int32.ofNat qn) (Int32.ofNat xn))), .val (.int ((0 : Int32) + (1 : Int32)))] [(.int (2 : Int32)), (.int (1 : Int32))])) _
      refine XS.icmpYes X40.here hx rfl (pc0 := 210) (pc' := 233) rfl (hb hby at_210) rfl (flt (by decide : ¬ ((2 : Int32) < (1 : Int32)))).2.2.2 (by decide) (by decide) ?_
      rw [show (1 : Int32) = ((0 : Int32) + (1 : Int32)) from by decide] at kt
      exact kt
    have c44 : ∀ t, Steps p.tables e below (T40.setTop (mkF m 237 #[.val (.int p0), .val (.int p1), .val (.int p2), .val (.int p3), .val (.int p4), .val (.int (1 : Int32)), .val (.int (Int32.ofNat xn)), .val (.int (Int32.ofNat yn)), .val (.int (Int32.ofNat zn)), .val (.int (((p4.toUInt32 >>> ((10 : Int32) &&& 31).toUInt32).toInt32) &&& (3 : Int32))), .val (.int (Int32.ofNat qn)), .val (.ref b33), .val (.ref ob40), .val (.int (own_eh1 (Int32.ofNat qn) (Int32.ofNat xn))), .val (.int (1 : Int32))] [(.int (Int32.ofNat qn)), (.ref ob40)])) t → Steps p.tables e below (T40.setTop (mkF m 233 #[.val (.int p0), .val (.int p1), .val (.int p2), .val (.int p3), .val (.int p4), .val (.int (1 : Int32)), .val (.int (Int32.ofNat xn)), .val (.int (Int32.ofNat yn)), .val (.int (Int32.ofNat zn)), .val (.int (((p4.toUInt32 >>> ((10 : Int32) &&& 31).toUInt32).toInt32) &&& (3 : Int32))), .val (.int (Int32.ofNat qn)), .val (.ref b33), .val (.ref ob40), .val (.int (own_eh1 (Int32.ofNat qn) (Int32.ofNat xn))), .val (.int (1 : Int32))] [])) t := by
      intro t kt
      show Steps p.tables e below (T40.setTop (mkF m 233 #[.val (.int p0), .val (.int p1), .val (.int p2), .val (.int p3), .val (.int p4), .val (.int (1 : Int32)), .val (.int (Int32.ofNat xn)), .val (.int (Int32.ofNat yn)), .val (.int (Int32.ofNat zn)), .val (.int (((p4.toUInt32 >>> ((10 : Int32) &&& 31).toUInt32).toInt32) &&& (3 : Int32))), .val (.int (Int32.ofNat qn)), .val (.ref b33), .val (.ref ob40), .val (.int (own_eh1 (Int32.ofNat qn) (Int32.ofNat xn))), .val (.int (1 : Int32))] [])) _
      refine XS.aload X40.here hx rfl (hb hby at_233) rfl rfl ?_
      show Steps p.tables e below (T40.setTop (mkF m 235 #[.val (.int p0), .val (.int p1), .val (.int p2), .val (.int p3), .val (.int p4), .val (.int (1 : Int32)), .val (.int (Int32.ofNat xn)), .val (.int (Int32.ofNat yn)), .val (.int (Int32.ofNat zn)), .val (.int (((p4.toUInt32 >>> ((10 : Int32) &&& 31).toUInt32).toInt32) &&& (3 : Int32))), .val (.int (Int32.ofNat qn)), .val (.ref b33), .val (.ref ob40), .val (.int (own_eh1 (Int32.ofNat qn) (Int32.ofNat xn))), .val (.int (1 : Int32))] [(.ref ob40)])) _
      refine XS.iload X40.here hx rfl (hb hby at_235) rfl ?_
      exact kt
    have f45 := (Nat.le_trans f39 Kq40.1)
    obtain ⟨cq46, kq46, q46a, q46b, q46c⟩ := isOf hZ rfl Eq40
    obtain ⟨_, _, ⟨T47, L47, k47, n47⟩, -, X47, ⟨Lc47, hQ47, l47, y47, z47⟩, st47⟩ := X40.virtualBack hx (y := (⟨"com/example/emex/emex/explain/Positions", "has", "(I)Z"⟩ : MethodName)) (z := (⟨"com/example/emex/emex/explain/Positions", "has", "(I)Z"⟩ : MethodName)) hown (mvT hZ (hw _ (List.mem_of_getElem? (i := 37) rfl))) (mvT hZ (hw _ (List.mem_of_getElem? (i := 38) rfl))) (notFace_of_selects (args := #[]) (mvT hZ (hw _ (List.mem_of_getElem? (i := 40) rfl)))) (mvT hZ (hw _ (List.mem_of_getElem? (i := 40) rfl))) (mvT hZ (hw _ (List.mem_of_getElem? (i := 39) rfl))) (by decide) (backOf (W := 0) (rm7 l Z a0 hw []  ob40 qn ot40 kk40 ln (own_or own_f0 xn) T40.heap n0 f45 Fw40 Vq40 hl8 hqn) hZ (hw _ (List.mem_of_getElem? (i := 41) rfl)) (hw _ (List.mem_of_getElem? (i := 3) rfl)) (by decide) (by decide)) q46a q46c (g := (mkF m 237 #[.val (.int p0), .val (.int p1), .val (.int p2), .val (.int p3), .val (.int p4), .val (.int (1 : Int32)), .val (.int (Int32.ofNat xn)), .val (.int (Int32.ofNat yn)), .val (.int (Int32.ofNat zn)), .val (.int (((p4.toUInt32 >>> ((10 : Int32) &&& 31).toUInt32).toInt32) &&& (3 : Int32))), .val (.int (Int32.ofNat qn)), .val (.ref b33), .val (.ref ob40), .val (.int (own_eh1 (Int32.ofNat qn) (Int32.ofNat xn))), .val (.int (1 : Int32))] [(.int (Int32.ofNat qn)), (.ref ob40)])) rfl (by rw [hml]; rfl) (Steps.refl _) (argsL := [(.int (Int32.ofNat qn))]) (rest := []) (lenOf pd_5 rfl) rfl (by show 2 * 0 + _ ≤ _; exact Nat.le_of_eq rfl) (hb hby at_237) (fun _ _ => ⟨rfl, rfl, (by decide : 4 + 0 ≤ _), (by decide : 11 + 0 ≤ _)⟩)
    dsimp only [Pt.U, Pt.locs, Pt.cells, Pt.slots] at X47 l47 y47 z47 st47 hQ47
    subst l47 y47 z47
    obtain ⟨rfl, N47q, e47⟩ := hQ47
    have N47 := Fr.app N40 N47q
    have c49 : ∀ t, Steps p.tables e below (T47.setTop (mkF m 242 #[.val (.int p0), .val (.int p1), .val (.int p2), .val (.int p3), .val (.int p4), .val (.int (1 : Int32)), .val (.int (Int32.ofNat xn)), .val (.int (Int32.ofNat yn)), .val (.int (Int32.ofNat zn)), .val (.int (((p4.toUInt32 >>> ((10 : Int32) &&& 31).toUInt32).toInt32) &&& (3 : Int32))), .val (.int (Int32.ofNat qn)), .val (.ref b33), .val (.ref ob40), .val (.int (own_eh1 (Int32.ofNat qn) (Int32.ofNat xn))), .val (.int (1 : Int32))] [(.int (own_eh1 (Int32.ofNat qn) (Int32.ofNat xn))), (.int (own_hs (own_or own_f0 xn) ln qn))])) t → Steps p.tables e below (T47.setTop (mkF m 240 #[.val (.int p0), .val (.int p1), .val (.int p2), .val (.int p3), .val (.int p4), .val (.int (1 : Int32)), .val (.int (Int32.ofNat xn)), .val (.int (Int32.ofNat yn)), .val (.int (Int32.ofNat zn)), .val (.int (((p4.toUInt32 >>> ((10 : Int32) &&& 31).toUInt32).toInt32) &&& (3 : Int32))), .val (.int (Int32.ofNat qn)), .val (.ref b33), .val (.ref ob40), .val (.int (own_eh1 (Int32.ofNat qn) (Int32.ofNat xn))), .val (.int (1 : Int32))] [(.int (own_hs (own_or own_f0 xn) ln qn))])) t := by
      intro t kt
      show Steps p.tables e below (T47.setTop (mkF m 240 #[.val (.int p0), .val (.int p1), .val (.int p2), .val (.int p3), .val (.int p4), .val (.int (1 : Int32)), .val (.int (Int32.ofNat xn)), .val (.int (Int32.ofNat yn)), .val (.int (Int32.ofNat zn)), .val (.int (((p4.toUInt32 >>> ((10 : Int32) &&& 31).toUInt32).toInt32) &&& (3 : Int32))), .val (.int (Int32.ofNat qn)), .val (.ref b33), .val (.ref ob40), .val (.int (own_eh1 (Int32.ofNat qn) (Int32.ofNat xn))), .val (.int (1 : Int32))] [(.int (own_hs (own_or own_f0 xn) ln qn))])) _
      refine XS.iload X47.here hx rfl (hb hby at_240) rfl ?_
      exact kt
    have hd48 : (own_hs (own_or own_f0 xn) ln qn) = (own_eh1 (Int32.ofNat qn) (Int32.ofNat xn)) := own_H1 ln qn xn hqn hxn hz
    have c50 : ∀ t, Steps p.tables e below (T47.setTop (mkF m 247 #[.val (.int p0), .val (.int p1), .val (.int p2), .val (.int p3), .val (.int p4), .val (.int (1 : Int32)), .val (.int (Int32.ofNat xn)), .val (.int (Int32.ofNat yn)), .val (.int (Int32.ofNat zn)), .val (.int (((p4.toUInt32 >>> ((10 : Int32) &&& 31).toUInt32).toInt32) &&& (3 : Int32))), .val (.int (Int32.ofNat qn)), .val (.ref b33), .val (.ref ob40), .val (.int (own_eh1 (Int32.ofNat qn) (Int32.ofNat xn))), .val (.int (1 : Int32))] [(.ref ob40)])) t → Steps p.tables e below (T47.setTop (mkF m 242 #[.val (.int p0), .val (.int p1), .val (.int p2), .val (.int p3), .val (.int p4), .val (.int (1 : Int32)), .val (.int (Int32.ofNat xn)), .val (.int (Int32.ofNat yn)), .val (.int (Int32.ofNat zn)), .val (.int (((p4.toUInt32 >>> ((10 : Int32) &&& 31).toUInt32).toInt32) &&& (3 : Int32))), .val (.int (Int32.ofNat qn)), .val (.ref b33), .val (.ref ob40), .val (.int (own_eh1 (Int32.ofNat qn) (Int32.ofNat xn))), .val (.int (1 : Int32))] [(.int (own_eh1 (Int32.ofNat qn) (Int32.ofNat xn))), (.int (own_hs (own_or own_f0 xn) ln qn))])) t := by
      intro t kt
      show Steps p.tables e below (T47.setTop (mkF m 242 #[.val (.int p0), .val (.int p1), .val (.int p2), .val (.int p3), .val (.int p4), .val (.int (1 : Int32)), .val (.int (Int32.ofNat xn)), .val (.int (Int32.ofNat yn)), .val (.int (Int32.ofNat zn)), .val (.int (((p4.toUInt32 >>> ((10 : Int32) &&& 31).toUInt32).toInt32) &&& (3 : Int32))), .val (.int (Int32.ofNat qn)), .val (.ref b33), .val (.ref ob40), .val (.int (own_eh1 (Int32.ofNat qn) (Int32.ofNat xn))), .val (.int (1 : Int32))] [(.int (own_eh1 (Int32.ofNat qn) (Int32.ofNat xn))), (.int (own_hs (own_or own_f0 xn) ln qn))])) _
      refine XS.icmpNo X47.here hx rfl (hb hby at_242) rfl (teq (hd48)).2 ?_
      show Steps p.tables e below (T47.setTop (mkF m 245 #[.val (.int p0), .val (.int p1), .val (.int p2), .val (.int p3), .val (.int p4), .val (.int (1 : Int32)), .val (.int (Int32.ofNat xn)), .val (.int (Int32.ofNat yn)), .val (.int (Int32.ofNat zn)), .val (.int (((p4.toUInt32 >>> ((10 : Int32) &&& 31).toUInt32).toInt32) &&& (3 : Int32))), .val (.int (Int32.ofNat qn)), .val (.ref b33), .val (.ref ob40), .val (.int (own_eh1 (Int32.ofNat qn) (Int32.ofNat xn))), .val (.int (1 : Int32))] [])) _
      refine XS.aload X47.here hx rfl (hb hby at_245) rfl rfl ?_
      exact kt
    obtain ⟨cq51, kq51, q51a, q51b, q51c⟩ := isOf hZ e47 Eq40
    obtain ⟨_, _, ⟨T52, L52, k52, n52⟩, -, X52, ⟨Lc52, hQ52, l52, y52, z52⟩, st52⟩ := X47.virtualBack hx (y := (⟨"com/example/emex/emex/explain/Positions", "size", "()I"⟩ : MethodName)) (z := (⟨"com/example/emex/emex/explain/Positions", "size", "()I"⟩ : MethodName)) hown (mvT hZ (hw _ (List.mem_of_getElem? (i := 42) rfl))) (mvT hZ (hw _ (List.mem_of_getElem? (i := 43) rfl))) (notFace_of_selects (args := #[]) (mvT hZ (hw _ (List.mem_of_getElem? (i := 45) rfl)))) (mvT hZ (hw _ (List.mem_of_getElem? (i := 45) rfl))) (mvT hZ (hw _ (List.mem_of_getElem? (i := 44) rfl))) (by decide) (backOf (W := 0) (rm8 l Z a0 hw [] ob40 (own_cnt (own_or own_f0 xn) ln) T40.heap n0 f45 Fs40) hZ (hw _ (List.mem_of_getElem? (i := 46) rfl)) (hw _ (List.mem_of_getElem? (i := 3) rfl)) (by decide) (by decide)) q51a q51c (g := (mkF m 247 #[.val (.int p0), .val (.int p1), .val (.int p2), .val (.int p3), .val (.int p4), .val (.int (1 : Int32)), .val (.int (Int32.ofNat xn)), .val (.int (Int32.ofNat yn)), .val (.int (Int32.ofNat zn)), .val (.int (((p4.toUInt32 >>> ((10 : Int32) &&& 31).toUInt32).toInt32) &&& (3 : Int32))), .val (.int (Int32.ofNat qn)), .val (.ref b33), .val (.ref ob40), .val (.int (own_eh1 (Int32.ofNat qn) (Int32.ofNat xn))), .val (.int (1 : Int32))] [(.ref ob40)])) rfl (by rw [hml]; rfl) (Steps.refl _) (argsL := []) (rest := []) (lenOf pd_6 rfl) rfl (by show 2 * 0 + _ ≤ _; exact Nat.le_of_eq rfl) (hb hby at_247) (fun _ _ => ⟨rfl, e47, (by decide : 4 + 0 ≤ _), (by decide : 11 + 0 ≤ _)⟩)
    dsimp only [Pt.U, Pt.locs, Pt.cells, Pt.slots] at X52 l52 y52 z52 st52 hQ52
    subst l52 y52 z52
    obtain ⟨rfl, N52q, e52⟩ := hQ52
    have N52 := Fr.app N47 N52q
    have c54 : ∀ t, Steps p.tables e below (T52.setTop (mkF m 252 #[.val (.int p0), .val (.int p1), .val (.int p2), .val (.int p3), .val (.int p4), .val (.int (1 : Int32)), .val (.int (Int32.ofNat xn)), .val (.int (Int32.ofNat yn)), .val (.int (Int32.ofNat zn)), .val (.int (((p4.toUInt32 >>> ((10 : Int32) &&& 31).toUInt32).toInt32) &&& (3 : Int32))), .val (.int (Int32.ofNat qn)), .val (.ref b33), .val (.ref ob40), .val (.int (own_eh1 (Int32.ofNat qn) (Int32.ofNat xn))), .val (.int (1 : Int32))] [(.int (1 : Int32)), (.int (own_cnt (own_or own_f0 xn) ln))])) t → Steps p.tables e below (T52.setTop (mkF m 250 #[.val (.int p0), .val (.int p1), .val (.int p2), .val (.int p3), .val (.int p4), .val (.int (1 : Int32)), .val (.int (Int32.ofNat xn)), .val (.int (Int32.ofNat yn)), .val (.int (Int32.ofNat zn)), .val (.int (((p4.toUInt32 >>> ((10 : Int32) &&& 31).toUInt32).toInt32) &&& (3 : Int32))), .val (.int (Int32.ofNat qn)), .val (.ref b33), .val (.ref ob40), .val (.int (own_eh1 (Int32.ofNat qn) (Int32.ofNat xn))), .val (.int (1 : Int32))] [(.int (own_cnt (own_or own_f0 xn) ln))])) t := by
      intro t kt
      show Steps p.tables e below (T52.setTop (mkF m 250 #[.val (.int p0), .val (.int p1), .val (.int p2), .val (.int p3), .val (.int p4), .val (.int (1 : Int32)), .val (.int (Int32.ofNat xn)), .val (.int (Int32.ofNat yn)), .val (.int (Int32.ofNat zn)), .val (.int (((p4.toUInt32 >>> ((10 : Int32) &&& 31).toUInt32).toInt32) &&& (3 : Int32))), .val (.int (Int32.ofNat qn)), .val (.ref b33), .val (.ref ob40), .val (.int (own_eh1 (Int32.ofNat qn) (Int32.ofNat xn))), .val (.int (1 : Int32))] [(.int (own_cnt (own_or own_f0 xn) ln))])) _
      refine XS.iload X52.here hx rfl (hb hby at_250) rfl ?_
      exact kt
    have hd53 : (own_cnt (own_or own_f0 xn) ln) = (1 : Int32) := own_C1 ln xn hl8 hxn hp0
    have c55 : ∀ t, Steps p.tables e below (T52.setTop (mkF m 260 #[.val (.int p0), .val (.int p1), .val (.int p2), .val (.int p3), .val (.int p4), .val (.int (1 : Int32)), .val (.int (Int32.ofNat xn)), .val (.int (Int32.ofNat yn)), .val (.int (Int32.ofNat zn)), .val (.int (((p4.toUInt32 >>> ((10 : Int32) &&& 31).toUInt32).toInt32) &&& (3 : Int32))), .val (.int (Int32.ofNat qn)), .val (.ref b33), .val (.ref ob40), .val (.int (own_eh1 (Int32.ofNat qn) (Int32.ofNat xn))), .val (.int (1 : Int32))] [(.int (1 : Int32))])) t → Steps p.tables e below (T52.setTop (mkF m 252 #[.val (.int p0), .val (.int p1), .val (.int p2), .val (.int p3), .val (.int p4), .val (.int (1 : Int32)), .val (.int (Int32.ofNat xn)), .val (.int (Int32.ofNat yn)), .val (.int (Int32.ofNat zn)), .val (.int (((p4.toUInt32 >>> ((10 : Int32) &&& 31).toUInt32).toInt32) &&& (3 : Int32))), .val (.int (Int32.ofNat qn)), .val (.ref b33), .val (.ref ob40), .val (.int (own_eh1 (Int32.ofNat qn) (Int32.ofNat xn))), .val (.int (1 : Int32))] [(.int (1 : Int32)), (.int (own_cnt (own_or own_f0 xn) ln))])) t := by
      intro t kt
      show Steps p.tables e below (T52.setTop (mkF m 252 #[.val (.int p0), .val (.int p1), .val (.int p2), .val (.int p3), .val (.int p4), .val (.int (1 : Int32)), .val (.int (Int32.ofNat xn)), .val (.int (Int32.ofNat yn)), .val (.int (Int32.ofNat zn)), .val (.int (((p4.toUInt32 >>> ((10 : Int32) &&& 31).toUInt32).toInt32) &&& (3 : Int32))), .val (.int (Int32.ofNat qn)), .val (.ref b33), .val (.ref ob40), .val (.int (own_eh1 (Int32.ofNat qn) (Int32.ofNat xn))), .val (.int (1 : Int32))] [(.int (1 : Int32)), (.int (own_cnt (own_or own_f0 xn) ln))])) _
      refine XS.icmpNo X52.here hx rfl (hb hby at_252) rfl (teq (hd53)).2 ?_
      show Steps p.tables e below (T52.setTop (mkF m 255 #[.val (.int p0), .val (.int p1), .val (.int p2), .val (.int p3), .val (.int p4), .val (.int (1 : Int32)), .val (.int (Int32.ofNat xn)), .val (.int (Int32.ofNat yn)), .val (.int (Int32.ofNat zn)), .val (.int (((p4.toUInt32 >>> ((10 : Int32) &&& 31).toUInt32).toInt32) &&& (3 : Int32))), .val (.int (Int32.ofNat qn)), .val (.ref b33), .val (.ref ob40), .val (.int (own_eh1 (Int32.ofNat qn) (Int32.ofNat xn))), .val (.int (1 : Int32))] [])) _
      refine XS.iconst X52.here hx rfl (hb hby at_255) ?_
      show Steps p.tables e below (T52.setTop (mkF m 256 #[.val (.int p0), .val (.int p1), .val (.int p2), .val (.int p3), .val (.int p4), .val (.int (1 : Int32)), .val (.int (Int32.ofNat xn)), .val (.int (Int32.ofNat yn)), .val (.int (Int32.ofNat zn)), .val (.int (((p4.toUInt32 >>> ((10 : Int32) &&& 31).toUInt32).toInt32) &&& (3 : Int32))), .val (.int (Int32.ofNat qn)), .val (.ref b33), .val (.ref ob40), .val (.int (own_eh1 (Int32.ofNat qn) (Int32.ofNat xn))), .val (.int (1 : Int32))] [(.int (1 : Int32))])) _
      refine XS.goto X52.here hx rfl (pc0 := 256) (pc' := 260) rfl (hb hby at_256) (by decide) (by decide) ?_
      exact kt
    obtain ⟨fs, hr, hrun, hended, hW, hsame⟩ := X52.leave (v := some (.int (1 : Int32))) (fun h => by rw [Bd.returns] at h; cases h)
    refine ⟨_, _, pre0 _ (c1 _ (c2 _ (c3 _ (c4 _ (c5 _ (c6 _ (c7 _ (c8 _ (c9 _ (c32 _ (c34 _ (st33 _ (c35 _ (st37 _ (c38 _ (st40 _ (c41 _ (c42 _ (c43 _ (c44 _ (st47.trans (c49 _ (c50 _ (st52.trans (c54 _ (c55 _ (?_))))))))))))))))))))))))))), hrun, hended, _, _, rfl, ?_, ⟨_, rfl⟩, hW, hsame.mono (by decide) (by decide)⟩
    · show Steps p.tables e below (T52.setTop (mkF m 260 #[.val (.int p0), .val (.int p1), .val (.int p2), .val (.int p3), .val (.int p4), .val (.int (1 : Int32)), .val (.int (Int32.ofNat xn)), .val (.int (Int32.ofNat yn)), .val (.int (Int32.ofNat zn)), .val (.int (((p4.toUInt32 >>> ((10 : Int32) &&& 31).toUInt32).toInt32) &&& (3 : Int32))), .val (.int (Int32.ofNat qn)), .val (.ref b33), .val (.ref ob40), .val (.int (own_eh1 (Int32.ofNat qn) (Int32.ofNat xn))), .val (.int (1 : Int32))] [(.int (1 : Int32))])) _
      exact retN X52 hx (t := .boolean) Bd.returns (by simp) (hb hby at_260) hr
    · show Q0 Z p0 p1 p2 p3 p4 h0 n0 _ T52.heap _
      rw [e52]
      exact ⟨congrArg (fun z => some (Value.int z)) (show (1 : Int32) = (1 : Int32) from by rfl), N52⟩
  · skip
    have c57 : ∀ t, Steps p.tables e below (s₁.setTop (mkF m 81 #[.val (.int p0), .val (.int p1), .val (.int p2), .val (.int p3), .val (.int p4), .val (.int (2 : Int32)), .val (.int (Int32.ofNat xn)), .val (.int (Int32.ofNat yn)), .val (.int (Int32.ofNat zn)), .val (.int (((p4.toUInt32 >>> ((10 : Int32) &&& 31).toUInt32).toInt32) &&& (3 : Int32))), .val (.int (Int32.ofNat qn)), .unset, .unset, .unset, .unset] [])) t → Steps p.tables e below (s₁.setTop (mkF m 81 #[.val (.int p0), .val (.int p1), .val (.int p2), .val (.int p3), .val (.int p4), .val (.int (p3 &&& (3 : Int32))), .val (.int (Int32.ofNat xn)), .val (.int (Int32.ofNat yn)), .val (.int (Int32.ofNat zn)), .val (.int (((p4.toUInt32 >>> ((10 : Int32) &&& 31).toUInt32).toInt32) &&& (3 : Int32))), .val (.int (Int32.ofNat qn)), .unset, .unset, .unset, .unset] [])) t := fun t kt => castTop (congrArg (fun zv => (mkF m 81 #[.val (.int p0), .val (.int p1), .val (.int p2), .val (.int p3), .val (.int p4), .val (.int zv), .val (.int (Int32.ofNat xn)), .val (.int (Int32.ofNat yn)), .val (.int (Int32.ofNat zn)), .val (.int (((p4.toUInt32 >>> ((10 : Int32) &&& 31).toUInt32).toInt32) &&& (3 : Int32))), .val (.int (Int32.ofNat qn)), .unset, .unset, .unset, .unset] [])) (show (p3 &&& (3 : Int32)) = (2 : Int32) from hsz)) kt
    have c59 : ∀ t, Steps p.tables e below (s₁.setTop (mkF m 83 #[.val (.int p0), .val (.int p1), .val (.int p2), .val (.int p3), .val (.int p4), .val (.int (2 : Int32)), .val (.int (Int32.ofNat xn)), .val (.int (Int32.ofNat yn)), .val (.int (Int32.ofNat zn)), .val (.int (((p4.toUInt32 >>> ((10 : Int32) &&& 31).toUInt32).toInt32) &&& (3 : Int32))), .val (.int (Int32.ofNat qn)), .unset, .unset, .unset, .unset] [(.int (2 : Int32))])) t → Steps p.tables e below (s₁.setTop (mkF m 81 #[.val (.int p0), .val (.int p1), .val (.int p2), .val (.int p3), .val (.int p4), .val (.int (2 : Int32)), .val (.int (Int32.ofNat xn)), .val (.int (Int32.ofNat yn)), .val (.int (Int32.ofNat zn)), .val (.int (((p4.toUInt32 >>> ((10 : Int32) &&& 31).toUInt32).toInt32) &&& (3 : Int32))), .val (.int (Int32.ofNat qn)), .unset, .unset, .unset, .unset] [])) t := by
      intro t kt
      show Steps p.tables e below (s₁.setTop (mkF m 81 #[.val (.int p0), .val (.int p1), .val (.int p2), .val (.int p3), .val (.int p4), .val (.int (2 : Int32)), .val (.int (Int32.ofNat xn)), .val (.int (Int32.ofNat yn)), .val (.int (Int32.ofNat zn)), .val (.int (((p4.toUInt32 >>> ((10 : Int32) &&& 31).toUInt32).toInt32) &&& (3 : Int32))), .val (.int (Int32.ofNat qn)), .unset, .unset, .unset, .unset] [])) _
      refine XS.iload X0.here hx rfl (hb hby at_81) rfl ?_
      exact kt
    obtain ⟨T58, h58, k58, X58, e58, E58, A58, st58⟩ := newP X0 hx hZ (hw _ (List.mem_of_getElem? (i := 0) rfl)) e0 (g := (mkF m 83 #[.val (.int p0), .val (.int p1), .val (.int p2), .val (.int p3), .val (.int p4), .val (.int (2 : Int32)), .val (.int (Int32.ofNat xn)), .val (.int (Int32.ofNat yn)), .val (.int (Int32.ofNat zn)), .val (.int (((p4.toUInt32 >>> ((10 : Int32) &&& 31).toUInt32).toInt32) &&& (3 : Int32))), .val (.int (Int32.ofNat qn)), .unset, .unset, .unset, .unset] [(.int (2 : Int32))])) rfl (hb hby at_83) rfl (by decide) (cap := 2) (by decide) (by decide) (by decide) (by decide)
    obtain ⟨b58, g58⟩ : ∃ z, z = h0.size := ⟨_, rfl⟩
    rw [← g58] at A58 st58
    have g_b58 : n0 ≤ b58 := Nat.le_trans Z0 (Nat.le_of_eq g58.symm)
    have sz_b58 : h0.size ≤ b58 := Nat.le_trans (Keep.refl h0 []).1 (Nat.le_of_eq g58.symm)
    have V58 : Arv Z h58 b58 k58 .int (2 : Int32) [(.int (0 : Int32)), (.int (0 : Int32))] (.int (0 : Int32)) := (Arv.new A58 (by decide)).pad (pad_rep [] (.int (0 : Int32)) 2)
    have c60 : ∀ t, Steps p.tables e below (T58.setTop (mkF m 97 #[.val (.int p0), .val (.int p1), .val (.int p2), .val (.int p3), .val (.int p4), .val (.int (2 : Int32)), .val (.int (Int32.ofNat xn)), .val (.int (Int32.ofNat yn)), .val (.int (Int32.ofNat zn)), .val (.int (((p4.toUInt32 >>> ((10 : Int32) &&& 31).toUInt32).toInt32) &&& (3 : Int32))), .val (.int (Int32.ofNat qn)), .val (.ref b58), .unset, .unset, .unset] [(.int (Int32.ofNat xn)), (.int (0 : Int32)), (.ref b58)])) t → Steps p.tables e below (T58.setTop (mkF m 85 #[.val (.int p0), .val (.int p1), .val (.int p2), .val (.int p3), .val (.int p4), .val (.int (2 : Int32)), .val (.int (Int32.ofNat xn)), .val (.int (Int32.ofNat yn)), .val (.int (Int32.ofNat zn)), .val (.int (((p4.toUInt32 >>> ((10 : Int32) &&& 31).toUInt32).toInt32) &&& (3 : Int32))), .val (.int (Int32.ofNat qn)), .unset, .unset, .unset, .unset] [(.ref b58)])) t := by
      intro t kt
      show Steps p.tables e below (T58.setTop (mkF m 85 #[.val (.int p0), .val (.int p1), .val (.int p2), .val (.int p3), .val (.int p4), .val (.int (2 : Int32)), .val (.int (Int32.ofNat xn)), .val (.int (Int32.ofNat yn)), .val (.int (Int32.ofNat zn)), .val (.int (((p4.toUInt32 >>> ((10 : Int32) &&& 31).toUInt32).toInt32) &&& (3 : Int32))), .val (.int (Int32.ofNat qn)), .unset, .unset, .unset, .unset] [(.ref b58)])) _
      refine XS.astore X58.here hx rfl (hb hby at_85) rfl rfl (l' := #[.val (.int p0), .val (.int p1), .val (.int p2), .val (.int p3), .val (.int p4), .val (.int (2 : Int32)), .val (.int (Int32.ofNat xn)), .val (.int (Int32.ofNat yn)), .val (.int (Int32.ofNat zn)), .val (.int (((p4.toUInt32 >>> ((10 : Int32) &&& 31).toUInt32).toInt32) &&& (3 : Int32))), .val (.int (Int32.ofNat qn)), .val (.ref b58), .unset, .unset, .unset]) rfl ?_
      show Steps p.tables e below (T58.setTop (mkF m 87 #[.val (.int p0), .val (.int p1), .val (.int p2), .val (.int p3), .val (.int p4), .val (.int (2 : Int32)), .val (.int (Int32.ofNat xn)), .val (.int (Int32.ofNat yn)), .val (.int (Int32.ofNat zn)), .val (.int (((p4.toUInt32 >>> ((10 : Int32) &&& 31).toUInt32).toInt32) &&& (3 : Int32))), .val (.int (Int32.ofNat qn)), .val (.ref b58), .unset, .unset, .unset] [])) _
      refine XS.iload X58.here hx rfl (hb hby at_87) rfl ?_
      show Steps p.tables e below (T58.setTop (mkF m 89 #[.val (.int p0), .val (.int p1), .val (.int p2), .val (.int p3), .val (.int p4), .val (.int (2 : Int32)), .val (.int (Int32.ofNat xn)), .val (.int (Int32.ofNat yn)), .val (.int (Int32.ofNat zn)), .val (.int (((p4.toUInt32 >>> ((10 : Int32) &&& 31).toUInt32).toInt32) &&& (3 : Int32))), .val (.int (Int32.ofNat qn)), .val (.ref b58), .unset, .unset, .unset] [(.int (2 : Int32))])) _
      refine XS.ifNo X58.here hx rfl (hb hby at_89) rfl ((if0 _ _).trans (tlt (by decide : (0 : Int32) < (2 : Int32))).2.2.2) ?_
      show Steps p.tables e below (T58.setTop (mkF m 92 #[.val (.int p0), .val (.int p1), .val (.int p2), .val (.int p3), .val (.int p4), .val (.int (2 : Int32)), .val (.int (Int32.ofNat xn)), .val (.int (Int32.ofNat yn)), .val (.int (Int32.ofNat zn)), .val (.int (((p4.toUInt32 >>> ((10 : Int32) &&& 31).toUInt32).toInt32) &&& (3 : Int32))), .val (.int (Int32.ofNat qn)), .val (.ref b58), .unset, .unset, .unset] [])) _
      refine XS.aload X58.here hx rfl (hb hby at_92) rfl rfl ?_
      show Steps p.tables e below (T58.setTop (mkF m 94 #[.val (.int p0), .val (.int p1), .val (.int p2), .val (.int p3), .val (.int p4), .val (.int (2 : Int32)), .val (.int (Int32.ofNat xn)), .val (.int (Int32.ofNat yn)), .val (.int (Int32.ofNat zn)), .val (.int (((p4.toUInt32 >>> ((10 : Int32) &&& 31).toUInt32).toInt32) &&& (3 : Int32))), .val (.int (Int32.ofNat qn)), .val (.ref b58), .unset, .unset, .unset] [(.ref b58)])) _
      refine XS.iconst X58.here hx rfl (hb hby at_94) ?_
      show Steps p.tables e below (T58.setTop (mkF m 95 #[.val (.int p0), .val (.int p1), .val (.int p2), .val (.int p3), .val (.int p4), .val (.int (2 : Int32)), .val (.int (Int32.ofNat xn)), .val (.int (Int32.ofNat yn)), .val (.int (Int32.ofNat zn)), .val (.int (((p4.toUInt32 >>> ((10 : Int32) &&& 31).toUInt32).toInt32) &&& (3 : Int32))), .val (.int (Int32.ofNat qn)), .val (.ref b58), .unset, .unset, .unset] [(.int (0 : Int32)), (.ref b58)])) _
      refine XS.iload X58.here hx rfl (hb hby at_95) rfl ?_
      exact kt
    have Vc61 := V58
    obtain ⟨cl61, Ar61, qk61, S61, M61, H61, G61⟩ := Vc61
    have hin61 : ¬ ((0 : Int32) < 0 ∨ cl61.slots.size ≤ ((0 : Int32)).toNatClampNeg) := inb_of S61 ⟨by decide, by decide⟩
    obtain ⟨T62, h62, X62, e62, W62, st62⟩ := stI X58 hx hZ e58 Ar61 (j := (0 : Int32)) hin61 (g := (mkF m 97 #[.val (.int p0), .val (.int p1), .val (.int p2), .val (.int p3), .val (.int p4), .val (.int (2 : Int32)), .val (.int (Int32.ofNat xn)), .val (.int (Int32.ofNat yn)), .val (.int (Int32.ofNat zn)), .val (.int (((p4.toUInt32 >>> ((10 : Int32) &&& 31).toUInt32).toInt32) &&& (3 : Int32))), .val (.int (Int32.ofNat qn)), .val (.ref b58), .unset, .unset, .unset] [(.int (Int32.ofNat xn)), (.int (0 : Int32)), (.ref b58)])) rfl rfl (hb hby at_97)
    have V62 : Arv Z h62 b58 k58 .int (2 : Int32) [(.int (Int32.ofNat xn)), (.int (0 : Int32))] (.int (0 : Int32)) := Arv.set Ar61 qk61 S61 M61 H61 G61 rfl W62 0 rfl (Nat.le_of_ble_eq_true rfl)
    have N62 := Fr.snoc X62 N0 g_b58
    have c63 : ∀ t, Steps p.tables e below (T62.setTop (mkF m 109 #[.val (.int p0), .val (.int p1), .val (.int p2), .val (.int p3), .val (.int p4), .val (.int (2 : Int32)), .val (.int (Int32.ofNat xn)), .val (.int (Int32.ofNat yn)), .val (.int (Int32.ofNat zn)), .val (.int (((p4.toUInt32 >>> ((10 : Int32) &&& 31).toUInt32).toInt32) &&& (3 : Int32))), .val (.int (Int32.ofNat qn)), .val (.ref b58), .unset, .unset, .unset] [(.int (Int32.ofNat yn)), (.int (1 : Int32)), (.ref b58)])) t → Steps p.tables e below (T62.setTop (mkF m 98 #[.val (.int p0), .val (.int p1), .val (.int p2), .val (.int p3), .val (.int p4), .val (.int (2 : Int32)), .val (.int (Int32.ofNat xn)), .val (.int (Int32.ofNat yn)), .val (.int (Int32.ofNat zn)), .val (.int (((p4.toUInt32 >>> ((10 : Int32) &&& 31).toUInt32).toInt32) &&& (3 : Int32))), .val (.int (Int32.ofNat qn)), .val (.ref b58), .unset, .unset, .unset] [])) t := by
      intro t kt
      show Steps p.tables e below (T62.setTop (mkF m 98 #[.val (.int p0), .val (.int p1), .val (.int p2), .val (.int p3), .val (.int p4), .val (.int (2 : Int32)), .val (.int (Int32.ofNat xn)), .val (.int (Int32.ofNat yn)), .val (.int (Int32.ofNat zn)), .val (.int (((p4.toUInt32 >>> ((10 : Int32) &&& 31).toUInt32).toInt32) &&& (3 : Int32))), .val (.int (Int32.ofNat qn)), .val (.ref b58), .unset, .unset, .unset] [])) _
      refine XS.iload X62.here hx rfl (hb hby at_98) rfl ?_
      show Steps p.tables e below (T62.setTop (mkF m 100 #[.val (.int p0), .val (.int p1), .val (.int p2), .val (.int p3), .val (.int p4), .val (.int (2 : Int32)), .val (.int (Int32.ofNat xn)), .val (.int (Int32.ofNat yn)), .val (.int (Int32.ofNat zn)), .val (.int (((p4.toUInt32 >>> ((10 : Int32) &&& 31).toUInt32).toInt32) &&& (3 : Int32))), .val (.int (Int32.ofNat qn)), .val (.ref b58), .unset, .unset, .unset] [(.int (2 : Int32))])) _
      refine XS.iconst X62.here hx rfl (hb hby at_100) ?_
      show Steps p.tables e below (T62.setTop (mkF m 101 #[.val (.int p0), .val (.int p1), .val (.int p2), .val (.int p3), .val (.int p4), .val (.int (2 : Int32)), .val (.int (Int32.ofNat xn)), .val (.int (Int32.ofNat yn)), .val (.int (Int32.ofNat zn)), .val (.int (((p4.toUInt32 >>> ((10 : Int32) &&& 31).toUInt32).toInt32) &&& (3 : Int32))), .val (.int (Int32.ofNat qn)), .val (.ref b58), .unset, .unset, .unset] [(.int (1 : Int32)), (.int (2 : Int32))])) _
      refine XS.icmpNo X62.here hx rfl (hb hby at_101) rfl (tlt (by decide : (1 : Int32) < (2 : Int32))).2.2.2 ?_
      show Steps p.tables e below (T62.setTop (mkF m 104 #[.val (.int p0), .val (.int p1), .val (.int p2), .val (.int p3), .val (.int p4), .val (.int (2 : Int32)), .val (.int (Int32.ofNat xn)), .val (.int (Int32.ofNat yn)), .val (.int (Int32.ofNat zn)), .val (.int (((p4.toUInt32 >>> ((10 : Int32) &&& 31).toUInt32).toInt32) &&& (3 : Int32))), .val (.int (Int32.ofNat qn)), .val (.ref b58), .unset, .unset, .unset] [])) _
      refine XS.aload X62.here hx rfl (hb hby at_104) rfl rfl ?_
      show Steps p.tables e below (T62.setTop (mkF m 106 #[.val (.int p0), .val (.int p1), .val (.int p2), .val (.int p3), .val (.int p4), .val (.int (2 : Int32)), .val (.int (Int32.ofNat xn)), .val (.int (Int32.ofNat yn)), .val (.int (Int32.ofNat zn)), .val (.int (((p4.toUInt32 >>> ((10 : Int32) &&& 31).toUInt32).toInt32) &&& (3 : Int32))), .val (.int (Int32.ofNat qn)), .val (.ref b58), .unset, .unset, .unset] [(.ref b58)])) _
      refine XS.iconst X62.here hx rfl (hb hby at_106) ?_
      show Steps p.tables e below (T62.setTop (mkF m 107 #[.val (.int p0), .val (.int p1), .val (.int p2), .val (.int p3), .val (.int p4), .val (.int (2 : Int32)), .val (.int (Int32.ofNat xn)), .val (.int (Int32.ofNat yn)), .val (.int (Int32.ofNat zn)), .val (.int (((p4.toUInt32 >>> ((10 : Int32) &&& 31).toUInt32).toInt32) &&& (3 : Int32))), .val (.int (Int32.ofNat qn)), .val (.ref b58), .unset, .unset, .unset] [(.int (1 : Int32)), (.ref b58)])) _
      refine XS.iload X62.here hx rfl (hb hby at_107) rfl ?_
      exact kt
    have Vc64 := V62
    obtain ⟨cl64, Ar64, qk64, S64, M64, H64, G64⟩ := Vc64
    have hin64 : ¬ ((1 : Int32) < 0 ∨ cl64.slots.size ≤ ((1 : Int32)).toNatClampNeg) := inb_of S64 ⟨by decide, by decide⟩
    obtain ⟨T65, h65, X65, e65, W65, st65⟩ := stI X62 hx hZ e62 Ar64 (j := (1 : Int32)) hin64 (g := (mkF m 109 #[.val (.int p0), .val (.int p1), .val (.int p2), .val (.int p3), .val (.int p4), .val (.int (2 : Int32)), .val (.int (Int32.ofNat xn)), .val (.int (Int32.ofNat yn)), .val (.int (Int32.ofNat zn)), .val (.int (((p4.toUInt32 >>> ((10 : Int32) &&& 31).toUInt32).toInt32) &&& (3 : Int32))), .val (.int (Int32.ofNat qn)), .val (.ref b58), .unset, .unset, .unset] [(.int (Int32.ofNat yn)), (.int (1 : Int32)), (.ref b58)])) rfl rfl (hb hby at_109)
    have V65 : Arv Z h65 b58 k58 .int (2 : Int32) [(.int (Int32.ofNat xn)), (.int (Int32.ofNat yn))] (.int (0 : Int32)) := Arv.set Ar64 qk64 S64 M64 H64 G64 rfl W65 1 rfl (Nat.le_of_ble_eq_true rfl)
    have N65 := Fr.snoc X65 N62 g_b58
    have c66 : ∀ t, Steps p.tables e below (T65.setTop (mkF m 124 #[.val (.int p0), .val (.int p1), .val (.int p2), .val (.int p3), .val (.int p4), .val (.int (2 : Int32)), .val (.int (Int32.ofNat xn)), .val (.int (Int32.ofNat yn)), .val (.int (Int32.ofNat zn)), .val (.int (((p4.toUInt32 >>> ((10 : Int32) &&& 31).toUInt32).toInt32) &&& (3 : Int32))), .val (.int (Int32.ofNat qn)), .val (.ref b58), .unset, .unset, .unset] [(.ref b58)])) t → Steps p.tables e below (T65.setTop (mkF m 110 #[.val (.int p0), .val (.int p1), .val (.int p2), .val (.int p3), .val (.int p4), .val (.int (2 : Int32)), .val (.int (Int32.ofNat xn)), .val (.int (Int32.ofNat yn)), .val (.int (Int32.ofNat zn)), .val (.int (((p4.toUInt32 >>> ((10 : Int32) &&& 31).toUInt32).toInt32) &&& (3 : Int32))), .val (.int (Int32.ofNat qn)), .val (.ref b58), .unset, .unset, .unset] [])) t := by
      intro t kt
      show Steps p.tables e below (T65.setTop (mkF m 110 #[.val (.int p0), .val (.int p1), .val (.int p2), .val (.int p3), .val (.int p4), .val (.int (2 : Int32)), .val (.int (Int32.ofNat xn)), .val (.int (Int32.ofNat yn)), .val (.int (Int32.ofNat zn)), .val (.int (((p4.toUInt32 >>> ((10 : Int32) &&& 31).toUInt32).toInt32) &&& (3 : Int32))), .val (.int (Int32.ofNat qn)), .val (.ref b58), .unset, .unset, .unset] [])) _
      refine XS.iload X65.here hx rfl (hb hby at_110) rfl ?_
      show Steps p.tables e below (T65.setTop (mkF m 112 #[.val (.int p0), .val (.int p1), .val (.int p2), .val (.int p3), .val (.int p4), .val (.int (2 : Int32)), .val (.int (Int32.ofNat xn)), .val (.int (Int32.ofNat yn)), .val (.int (Int32.ofNat zn)), .val (.int (((p4.toUInt32 >>> ((10 : Int32) &&& 31).toUInt32).toInt32) &&& (3 : Int32))), .val (.int (Int32.ofNat qn)), .val (.ref b58), .unset, .unset, .unset] [(.int (2 : Int32))])) _
      refine XS.iconst X65.here hx rfl (hb hby at_112) ?_
      show Steps p.tables e below (T65.setTop (mkF m 113 #[.val (.int p0), .val (.int p1), .val (.int p2), .val (.int p3), .val (.int p4), .val (.int (2 : Int32)), .val (.int (Int32.ofNat xn)), .val (.int (Int32.ofNat yn)), .val (.int (Int32.ofNat zn)), .val (.int (((p4.toUInt32 >>> ((10 : Int32) &&& 31).toUInt32).toInt32) &&& (3 : Int32))), .val (.int (Int32.ofNat qn)), .val (.ref b58), .unset, .unset, .unset] [(.int (2 : Int32)), (.int (2 : Int32))])) _
      refine XS.icmpYes X65.here hx rfl (pc0 := 113) (pc' := 122) rfl (hb hby at_113) rfl (flt (by decide : ¬ ((2 : Int32) < (2 : Int32)))).2.2.2 (by decide) (by decide) ?_
      show Steps p.tables e below (T65.setTop (mkF m 122 #[.val (.int p0), .val (.int p1), .val (.int p2), .val (.int p3), .val (.int p4), .val (.int (2 : Int32)), .val (.int (Int32.ofNat xn)), .val (.int (Int32.ofNat yn)), .val (.int (Int32.ofNat zn)), .val (.int (((p4.toUInt32 >>> ((10 : Int32) &&& 31).toUInt32).toInt32) &&& (3 : Int32))), .val (.int (Int32.ofNat qn)), .val (.ref b58), .unset, .unset, .unset] [])) _
      refine XS.aload X65.here hx rfl (hb hby at_122) rfl rfl ?_
      exact kt
    have f67 := (Nat.le_trans (Nat.le_trans (Nat.le_trans Z0 E58.1) (Keep.of_wr W62).1) (Keep.of_wr W65).1)
    obtain ⟨_, _, ⟨T68, L68, k68, n68⟩, -, X68, ⟨Lc68, hQ68, l68, y68, z68⟩, st68⟩ := Jvm.LawKit.callS X65 hx (y := (⟨"com/example/emex/emex/explain/Positions", "of", "([I)Lcom/example/emex/emex/explain/Positions;"⟩ : MethodName)) hown (mvT hZ (hw _ (List.mem_of_getElem? (i := 1) rfl))) (mvT hZ (hw _ (List.mem_of_getElem? (i := 2) rfl))) (mvT hZ (hw _ (List.mem_of_getElem? (i := 3) rfl))) (mvT hZ (hw _ (List.mem_of_getElem? (i := 4) rfl))) (by decide) (backOf (W := 0) (rm1_2 l Z a0 hw [] b58 k58 (.int (0 : Int32)) xn yn h65 n0 f67 V65 hxn hyn) hZ (hw _ (List.mem_of_getElem? (i := 4) rfl)) (hw _ (List.mem_of_getElem? (i := 3) rfl)) (by decide) (by decide)) (g := (mkF m 124 #[.val (.int p0), .val (.int p1), .val (.int p2), .val (.int p3), .val (.int p4), .val (.int (2 : Int32)), .val (.int (Int32.ofNat xn)), .val (.int (Int32.ofNat yn)), .val (.int (Int32.ofNat zn)), .val (.int (((p4.toUInt32 >>> ((10 : Int32) &&& 31).toUInt32).toInt32) &&& (3 : Int32))), .val (.int (Int32.ofNat qn)), .val (.ref b58), .unset, .unset, .unset] [(.ref b58)])) rfl (by rw [hml]; rfl) (argsL := [(.ref b58)]) (rest := []) (lenOf pd_4 rfl) rfl (by show 2 * 0 + _ ≤ _; exact Nat.le_of_eq rfl) (hb hby at_124) (fun _ _ => ⟨rfl, e65, (by decide : 1 + 4 ≤ _), (by decide : 2 + 18 ≤ _)⟩)
    dsimp only [Pt.U, Pt.locs, Pt.cells, Pt.slots] at X68 l68 y68 z68 st68 hQ68
    subst l68 y68 z68
    obtain ⟨ob68, ot68, kk68, ln, hl8, hz, hp0, hp1, rfl, N68q, Kq68, g_ob68, Eq68, Fw68, Fs68, Vq68⟩ := hQ68
    have N68 := Fr.app N65 N68q
    have c69 : ∀ t, Steps p.tables e below (T68.setTop (mkF m 129 #[.val (.int p0), .val (.int p1), .val (.int p2), .val (.int p3), .val (.int p4), .val (.int (2 : Int32)), .val (.int (Int32.ofNat xn)), .val (.int (Int32.ofNat yn)), .val (.int (Int32.ofNat zn)), .val (.int (((p4.toUInt32 >>> ((10 : Int32) &&& 31).toUInt32).toInt32) &&& (3 : Int32))), .val (.int (Int32.ofNat qn)), .val (.ref b58), .val (.ref ob68), .unset, .unset] [])) t → Steps p.tables e below (T68.setTop (mkF m 127 #[.val (.int p0), .val (.int p1), .val (.int p2), .val (.int p3), .val (.int p4), .val (.int (2 : Int32)), .val (.int (Int32.ofNat xn)), .val (.int (Int32.ofNat yn)), .val (.int (Int32.ofNat zn)), .val (.int (((p4.toUInt32 >>> ((10 : Int32) &&& 31).toUInt32).toInt32) &&& (3 : Int32))), .val (.int (Int32.ofNat qn)), .val (.ref b58), .unset, .unset, .unset] [(.ref ob68)])) t := by
      intro t kt
      show Steps p.tables e below (T68.setTop (mkF m 127 #[.val (.int p0), .val (.int p1), .val (.int p2), .val (.int p3), .val (.int p4), .val (.int (2 : Int32)), .val (.int (Int32.ofNat xn)), .val (.int (Int32.ofNat yn)), .val (.int (Int32.ofNat zn)), .val (.int (((p4.toUInt32 >>> ((10 : Int32) &&& 31).toUInt32).toInt32) &&& (3 : Int32))), .val (.int (Int32.ofNat qn)), .val (.ref b58), .unset, .unset, .unset] [(.ref ob68)])) _
      refine XS.astore X68.here hx rfl (hb hby at_127) rfl rfl (l' := #[.val (.int p0), .val (.int p1), .val (.int p2), .val (.int p3), .val (.int p4), .val (.int (2 : Int32)), .val (.int (Int32.ofNat xn)), .val (.int (Int32.ofNat yn)), .val (.int (Int32.ofNat zn)), .val (.int (((p4.toUInt32 >>> ((10 : Int32) &&& 31).toUInt32).toInt32) &&& (3 : Int32))), .val (.int (Int32.ofNat qn)), .val (.ref b58), .val (.ref ob68), .unset, .unset]) rfl ?_
      exact kt
    have c70 : ∀ t, Steps p.tables e below (T68.setTop (mkF m 174 #[.val (.int p0), .val (.int p1), .val (.int p2), .val (.int p3), .val (.int p4), .val (.int (2 : Int32)), .val (.int (Int32.ofNat xn)), .val (.int (Int32.ofNat yn)), .val (.int (Int32.ofNat zn)), .val (.int (((p4.toUInt32 >>> ((10 : Int32) &&& 31).toUInt32).toInt32) &&& (3 : Int32))), .val (.int (Int32.ofNat qn)), .val (.ref b58), .val (.ref ob68), .val (.int (own_eh2 (Int32.ofNat qn) (Int32.ofNat xn) (Int32.ofNat yn))), .unset] [])) t → Steps p.tables e below (T68.setTop (mkF m 129 #[.val (.int p0), .val (.int p1), .val (.int p2), .val (.int p3), .val (.int p4), .val (.int (2 : Int32)), .val (.int (Int32.ofNat xn)), .val (.int (Int32.ofNat yn)), .val (.int (Int32.ofNat zn)), .val (.int (((p4.toUInt32 >>> ((10 : Int32) &&& 31).toUInt32).toInt32) &&& (3 : Int32))), .val (.int (Int32.ofNat qn)), .val (.ref b58), .val (.ref ob68), .unset, .unset] [])) t := by
      intro t kt
      show Steps p.tables e below (T68.setTop (mkF m 129 #[.val (.int p0), .val (.int p1), .val (.int p2), .val (.int p3), .val (.int p4), .val (.int (2 : Int32)), .val (.int (Int32.ofNat xn)), .val (.int (Int32.ofNat yn)), .val (.int (Int32.ofNat zn)), .val (.int (((p4.toUInt32 >>> ((10 : Int32) &&& 31).toUInt32).toInt32) &&& (3 : Int32))), .val (.int (Int32.ofNat qn)), .val (.ref b58), .val (.ref ob68), .unset, .unset] [])) _
      refine XS.iload X68.here hx rfl (hb hby at_129) rfl ?_
      show Steps p.tables e below (T68.setTop (mkF m 131 #[.val (.int p0), .val (.int p1), .val (.int p2), .val (.int p3), .val (.int p4), .val (.int (2 : Int32)), .val (.int (Int32.ofNat xn)), .val (.int (Int32.ofNat yn)), .val (.int (Int32.ofNat zn)), .val (.int (((p4.toUInt32 >>> ((10 : Int32) &&& 31).toUInt32).toInt32) &&& (3 : Int32))), .val (.int (Int32.ofNat qn)), .val (.ref b58), .val (.ref ob68), .unset, .unset] [(.int (2 : Int32))])) _
      refine XS.ifNo X68.here hx rfl (hb hby at_131) rfl ((if0 _ _).trans (tlt (by decide : (0 : Int32) < (2 : Int32))).2.2.2) ?_
      show Steps p.tables e below (T68.setTop (mkF m 134 #[.val (.int p0), .val (.int p1), .val (.int p2), .val (.int p3), .val (.int p4), .val (.int (2 : Int32)), .val (.int (Int32.ofNat xn)), .val (.int (Int32.ofNat yn)), .val (.int (Int32.ofNat zn)), .val (.int (((p4.toUInt32 >>> ((10 : Int32) &&& 31).toUInt32).toInt32) &&& (3 : Int32))), .val (.int (Int32.ofNat qn)), .val (.ref b58), .val (.ref ob68), .unset, .unset] [])) _
      refine XS.iload X68.here hx rfl (hb hby at_134) rfl ?_
      show Steps p.tables e below (T68.setTop (mkF m 136 #[.val (.int p0), .val (.int p1), .val (.int p2), .val (.int p3), .val (.int p4), .val (.int (2 : Int32)), .val (.int (Int32.ofNat xn)), .val (.int (Int32.ofNat yn)), .val (.int (Int32.ofNat zn)), .val (.int (((p4.toUInt32 >>> ((10 : Int32) &&& 31).toUInt32).toInt32) &&& (3 : Int32))), .val (.int (Int32.ofNat qn)), .val (.ref b58), .val (.ref ob68), .unset, .unset] [(.int (Int32.ofNat qn))])) _
      refine XS.iload X68.here hx rfl (hb hby at_136) rfl ?_
      by_cases hc138 : (Int32.ofNat qn) = (Int32.ofNat xn)
      · -- it is
        show Steps p.tables e below (T68.setTop (mkF m 138 #[.val (.int p0), .val (.int p1), .val (.int p2), .val (.int p3), .val (.int p4), .val (.int (2 : Int32)), .val (.int (Int32.ofNat xn)), .val (.int (Int32.ofNat yn)), .val (.int (Int32.ofNat zn)), .val (.int (((p4.toUInt32 >>> ((10 : Int32) &&& 31).toUInt32).toInt32) &&& (3 : Int32))), .val (.int (Int32.ofNat qn)), .val (.ref b58), .val (.ref ob68), .unset, .unset] [(.int (Int32.ofNat xn)), (.int (Int32.ofNat qn))])) _
        refine XS.icmpYes X68.here hx rfl (pc0 := 138) (pc' := 167) rfl (hb hby at_138) rfl (teq hc138).1 (by decide) (by decide) ?_
        show Steps p.tables e below (T68.setTop (mkF m 167 #[.val (.int p0), .val (.int p1), .val (.int p2), .val (.int p3), .val (.int p4), .val (.int (2 : Int32)), .val (.int (Int32.ofNat xn)), .val (.int (Int32.ofNat yn)), .val (.int (Int32.ofNat zn)), .val (.int (((p4.toUInt32 >>> ((10 : Int32) &&& 31).toUInt32).toInt32) &&& (3 : Int32))), .val (.int (Int32.ofNat qn)), .val (.ref b58), .val (.ref ob68), .unset, .unset] [])) _
        refine XS.iconst X68.here hx rfl (hb hby at_167) ?_
        show Steps p.tables e below (T68.setTop (mkF m 168 #[.val (.int p0), .val (.int p1), .val (.int p2), .val (.int p3), .val (.int p4), .val (.int (2 : Int32)), .val (.int (Int32.ofNat xn)), .val (.int (Int32.ofNat yn)), .val (.int (Int32.ofNat zn)), .val (.int (((p4.toUInt32 >>> ((10 : Int32) &&& 31).toUInt32).toInt32) &&& (3 : Int32))), .val (.int (Int32.ofNat qn)), .val (.ref b58), .val (.ref ob68), .unset, .unset] [(.int (1 : Int32))])) _
        refine XS.goto X68.here hx rfl (pc0 := 168) (pc' := 172) rfl (hb hby at_168) (by decide) (by decide) ?_
        show Steps p.tables e below (T68.setTop (mkF m 172 #[.val (.int p0), .val (.int p1), .val (.int p2), .val (.int p3), .val (.int p4), .val (.int (2 : Int32)), .val (.int (Int32.ofNat xn)), .val (.int (Int32.ofNat yn)), .val (.int (Int32.ofNat zn)), .val (.int (((p4.toUInt32 >>> ((10 : Int32) &&& 31).toUInt32).toInt32) &&& (3 : Int32))), .val (.int (Int32.ofNat qn)), .val (.ref b58), .val (.ref ob68), .unset, .unset] [(.int (1 : Int32))])) _
        refine XS.istore X68.here hx rfl (hb hby at_172) rfl (l' := #[.val (.int p0), .val (.int p1), .val (.int p2), .val (.int p3), .val (.int p4), .val (.int (2 : Int32)), .val (.int (Int32.ofNat xn)), .val (.int (Int32.ofNat yn)), .val (.int (Int32.ofNat zn)), .val (.int (((p4.toUInt32 >>> ((10 : Int32) &&& 31).toUInt32).toInt32) &&& (3 : Int32))), .val (.int (Int32.ofNat qn)), .val (.ref b58), .val (.ref ob68), .val (.int (1 : Int32)), .unset]) rfl ?_
        rw [show (own_eh2 (Int32.ofNat qn) (Int32.ofNat xn) (Int32.ofNat yn)) = (1 : Int32) from by unfold own_eh2; rw [if_pos hc138]] at kt
        exact kt
      · -- it isn't
        show Steps p.tables e below (T68.setTop (mkF m 138 #[.val (.int p0), .val (.int p1), .val (.int p2), .val (.int p3), .val (.int p4), .val (.int (2 : Int32)), .val (.int (Int32.ofNat xn)), .val (.int (Int32.ofNat yn)), .val (.int (Int32.ofNat zn)), .val (.int (((p4.toUInt32 >>> ((10 : Int32) &&& 31).toUInt32).toInt32) &&& (3 : Int32))), .val (.int (Int32.ofNat qn)), .val (.ref b58), .val (.ref ob68), .unset, .unset] [(.int (Int32.ofNat xn)), (.int (Int32.ofNat qn))])) _
        refine XS.icmpNo X68.here hx rfl (hb hby at_138) rfl (feq hc138).1 ?_
        show Steps p.tables e below (T68.setTop (mkF m 141 #[.val (.int p0), .val (.int p1), .val (.int p2), .val (.int p3), .val (.int p4), .val (.int (2 : Int32)), .val (.int (Int32.ofNat xn)), .val (.int (Int32.ofNat yn)), .val (.int (Int32.ofNat zn)), .val (.int (((p4.toUInt32 >>> ((10 : Int32) &&& 31).toUInt32).toInt32) &&& (3 : Int32))), .val (.int (Int32.ofNat qn)), .val (.ref b58), .val (.ref ob68), .unset, .unset] [])) _
        refine XS.iload X68.here hx rfl (hb hby at_141) rfl ?_
        show Steps p.tables e below (T68.setTop (mkF m 143 #[.val (.int p0), .val (.int p1), .val (.int p2), .val (.int p3), .val (.int p4), .val (.int (2 : Int32)), .val (.int (Int32.ofNat xn)), .val (.int (Int32.ofNat yn)), .val (.int (Int32.ofNat zn)), .val (.int (((p4.toUInt32 >>> ((10 : Int32) &&& 31).toUInt32).toInt32) &&& (3 : Int32))), .val (.int (Int32.ofNat qn)), .val (.ref b58), .val (.ref ob68), .unset, .unset] [(.int (2 : Int32))])) _
        refine XS.iconst X68.here hx rfl (hb hby at_143) ?_
        show Steps p.tables e below (T68.setTop (mkF m 144 #[.val (.int p0), .val (.int p1), .val (.int p2), .val (.int p3), .val (.int p4), .val (.int (2 : Int32)), .val (.int (Int32.ofNat xn)), .val (.int (Int32.ofNat yn)), .val (.int (Int32.ofNat zn)), .val (.int (((p4.toUInt32 >>> ((10 : Int32) &&& 31).toUInt32).toInt32) &&& (3 : Int32))), .val (.int (Int32.ofNat qn)), .val (.ref b58), .val (.ref ob68), .unset, .unset] [(.int (1 : Int32)), (.int (2 : Int32))])) _
        refine XS.icmpNo X68.here hx rfl (hb hby at_144) rfl (tlt (by decide : (1 : Int32) < (2 : Int32))).2.2.2 ?_
        show Steps p.tables e below (T68.setTop (mkF m 147 #[.val (.int p0), .val (.int p1), .val (.int p2), .val (.int p3), .val (.int p4), .val (.int (2 : Int32)), .val (.int (Int32.ofNat xn)), .val (.int (Int32.ofNat yn)), .val (.int (Int32.ofNat zn)), .val (.int (((p4.toUInt32 >>> ((10 : Int32) &&& 31).toUInt32).toInt32) &&& (3 : Int32))), .val (.int (Int32.ofNat qn)), .val (.ref b58), .val (.ref ob68), .unset, .unset] [])) _
        refine XS.iload X68.here hx rfl (hb hby at_147) rfl ?_
        show Steps p.tables e below (T68.setTop (mkF m 149 #[.val (.int p0), .val (.int p1), .val (.int p2), .val (.int p3), .val (.int p4), .val (.int (2 : Int32)), .val (.int (Int32.ofNat xn)), .val (.int (Int32.ofNat yn)), .val (.int (Int32.ofNat zn)), .val (.int (((p4.toUInt32 >>> ((10 : Int32) &&& 31).toUInt32).toInt32) &&& (3 : Int32))), .val (.int (Int32.ofNat qn)), .val (.ref b58), .val (.ref ob68), .unset, .unset] [(.int (Int32.ofNat qn))])) _
        refine XS.iload X68.here hx rfl (hb hby at_149) rfl ?_
        by_cases hc151 : (Int32.ofNat qn) = (Int32.ofNat yn)
        · -- it is
          show Steps p.tables e below (T68.setTop (mkF m 151 #[.val (.int p0), .val (.int p1), .val (.int p2), .val (.int p3), .val (.int p4), .val (.int (2 : Int32)), .val (.int (Int32.ofNat xn)), .val (.int (Int32.ofNat yn)), .val (.int (Int32.ofNat zn)), .val (.int (((p4.toUInt32 >>> ((10 : Int32) &&& 31).toUInt32).toInt32) &&& (3 : Int32))), .val (.int (Int32.ofNat qn)), .val (.ref b58), .val (.ref ob68), .unset, .unset] [(.int (Int32.ofNat yn)), (.int (Int32.ofNat qn))])) _
          refine XS.icmpYes X68.here hx rfl (pc0 := 151) (pc' := 167) rfl (hb hby at_151) rfl (teq hc151).1 (by decide) (by decide) ?_
          show Steps p.tables e below (T68.setTop (mkF m 167 #[.val (.int p0), .val (.int p1), .val (.int p2), .val (.int p3), .val (.int p4), .val (.int (2 : Int32)), .val (.int (Int32.ofNat xn)), .val (.int (Int32.ofNat yn)), .val (.int (Int32.ofNat zn)), .val (.int (((p4.toUInt32 >>> ((10 : Int32) &&& 31).toUInt32).toInt32) &&& (3 : Int32))), .val (.int (Int32.ofNat qn)), .val (.ref b58), .val (.ref ob68), .unset, .unset] [])) _
          refine XS.iconst X68.here hx rfl (hb hby at_167) ?_
          show Steps p.tables e below (T68.setTop (mkF m 168 #[.val (.int p0), .val (.int p1), .val (.int p2), .val (.int p3), .val (.int p4), .val (.int (2 : Int32)), .val (.int (Int32.ofNat xn)), .val (.int (Int32.ofNat yn)), .val (.int (Int32.ofNat zn)), .val (.int (((p4.toUInt32 >>> ((10 : Int32) &&& 31).toUInt32).toInt32) &&& (3 : Int32))), .val (.int (Int32.ofNat qn)), .val (.ref b58), .val (.ref ob68), .unset, .unset] [(.int (1 : Int32))])) _
          refine XS.goto X68.here hx rfl (pc0 := 168) (pc' := 172) rfl (hb hby at_168) (by decide) (by decide) ?_
          show Steps p.tables e below (T68.setTop (mkF m 172 #[.val (.int p0), .val (.int p1), .val (.int p2), .val (.int p3), .val (.int p4), .val (.int (2 : Int32)), .val (.int (Int32.ofNat xn)), .val (.int (Int32.ofNat yn)), .val (.int (Int32.ofNat zn)), .val (.int (((p4.toUInt32 >>> ((10 : Int32) &&& 31).toUInt32).toInt32) &&& (3 : Int32))), .val (.int (Int32.ofNat qn)), .val (.ref b58), .val (.ref ob68), .unset, .unset] [(.int (1 : Int32))])) _
          refine XS.istore X68.here hx rfl (hb hby at_172) rfl (l' := #[.val (.int p0), .val (.int p1), .val (.int p2), .val (.int p3), .val (.int p4), .val (.int (2 : Int32)), .val (.int (Int32.ofNat xn)), .val (.int (Int32.ofNat yn)), .val (.int (Int32.ofNat zn)), .val (.int (((p4.toUInt32 >>> ((10 : Int32) &&& 31).toUInt32).toInt32) &&& (3 : Int32))), .val (.int (Int32.ofNat qn)), .val (.ref b58), .val (.ref ob68), .val (.int (1 : Int32)), .unset]) rfl ?_
          rw [show (own_eh2 (Int32.ofNat qn) (Int32.ofNat xn) (Int32.ofNat yn)) = (1 : Int32) from by unfold own_eh2; rw [if_neg hc138, if_pos hc151]] at kt
          exact kt
        · -- it isn't
          show Steps p.tables e below (T68.setTop (mkF m 151 #[.val (.int p0), .val (.int p1), .val (.int p2), .val (.int p3), .val (.int p4), .val (.int (2 : Int32)), .val (.int (Int32.ofNat xn)), .val (.int (Int32.ofNat yn)), .val (.int (Int32.ofNat zn)), .val (.int (((p4.toUInt32 >>> ((10 : Int32) &&& 31).toUInt32).toInt32) &&& (3 : Int32))), .val (.int (Int32.ofNat qn)), .val (.ref b58), .val (.ref ob68), .unset, .unset] [(.int (Int32.ofNat yn)), (.int (Int32.ofNat qn))])) _
          refine XS.icmpNo X68.here hx rfl (hb hby at_151) rfl (feq hc151).1 ?_
          show Steps p.tables e below (T68.setTop (mkF m 154 #[.val (.int p0), .val (.int p1), .val (.int p2), .val (.int p3), .val (.int p4), .val (.int (2 : Int32)), .val (.int (Int32.ofNat xn)), .val (.int (Int32.ofNat yn)), .val (.int (Int32.ofNat zn)), .val (.int (((p4.toUInt32 >>> ((10 : Int32) &&& 31).toUInt32).toInt32) &&& (3 : Int32))), .val (.int (Int32.ofNat qn)), .val (.ref b58), .val (.ref ob68), .unset, .unset] [])) _
          refine XS.iload X68.here hx rfl (hb hby at_154) rfl ?_
          show Steps p.tables e below (T68.setTop (mkF m 156 #[.val (.int p0), .val (.int p1), .val (.int p2), .val (.int p3), .val (.int p4), .val (.int (2 : Int32)), .val (.int (Int32.ofNat xn)), .val (.int (Int32.ofNat yn)), .val (.int (Int32.ofNat zn)), .val (.int (((p4.toUInt32 >>> ((10 : Int32) &&& 31).toUInt32).toInt32) &&& (3 : Int32))), .val (.int (Int32.ofNat qn)), .val (.ref b58), .val (.ref ob68), .unset, .unset] [(.int (2 : Int32))])) _
          refine XS.iconst X68.here hx rfl (hb hby at_156) ?_
          show Steps p.tables e below (T68.setTop (mkF m 157 #[.val (.int p0), .val (.int p1), .val (.int p2), .val (.int p3), .val (.int p4), .val (.int (2 : Int32)), .val (.int (Int32.ofNat xn)), .val (.int (Int32.ofNat yn)), .val (.int (Int32.ofNat zn)), .val (.int (((p4.toUInt32 >>> ((10 : Int32) &&& 31).toUInt32).toInt32) &&& (3 : Int32))), .val (.int (Int32.ofNat qn)), .val (.ref b58), .val (.ref ob68), .unset, .unset] [(.int (2 : Int32)), (.int (2 : Int32))])) _
          refine XS.icmpYes X68.here hx rfl (pc0 := 157) (pc' := 171) rfl (hb hby at_157) rfl (flt (by decide : ¬ ((2 : Int32) < (2 : Int32)))).2.2.2 (by decide) (by decide) ?_
          show Steps p.tables e below (T68.setTop (mkF m 171 #[.val (.int p0), .val (.int p1), .val (.int p2), .val (.int p3), .val (.int p4), .val (.int (2 : Int32)), .val (.int (Int32.ofNat xn)), .val (.int (Int32.ofNat yn)), .val (.int (Int32.ofNat zn)), .val (.int (((p4.toUInt32 >>> ((10 : Int32) &&& 31).toUInt32).toInt32) &&& (3 : Int32))), .val (.int (Int32.ofNat qn)), .val (.ref b58), .val (.ref ob68), .unset, .unset] [])) _
          refine XS.iconst X68.here hx rfl (hb hby at_171) ?_
          show Steps p.tables e below (T68.setTop (mkF m 172 #[.val (.int p0), .val (.int p1), .val (.int p2), .val (.int p3), .val (.int p4), .val (.int (2 : Int32)), .val (.int (Int32.ofNat xn)), .val (.int (Int32.ofNat yn)), .val (.int (Int32.ofNat zn)), .val (.int (((p4.toUInt32 >>> ((10 : Int32) &&& 31).toUInt32).toInt32) &&& (3 : Int32))), .val (.int (Int32.ofNat qn)), .val (.ref b58), .val (.ref ob68), .unset, .unset] [(.int (0 : Int32))])) _
          refine XS.istore X68.here hx rfl (hb hby at_172) rfl (l' := #[.val (.int p0), .val (.int p1), .val (.int p2), .val (.int p3), .val (.int p4), .val (.int (2 : Int32)), .val (.int (Int32.ofNat xn)), .val (.int (Int32.ofNat yn)), .val (.int (Int32.ofNat zn)), .val (.int (((p4.toUInt32 >>> ((10 : Int32) &&& 31).toUInt32).toInt32) &&& (3 : Int32))), .val (.int (Int32.ofNat qn)), .val (.ref b58), .val (.ref ob68), .val (.int (0 : Int32)), .unset]) rfl ?_
          rw [show (own_eh2 (Int32.ofNat qn) (Int32.ofNat xn) (Int32.ofNat yn)) = (0 : Int32) from by unfold own_eh2; rw [if_neg hc138, if_neg hc151]] at kt
          exact kt
    have c71 : ∀ t, Steps p.tables e below (T68.setTop (mkF m 233 #[.val (.int p0), .val (.int p1), .val (.int p2), .val (.int p3), .val (.int p4), .val (.int (2 : Int32)), .val (.int (Int32.ofNat xn)), .val (.int (Int32.ofNat yn)), .val (.int (Int32.ofNat zn)), .val (.int (((p4.toUInt32 >>> ((10 : Int32) &&& 31).toUInt32).toInt32) &&& (3 : Int32))), .val (.int (Int32.ofNat qn)), .val (.ref b58), .val (.ref ob68), .val (.int (own_eh2 (Int32.ofNat qn) (Int32.ofNat xn) (Int32.ofNat yn))), .val (.int (own_es2 (Int32.ofNat xn) (Int32.ofNat yn)))] [])) t → Steps p.tables e below (T68.setTop (mkF m 174 #[.val (.int p0), .val (.int p1), .val (.int p2), .val (.int p3), .val (.int p4), .val (.int (2 : Int32)), .val (.int (Int32.ofNat xn)), .val (.int (Int32.ofNat yn)), .val (.int (Int32.ofNat zn)), .val (.int (((p4.toUInt32 >>> ((10 : Int32) &&& 31).toUInt32).toInt32) &&& (3 : Int32))), .val (.int (Int32.ofNat qn)), .val (.ref b58), .val (.ref ob68), .val (.int (own_eh2 (Int32.ofNat qn) (Int32.ofNat xn) (Int32.ofNat yn))), .unset] [])) t := by
      intro t kt
      show Steps p.tables e below (T68.setTop (mkF m 174 #[.val (.int p0), .val (.int p1), .val (.int p2), .val (.int p3), .val (.int p4), .val (.int (2 : Int32)), .val (.int (Int32.ofNat xn)), .val (.int (Int32.ofNat yn)), .val (.int (Int32.ofNat zn)), .val (.int (((p4.toUInt32 >>> ((10 : Int32) &&& 31).toUInt32).toInt32) &&& (3 : Int32))), .val (.int (Int32.ofNat qn)), .val (.ref b58), .val (.ref ob68), .val (.int (own_eh2 (Int32.ofNat qn) (Int32.ofNat xn) (Int32.ofNat yn))), .unset] [])) _
      refine XS.iconst X68.here hx rfl (hb hby at_174) ?_
      show Steps p.tables e below (T68.setTop (mkF m 175 #[.val (.int p0), .val (.int p1), .val (.int p2), .val (.int p3), .val (.int p4), .val (.int (2 : Int32)), .val (.int (Int32.ofNat xn)), .val (.int (Int32.ofNat yn)), .val (.int (Int32.ofNat zn)), .val (.int (((p4.toUInt32 >>> ((10 : Int32) &&& 31).toUInt32).toInt32) &&& (3 : Int32))), .val (.int (Int32.ofNat qn)), .val (.ref b58), .val (.ref ob68), .val (.int (own_eh2 (Int32.ofNat qn) (Int32.ofNat xn) (Int32.ofNat yn))), .unset] [(.int (0 : Int32))])) _
      refine XS.istore X68.here hx rfl (hb hby at_175) rfl (l' := #[.val (.int p0), .val (.int p1), .val (.int p2), .val (.int p3), .val (.int p4), .val (.int (2 : Int32)), .val (.int (Int32.ofNat xn)), .val (.int (Int32.ofNat yn)), .val (.int (Int32.ofNat zn)), .val (.int (((p4.toUInt32 >>> ((10 : Int32) &&& 31).toUInt32).toInt32) &&& (3 : Int32))), .val (.int (Int32.ofNat qn)), .val (.ref b58), .val (.ref ob68), .val (.int (own_eh2 (Int32.ofNat qn) (Int32.ofNat xn) (Int32.ofNat yn))), .val (.int (0 : Int32))]) rfl ?_
      show Steps p.tables e below (T68.setTop (mkF m 177 #[.val (.int p0), .val (.int p1), .val (.int p2), .val (.int p3), .val (.int p4), .val (.int (2 : Int32)), .val (.int (Int32.ofNat xn)), .val (.int (Int32.ofNat yn)), .val (.int (Int32.ofNat zn)), .val (.int (((p4.toUInt32 >>> ((10 : Int32) &&& 31).toUInt32).toInt32) &&& (3 : Int32))), .val (.int (Int32.ofNat qn)), .val (.ref b58), .val (.ref ob68), .val (.int (own_eh2 (Int32.ofNat qn) (Int32.ofNat xn) (Int32.ofNat yn))), .val (.int (0 : Int32))] [])) _
      refine XS.iload X68.here hx rfl (hb hby at_177) rfl ?_
      show Steps p.tables e below (T68.setTop (mkF m 179 #[.val (.int p0), .val (.int p1), .val (.int p2), .val (.int p3), .val (.int p4), .val (.int (2 : Int32)), .val (.int (Int32.ofNat xn)), .val (.int (Int32.ofNat yn)), .val (.int (Int32.ofNat zn)), .val (.int (((p4.toUInt32 >>> ((10 : Int32) &&& 31).toUInt32).toInt32) &&& (3 : Int32))), .val (.int (Int32.ofNat qn)), .val (.ref b58), .val (.ref ob68), .val (.int (own_eh2 (Int32.ofNat qn) (Int32.ofNat xn) (Int32.ofNat yn))), .val (.int (0 : Int32))] [(.int (2 : Int32))])) _
      refine XS.ifNo X68.here hx rfl (hb hby at_179) rfl ((if0 _ _).trans (tlt (by decide : (0 : Int32) < (2 : Int32))).2.2.2) ?_
      show Steps p.tables e below (T68.setTop (mkF m 182 #[.val (.int p0), .val (.int p1), .val (.int p2), .val (.int p3), .val (.int p4), .val (.int (2 : Int32)), .val (.int (Int32.ofNat xn)), .val (.int (Int32.ofNat yn)), .val (.int (Int32.ofNat zn)), .val (.int (((p4.toUInt32 >>> ((10 : Int32) &&& 31).toUInt32).toInt32) &&& (3 : Int32))), .val (.int (Int32.ofNat qn)), .val (.ref b58), .val (.ref ob68), .val (.int (own_eh2 (Int32.ofNat qn) (Int32.ofNat xn) (Int32.ofNat yn))), .val (.int (0 : Int32))] [])) _
      refine XS.iload X68.here hx rfl (hb hby at_182) rfl ?_
      show Steps p.tables e below (T68.setTop (mkF m 184 #[.val (.int p0), .val (.int p1), .val (.int p2), .val (.int p3), .val (.int p4), .val (.int (2 : Int32)), .val (.int (Int32.ofNat xn)), .val (.int (Int32.ofNat yn)), .val (.int (Int32.ofNat zn)), .val (.int (((p4.toUInt32 >>> ((10 : Int32) &&& 31).toUInt32).toInt32) &&& (3 : Int32))), .val (.int (Int32.ofNat qn)), .val (.ref b58), .val (.ref ob68), .val (.int (own_eh2 (Int32.ofNat qn) (Int32.ofNat xn) (Int32.ofNat yn))), .val (.int (0 : Int32))] [(.int (0 : Int32))])) _
      refine XS.iconst X68.here hx rfl (hb hby at_184) ?_
      show Steps p.tables e below (T68.setTop (mkF m 185 #[.val (.int p0), .val (.int p1), .val (.int p2), .val (.int p3), .val (.int p4), .val (.int (2 : Int32)), .val (.int (Int32.ofNat xn)), .val (.int (Int32.ofNat yn)), .val (.int (Int32.ofNat zn)), .val (.int (((p4.toUInt32 >>> ((10 : Int32) &&& 31).toUInt32).toInt32) &&& (3 : Int32))), .val (.int (Int32.ofNat qn)), .val (.ref b58), .val (.ref ob68), .val (.int (own_eh2 (Int32.ofNat qn) (Int32.ofNat xn) (Int32.ofNat yn))), .val (.int (0 : Int32))] [(.int (1 : Int32)), (.int (0 : Int32))])) _
      refine XS.iadd X68.here hx rfl (hb hby at_185) rfl ?_
      show Steps p.tables e below (T68.setTop (mkF m 186 #[.val (.int p0), .val (.int p1), .val (.int p2), .val (.int p3), .val (.int p4), .val (.int (2 : Int32)), .val (.int (Int32.ofNat xn)), .val (.int (Int32.ofNat yn)), .val (.int (Int32.ofNat zn)), .val (.int (((p4.toUInt32 >>> ((10 : Int32) &&& 31).toUInt32).toInt32) &&& (3 : Int32))), .val (.int (Int32.ofNat qn)), .val (.ref b58), .val (.ref ob68), .val (.int (own_eh2 (Int32.ofNat qn) (Int32.ofNat xn) (Int32.ofNat yn))), .val (.int (0 : Int32))] [(.int ((0 : Int32) + (1 : Int32)))])) _
      refine XS.istore X68.here hx rfl (hb hby at_186) rfl (l' := #[.val (.int p0), .val (.int p1), .val (.int p2), .val (.int p3), .val (.int p4), .val (.int (2 : Int32)), .val (.int (Int32.ofNat xn)), .val (.int (Int32.ofNat yn)), .val (.int (Int32.ofNat zn)), .val (.int (((p4.toUInt32 >>> ((10 : Int32) &&& 31).toUInt32).toInt32) &&& (3 : Int32))), .val (.int (Int32.ofNat qn)), .val (.ref b58), .val (.ref ob68), .val (.int (own_eh2 (Int32.ofNat qn) (Int32.ofNat xn) (Int32.ofNat yn))), .val (.int ((0 : Int32) + (1 : Int32)))]) rfl ?_
      show Steps p.tables e below (T68.setTop (mkF m 188 #[.val (.int p0), .val (.int p1), .val (.int p2), .val (.int p3), .val (.int p4), .val (.int (2 : Int32)), .val (.int (Int32.ofNat xn)), .val (.int (Int32.ofNat yn)), .val (.int (Int32.ofNat zn)), .val (.int (((p4.toUInt32 >>> ((10 : Int32) &&& 31).toUInt32).toInt32) &&& (3 : Int32))), .val (.int (Int32.ofNat qn)), .val (.ref b58), .val (.ref ob68), .val (.int (own_eh2 (Int32.ofNat qn) (Int32.ofNat xn) (Int32.ofNat yn))), .val (.int ((0 : Int32) + (1 : Int32)))] [])) _
      refine XS.iload X68.here hx rfl (hb hby at_188) rfl ?_
      show Steps p.tables e below (T68.setTop (mkF m 190 #[.val (.int p0), .val (.int p1), .val (.int p2), .val (.int p3), .val (.int p4), .val (.int (2 : Int32)), .val (.int (Int32.ofNat xn)), .val (.int (Int32.ofNat yn)), .val (.int (Int32.ofNat zn)), .val (.int (((p4.toUInt32 >>> ((10 : Int32) &&& 31).toUInt32).toInt32) &&& (3 : Int32))), .val (.int (Int32.ofNat qn)), .val (.ref b58), .val (.ref ob68), .val (.int (own_eh2 (Int32.ofNat qn) (Int32.ofNat xn) (Int32.ofNat yn))), .val (.int ((0 : Int32) + (1 : Int32)))] [(.int (2 : Int32))])) _
      refine XS.iconst X68.here hx rfl (hb hby at_190) ?_
      show Steps p.tables e below (T68.setTop (mkF m 191 #[.val (.int p0), .val (.int p1), .val (.int p2), .val (.int p3), .val (.int p4), .val (.int (2 : Int32)), .val (.int (Int32.ofNat xn)), .val (.int (Int32.ofNat yn)), .val (.int (Int32.ofNat zn)), .val (.int (((p4.toUInt32 >>> ((10 : Int32) &&& 31).toUInt32).toInt32) &&& (3 : Int32))), .val (.int (Int32.ofNat qn)), .val (.ref b58), .val (.ref ob68), .val (.int (own_eh2 (Int32.ofNat qn) (Int32.ofNat xn) (Int32.ofNat yn))), .val (.int ((0 : Int32) + (1 : Int32)))] [(.int (1 : Int32)), (.int (2 : Int32))])) _
      refine XS.icmpNo X68.here hx rfl (hb hby at_191) rfl (tlt (by decide : (1 : Int32) < (2 : Int32))).2.2.2 ?_
      show Steps p.tables e below (T68.setTop (mkF m 194 #[.val (.int p0), .val (.int p1), .val (.int p2), .val (.int p3), .val (.int p4), .val (.int (2 : Int32)), .val (.int (Int32.ofNat xn)), .val (.int (Int32.ofNat yn)), .val (.int (Int32.ofNat zn)), .val (.int (((p4.toUInt32 >>> ((10 : Int32) &&& 31).toUInt32).toInt32) &&& (3 : Int32))), .val (.int (Int32.ofNat qn)), .val (.ref b58), .val (.ref ob68), .val (.int (own_eh2 (Int32.ofNat qn) (Int32.ofNat xn) (Int32.ofNat yn))), .val (.int ((0 : Int32) + (1 : Int32)))] [])) _
      refine XS.iload X68.here hx rfl (hb hby at_194) rfl ?_
      show Steps p.tables e below (T68.setTop (mkF m 196 #[.val (.int p0), .val (.int p1), .val (.int p2), .val (.int p3), .val (.int p4), .val (.int (2 : Int32)), .val (.int (Int32.ofNat xn)), .val (.int (Int32.ofNat yn)), .val (.int (Int32.ofNat zn)), .val (.int (((p4.toUInt32 >>> ((10 : Int32) &&& 31).toUInt32).toInt32) &&& (3 : Int32))), .val (.int (Int32.ofNat qn)), .val (.ref b58), .val (.ref ob68), .val (.int (own_eh2 (Int32.ofNat qn) (Int32.ofNat xn) (Int32.ofNat yn))), .val (.int ((0 : Int32) + (1 : Int32)))] [(.int (Int32.ofNat yn))])) _
      refine XS.iload X68.here hx rfl (hb hby at_196) rfl ?_
      by_cases hc198 : (Int32.ofNat yn) = (Int32.ofNat xn)
      · -- it is
        show Steps p.tables e below (T68.setTop (mkF m 198 #[.val (.int p0), .val (.int p1), .val (.int p2), .val (.int p3), .val (.int p4), .val (.int (2 : Int32)), .val (.int (Int32.ofNat xn)), .val (.int (Int32.ofNat yn)), .val (.int (Int32.ofNat zn)), .val (.int (((p4.toUInt32 >>> ((10 : Int32) &&& 31).toUInt32).toInt32) &&& (3 : Int32))), .val (.int (Int32.ofNat qn)), .val (.ref b58), .val (.ref ob68), .val (.int (own_eh2 (Int32.ofNat qn) (Int32.ofNat xn) (Int32.ofNat yn))), .val (.int ((0 : Int32) + (1 : Int32)))] [(.int (Int32.ofNat xn)), (.int (Int32.ofNat yn))])) _
        refine XS.icmpYes X68.here hx rfl (pc0 := 198) (pc' := 207) rfl (hb hby at_198) rfl (teq hc198).1 (by decide) (by decide) ?_
        show Steps p.tables e below (T68.setTop (mkF m 207 #[.val (.int p0), .val (.int p1), .val (.int p2), .val (.int p3), .val (.int p4), .val (.int (2 : Int32)), .val (.int (Int32.ofNat xn)), .val (.int (Int32.ofNat yn)), .val (.int (Int32.ofNat zn)), .val (.int (((p4.toUInt32 >>> ((10 : Int32) &&& 31).toUInt32).toInt32) &&& (3 : Int32))), .val (.int (Int32.ofNat qn)), .val (.ref b58), .val (.ref ob68), .val (.int (own_eh2 (Int32.ofNat qn) (Int32.ofNat xn) (Int32.ofNat yn))), .val (.int ((0 : Int32) + (1 : Int32)))] [])) _
        refine XS.iload X68.here hx rfl (hb hby at_207) rfl ?_
        show Steps p.tables e below (T68.setTop (mkF m 209 #[.val (.int p0), .val (.int p1), .val (.int p2), .val (.int p3), .val (.int p4), .val (.int (2 : Int32)), .val (.int (Int32.ofNat xn)), .val (.int (Int32.ofNat yn)), .val (.int (Int32.ofNat zn)), .val (.int (((p4.toUInt32 >>> ((10 : Int32) &&& 31).toUInt32).toInt32) &&& (3 : Int32))), .val (.int (Int32.ofNat qn)), .val (.ref b58), .val (.ref ob68), .val (.int (own_eh2 (Int32.ofNat qn) (Int32.ofNat xn) (Int32.ofNat yn))), .val (.int ((0 : Int32) + (1 : Int32)))] [(.int (2 : Int32))])) _
        refine XS.iconst X68.here hx rfl (hb hby at_209) ?_
        show Steps p.tables e below (T68.setTop (mkF m 210 #[.val (.int p0), .val (.int p1), .val (.int p2), .val (.int p3), .val (.int p4), .val (.int (2 : Int32)), .val (.int (Int32.ofNat xn)), .val (.int (Int32.ofNat yn)), .val (.int (Int32.ofNat zn)), .val (.int (((p4.toUInt32 >>> ((10 : Int32) &&& 31).toUInt32).toInt32) &&& (3 : Int32))), .val (.int (Int32.ofNat qn)), .val (.ref b58), .val (.ref ob68), .val (.int (own_eh2 (Int32.ofNat qn) (Int32.ofNat xn) (Int32.ofNat yn))), .val (.int ((0 : Int32) + (1 : Int32)))] [(.int (2 : Int32)), (.int (2 : Int32))])) _
        refine XS.icmpYes X68.here hx rfl (pc0 := 210) (pc' := 233) rfl (hb hby at_210) rfl (flt (by decide : ¬ ((2 : Int32) < (2 : Int32)))).2.2.2 (by decide) (by decide) ?_
        rw [show (own_es2 (Int32.ofNat xn) (Int32.ofNat yn)) = ((0 : Int32) + (1 : Int32)) from by unfold own_es2; rw [if_pos hc198]; decide] at kt
        exact kt
      · -- it isn't
        show Steps p.tables e below (T68.setTop (mkF m 198 #[.val (.int p0), .val (.int p1), .val (.int p2), .val (.int p3), .val (.int p4), .val (.int (2 : Int32)), .val (.int (Int32.ofNat xn)), .val (.int (Int32.ofNat yn)), .val (.int (Int32.ofNat zn)), .val (.int (((p4.toUInt32 >>> ((10 : Int32) &&& 31).toUInt32).toInt32) &&& (3 : Int32))), .val (.int (Int32.ofNat qn)), .val (.ref b58), .val (.ref ob68), .val (.int (own_eh2 (Int32.ofNat qn) (Int32.ofNat xn) (Int32.ofNat yn))), .val (.int ((0 : Int32) + (1 : Int32)))] [(.int (Int32.ofNat xn)), (.int (Int32.ofNat yn))])) _
        refine XS.icmpNo X68.here hx rfl (hb hby at_198) rfl (feq hc198).1 ?_
        show Steps p.tables e below (T68.setTop (mkF m 201 #[.val (.int p0), .val (.int p1), .val (.int p2), .val (.int p3), .val (.int p4), .val (.int (2 : Int32)), .val (.int (Int32.ofNat xn)), .val (.int (Int32.ofNat yn)), .val (.int (Int32.ofNat zn)), .val (.int (((p4.toUInt32 >>> ((10 : Int32) &&& 31).toUInt32).toInt32) &&& (3 : Int32))), .val (.int (Int32.ofNat qn)), .val (.ref b58), .val (.ref ob68), .val (.int (own_eh2 (Int32.ofNat qn) (Int32.ofNat xn) (Int32.ofNat yn))), .val (.int ((0 : Int32) + (1 : Int32)))] [])) _
        refine XS.iload X68.here hx rfl (hb hby at_201) rfl ?_
        show Steps p.tables e below (T68.setTop (mkF m 203 #[.val (.int p0), .val (.int p1), .val (.int p2), .val (.int p3), .val (.int p4), .val (.int (2 : Int32)), .val (.int (Int32.ofNat xn)), .val (.int (Int32.ofNat yn)), .val (.int (Int32.ofNat zn)), .val (.int (((p4.toUInt32 >>> ((10 : Int32) &&& 31).toUInt32).toInt32) &&& (3 : Int32))), .val (.int (Int32.ofNat qn)), .val (.ref b58), .val (.ref ob68), .val (.int (own_eh2 (Int32.ofNat qn) (Int32.ofNat xn) (Int32.ofNat yn))), .val (.int ((0 : Int32) + (1 : Int32)))] [(.int ((0 : Int32) + (1 : Int32)))])) _
        refine XS.iconst X68.here hx rfl (hb hby at_203) ?_
        show Steps p.tables e below (T68.setTop (mkF m 204 #[.val (.int p0), .val (.int p1), .val (.int p2), .val (.int p3), .val (.int p4), .val (.int (2 : Int32)), .val (.int (Int32.ofNat xn)), .val (.int (Int32.ofNat yn)), .val (.int (Int32.ofNat zn)), .val (.int (((p4.toUInt32 >>> ((10 : Int32) &&& 31).toUInt32).toInt32) &&& (3 : Int32))), .val (.int (Int32.ofNat qn)), .val (.ref b58), .val (.ref ob68), .val (.int (own_eh2 (Int32.ofNat qn) (Int32.ofNat xn) (Int32.ofNat yn))), .val (.int ((0 : Int32) + (1 : Int32)))] [(.int (1 : Int32)), (.int ((0 : Int32) + (1 : Int32)))])) _
        refine XS.iadd X68.here hx rfl (hb hby at_204) rfl ?_
        show Steps p.tables e below (T68.setTop (mkF m 205 #[.val (.int p0), .val (.int p1), .val (.int p2), .val (.int p3), .val (.int p4), .val (.int (2 : Int32)), .val (.int (Int32.ofNat xn)), .val (.int (Int32.ofNat yn)), .val (.int (Int32.ofNat zn)), .val (.int (((p4.toUInt32 >>> ((10 : Int32) &&& 31).toUInt32).toInt32) &&& (3 : Int32))), .val (.int (Int32.ofNat qn)), .val (.ref b58), .val (.ref ob68), .val (.int (own_eh2 (Int32.ofNat qn) (Int32.ofNat xn) (Int32.ofNat yn))), .val (.int ((0 : Int32) + (1 : Int32)))] [(.int (((0 : Int32) + (1 : Int32)) + (1 : Int32)))])) _
        refine XS.istore X68.here hx rfl (hb hby at_205) rfl (l' := #[.val (.int p0), .val (.int p1), .val (.int p2), .val (.int p3), .val (.int p4), .val (.int (2 : Int32)), .val (.int (Int32.ofNat xn)), .val (.int (Int32.ofNat yn)), .val (.int (Int32.ofNat zn)), .val (.int (((p4.toUInt32 >>> ((10 : Int32) &&& 31).toUInt32).toInt32) &&& (3 : Int32))), .val (.int (Int32.ofNat qn)), .val (.ref b58), .val (.ref ob68), .val (.int (own_eh2 (Int32.ofNat qn) (Int32.ofNat xn) (Int32.ofNat yn))), .val (.int (((0 : Int32) + (1 : Int32)) + (1 : Int32)))]) rfl ?_
        show Steps p.tables e below (T68.setTop (mkF m 207 #[.val (.int p0), .val (.int p1), .val (.int p2), .val (.int p3), .val (.int p4), .val (.int (2 : Int32)), .val (.int (Int32.ofNat xn)), .val (.int (Int32.ofNat yn)), .val (.int (Int32.ofNat zn)), .val (.int (((p4.toUInt32 >>> ((10 : Int32) &&& 31).toUInt32).toInt32) &&& (3 : Int32))), .val (.int (Int32.ofNat qn)), .val (.ref b58), .val (.ref ob68), .val (.int (own_eh2 (Int32.ofNat qn) (Int32.ofNat xn) (Int32.ofNat yn))), .val (.int (((0 : Int32) + (1 : Int32)) + (1 : Int32)))] [])) _
        refine XS.iload X68.here hx rfl (hb hby at_207) rfl ?_
        show Steps p.tables e below (T68.setTop (mkF m 209 #[.val (.int p0), .val (.int p1), .val (.int p2), .val (.int p3), .val (.int p4), .val (.int (2 : Int32)), .val (.int (Int32.ofNat xn)), .val (.int (Int32.ofNat yn)), .val (.int (Int32.ofNat zn)), .val (.int (((p4.toUInt32 >>> ((10 : Int32) &&& 31).toUInt32).toInt32) &&& (3 : Int32))), .val (.int (Int32.ofNat qn)), .val (.ref b58), .val (.ref ob68), .val (.int (own_eh2 (Int32.ofNat qn) (Int32.ofNat xn) (Int32.ofNat yn))), .val (.int (((0 : Int32) + (1 : Int32)) + (1 : Int32)))] [(.int (2 : Int32))])) _
        refine XS.iconst X68.here hx rfl (hb hby at_209) ?_
        show Steps p.tables e below (T68.setTop (mkF m 210 #[.val (.int p0), .val (.int p1), .val (.int p2), .val (.int p3), .val (.int p4), .val (.int (2 : Int32)), .val (.int (Int32.ofNat xn)), .val (.int (Int32.ofNat yn)), .val (.int (Int32.ofNat zn)), .val (.int (((p4.toUInt32 >>> ((10 : Int32) &&& 31).toUInt32).toInt32) &&& (3 : Int32))), .val (.int (Int32.ofNat qn)), .val (.ref b58), .val (.ref ob68), .val (.int (own_eh2 (Int32.ofNat qn) (Int32.ofNat xn) (Int32.ofNat yn))), .val (.int (((0 : Int32) + (1 : Int32)) + (1 : Int32)))] [(.int (2 : Int32)), (.int (2 : Int32))])) _
        refine XS.icmpYes X68.here hx rfl (pc0 := 210) (pc' := 233) rfl (hb hby at_210) rfl (flt (by decide : ¬ ((2 : Int32) < (2 : Int32)))).2.2.2 (by decide) (by decide) ?_
        rw [show (own_es2 (Int32.ofNat xn) (Int32.ofNat yn)) = (((0 : Int32) + (1 : Int32)) + (1 : Int32)) from by unfold own_es2; rw [if_neg hc198]; decide] at kt
        exact kt
    have c72 : ∀ t, Steps p.tables e below (T68.setTop (mkF m 237 #[.val (.int p0), .val (.int p1), .val (.int p2), .val (.int p3), .val (.int p4), .val (.int (2 : Int32)), .val (.int (Int32.ofNat xn)), .val (.int (Int32.ofNat yn)), .val (.int (Int32.ofNat zn)), .val (.int (((p4.toUInt32 >>> ((10 : Int32) &&& 31).toUInt32).toInt32) &&& (3 : Int32))), .val (.int (Int32.ofNat qn)), .val (.ref b58), .val (.ref ob68), .val (.int (own_eh2 (Int32.ofNat qn) (Int32.ofNat xn) (Int32.ofNat yn))), .val (.int (own_es2 (Int32.ofNat xn) (Int32.ofNat yn)))] [(.int (Int32.ofNat qn)), (.ref ob68)])) t → Steps p.tables e below (T68.setTop (mkF m 233 #[.val (.int p0), .val (.int p1), .val (.int p2), .val (.int p3), .val (.int p4), .val (.int (2 : Int32)), .val (.int (Int32.ofNat xn)), .val (.int (Int32.ofNat yn)), .val (.int (Int32.ofNat zn)), .val (.int (((p4.toUInt32 >>> ((10 : Int32) &&& 31).toUInt32).toInt32) &&& (3 : Int32))), .val (.int (Int32.ofNat qn)), .val (.ref b58), .val (.ref ob68), .val (.int (own_eh2 (Int32.ofNat qn) (Int32.ofNat xn) (Int32.ofNat yn))), .val (.int (own_es2 (Int32.ofNat xn) (Int32.ofNat yn)))] [])) t := by
      intro t kt
      show Steps p.tables e below (T68.setTop (mkF m 233 #[.val (.int p0), .val (.int p1), .val (.int p2), .val (.int p3), .val (.int p4), .val (.int (2 : Int32)), .val (.int (Int32.ofNat xn)), .val (.int (Int32.ofNat yn)), .val (.int (Int32.ofNat zn)), .val (.int (((p4.toUInt32 >>> ((10 : Int32) &&& 31).toUInt32).toInt32) &&& (3 : Int32))), .val (.int (Int32.ofNat qn)), .val (.ref b58), .val (.ref ob68), .val (.int (own_eh2 (Int32.ofNat qn) (Int32.ofNat xn) (Int32.ofNat yn))), .val (.int (own_es2 (Int32.ofNat xn) (Int32.ofNat yn)))] [])) _
      refine XS.aload X68.here hx rfl (hb hby at_233) rfl rfl ?_
      show Steps p.tables e below (T68.setTop (mkF m 235 #[.val (.int p0), .val (.int p1), .val (.int p2), .val (.int p3), .val (.int p4), .val (.int (2 : Int32)), .val (.int (Int32.ofNat xn)), .val (.int (Int32.ofNat yn)), .val (.int (Int32.ofNat zn)), .val (.int (((p4.toUInt32 >>> ((10 : Int32) &&& 31).toUInt32).toInt32) &&& (3 : Int32))), .val (.int (Int32.ofNat qn)), .val (.ref b58), .val (.ref ob68), .val (.int (own_eh2 (Int32.ofNat qn) (Int32.ofNat xn) (Int32.ofNat yn))), .val (.int (own_es2 (Int32.ofNat xn) (Int32.ofNat yn)))] [(.ref ob68)])) _
      refine XS.iload X68.here hx rfl (hb hby at_235) rfl ?_
      exact kt
    have f73 := (Nat.le_trans f67 Kq68.1)
    obtain ⟨cq74, kq74, q74a, q74b, q74c⟩ := isOf hZ rfl Eq68
    obtain ⟨_, _, ⟨T75, L75, k75, n75⟩, -, X75, ⟨Lc75, hQ75, l75, y75, z75⟩, st75⟩ := X68.virtualBack hx (y := (⟨"com/example/emex/emex/explain/Positions", "has", "(I)Z"⟩ : MethodName)) (z := (⟨"com/example/emex/emex/explain/Positions", "has", "(I)Z"⟩ : MethodName)) hown (mvT hZ (hw _ (List.mem_of_getElem? (i := 37) rfl))) (mvT hZ (hw _ (List.mem_of_getElem? (i := 38) rfl))) (notFace_of_selects (args := #[]) (mvT hZ (hw _ (List.mem_of_getElem? (i := 40) rfl)))) (mvT hZ (hw _ (List.mem_of_getElem? (i := 40) rfl))) (mvT hZ (hw _ (List.mem_of_getElem? (i := 39) rfl))) (by decide) (backOf (W := 0) (rm7 l Z a0 hw []  ob68 qn ot68 kk68 ln (own_or (own_or own_f0 xn) yn) T68.heap n0 f73 Fw68 Vq68 hl8 hqn) hZ (hw _ (List.mem_of_getElem? (i := 41) rfl)) (hw _ (List.mem_of_getElem? (i := 3) rfl)) (by decide) (by decide)) q74a q74c (g := (mkF m 237 #[.val (.int p0), .val (.int p1), .val (.int p2), .val (.int p3), .val (.int p4), .val (.int (2 : Int32)), .val (.int (Int32.ofNat xn)), .val (.int (Int32.ofNat yn)), .val (.int (Int32.ofNat zn)), .val (.int (((p4.toUInt32 >>> ((10 : Int32) &&& 31).toUInt32).toInt32) &&& (3 : Int32))), .val (.int (Int32.ofNat qn)), .val (.ref b58), .val (.ref ob68), .val (.int (own_eh2 (Int32.ofNat qn) (Int32.ofNat xn) (Int32.ofNat yn))), .val (.int (own_es2 (Int32.ofNat xn) (Int32.ofNat yn)))] [(.int (Int32.ofNat qn)), (.ref ob68)])) rfl (by rw [hml]; rfl) (Steps.refl _) (argsL := [(.int (Int32.ofNat qn))]) (rest := []) (lenOf pd_5 rfl) rfl (by show 2 * 0 + _ ≤ _; exact Nat.le_of_eq rfl) (hb hby at_237) (fun _ _ => ⟨rfl, rfl, (by decide : 5 + 0 ≤ _), (by decide : 20 + 0 ≤ _)⟩)
    dsimp only [Pt.U, Pt.locs, Pt.cells, Pt.slots] at X75 l75 y75 z75 st75 hQ75
    subst l75 y75 z75
    obtain ⟨rfl, N75q, e75⟩ := hQ75
    have N75 := Fr.app N68 N75q
    have c77 : ∀ t, Steps p.tables e below (T75.setTop (mkF m 242 #[.val (.int p0), .val (.int p1), .val (.int p2), .val (.int p3), .val (.int p4), .val (.int (2 : Int32)), .val (.int (Int32.ofNat xn)), .val (.int (Int32.ofNat yn)), .val (.int (Int32.ofNat zn)), .val (.int (((p4.toUInt32 >>> ((10 : Int32) &&& 31).toUInt32).toInt32) &&& (3 : Int32))), .val (.int (Int32.ofNat qn)), .val (.ref b58), .val (.ref ob68), .val (.int (own_eh2 (Int32.ofNat qn) (Int32.ofNat xn) (Int32.ofNat yn))), .val (.int (own_es2 (Int32.ofNat xn) (Int32.ofNat yn)))] [(.int (own_eh2 (Int32.ofNat qn) (Int32.ofNat xn) (Int32.ofNat yn))), (.int (own_hs (own_or (own_or own_f0 xn) yn) ln qn))])) t → Steps p.tables e below (T75.setTop (mkF m 240 #[.val (.int p0), .val (.int p1), .val (.int p2), .val (.int p3), .val (.int p4), .val (.int (2 : Int32)), .val (.int (Int32.ofNat xn)), .val (.int (Int32.ofNat yn)), .val (.int (Int32.ofNat zn)), .val (.int (((p4.toUInt32 >>> ((10 : Int32) &&& 31).toUInt32).toInt32) &&& (3 : Int32))), .val (.int (Int32.ofNat qn)), .val (.ref b58), .val (.ref ob68), .val (.int (own_eh2 (Int32.ofNat qn) (Int32.ofNat xn) (Int32.ofNat yn))), .val (.int (own_es2 (Int32.ofNat xn) (Int32.ofNat yn)))] [(.int (own_hs (own_or (own_or own_f0 xn) yn) ln qn))])) t := by
      intro t kt
      show Steps p.tables e below (T75.setTop (mkF m 240 #[.val (.int p0), .val (.int p1), .val (.int p2), .val (.int p3), .val (.int p4), .val (.int (2 : Int32)), .val (.int (Int32.ofNat xn)), .val (.int (Int32.ofNat yn)), .val (.int (Int32.ofNat zn)), .val (.int (((p4.toUInt32 >>> ((10 : Int32) &&& 31).toUInt32).toInt32) &&& (3 : Int32))), .val (.int (Int32.ofNat qn)), .val (.ref b58), .val (.ref ob68), .val (.int (own_eh2 (Int32.ofNat qn) (Int32.ofNat xn) (Int32.ofNat yn))), .val (.int (own_es2 (Int32.ofNat xn) (Int32.ofNat yn)))] [(.int (own_hs (own_or (own_or own_f0 xn) yn) ln qn))])) _
      refine XS.iload X75.here hx rfl (hb hby at_240) rfl ?_
      exact kt
    have hd76 : (own_hs (own_or (own_or own_f0 xn) yn) ln qn) = (own_eh2 (Int32.ofNat qn) (Int32.ofNat xn) (Int32.ofNat yn)) := own_H2 ln qn xn yn hqn hxn hyn hz
    have c78 : ∀ t, Steps p.tables e below (T75.setTop (mkF m 247 #[.val (.int p0), .val (.int p1), .val (.int p2), .val (.int p3), .val (.int p4), .val (.int (2 : Int32)), .val (.int (Int32.ofNat xn)), .val (.int (Int32.ofNat yn)), .val (.int (Int32.ofNat zn)), .val (.int (((p4.toUInt32 >>> ((10 : Int32) &&& 31).toUInt32).toInt32) &&& (3 : Int32))), .val (.int (Int32.ofNat qn)), .val (.ref b58), .val (.ref ob68), .val (.int (own_eh2 (Int32.ofNat qn) (Int32.ofNat xn) (Int32.ofNat yn))), .val (.int (own_es2 (Int32.ofNat xn) (Int32.ofNat yn)))] [(.ref ob68)])) t → Steps p.tables e below (T75.setTop (mkF m 242 #[.val (.int p0), .val (.int p1), .val (.int p2), .val (.int p3), .val (.int p4), .val (.int (2 : Int32)), .val (.int (Int32.ofNat xn)), .val (.int (Int32.ofNat yn)), .val (.int (Int32.ofNat zn)), .val (.int (((p4.toUInt32 >>> ((10 : Int32) &&& 31).toUInt32).toInt32) &&& (3 : Int32))), .val (.int (Int32.ofNat qn)), .val (.ref b58), .val (.ref ob68), .val (.int (own_eh2 (Int32.ofNat qn) (Int32.ofNat xn) (Int32.ofNat yn))), .val (.int (own_es2 (Int32.ofNat xn) (Int32.ofNat yn)))] [(.int (own_eh2 (Int32.ofNat qn) (Int32.ofNat xn) (Int32.ofNat yn))), (.int (own_hs (own_or (own_or own_f0 xn) yn) ln qn))])) t := by
      intro t kt
      show Steps p.tables e below (T75.setTop (mkF m 242 #[.val (.int p0), .val (.int p1), .val (.int p2), .val (.int p3), .val (.int p4), .val (.int (2 : Int32)), .val (.int (Int32.ofNat xn)), .val (.int (Int32.ofNat yn)), .val (.int (Int32.ofNat zn)), .val (.int (((p4.toUInt32 >>> ((10 : Int32) &&& 31).toUInt32).toInt32) &&& (3 : Int32))), .val (.int (Int32.ofNat qn)), .val (.ref b58), .val (.ref ob68), .val (.int (own_eh2 (Int32.ofNat qn) (Int32.ofNat xn) (Int32.ofNat yn))), .val (.int (own_es2 (Int32.ofNat xn) (Int32.ofNat yn)))] [(.int (own_eh2 (Int32.ofNat qn) (Int32.ofNat xn) (Int32.ofNat yn))), (.int (own_hs (own_or (own_or own_f0 xn) yn) ln qn))])) _
      refine XS.icmpNo X75.here hx rfl (hb hby at_242) rfl (teq (hd76)).2 ?_
      show Steps p.tables e below (T75.setTop (mkF m 245 #[.val (.int p0), .val (.int p1), .val (.int p2), .val (.int p3), .val (.int p4), .val (.int (2 : Int32)), .val (.int (Int32.ofNat xn)), .val (.int (Int32.ofNat yn)), .val (.int (Int32.ofNat zn)), .val (.int (((p4.toUInt32 >>> ((10 : Int32) &&& 31).toUInt32).toInt32) &&& (3 : Int32))), .val (.int (Int32.ofNat qn)), .val (.ref b58), .val (.ref ob68), .val (.int (own_eh2 (Int32.ofNat qn) (Int32.ofNat xn) (Int32.ofNat yn))), .val (.int (own_es2 (Int32.ofNat xn) (Int32.ofNat yn)))] [])) _
      refine XS.aload X75.here hx rfl (hb hby at_245) rfl rfl ?_
      exact kt
    obtain ⟨cq79, kq79, q79a, q79b, q79c⟩ := isOf hZ e75 Eq68
    obtain ⟨_, _, ⟨T80, L80, k80, n80⟩, -, X80, ⟨Lc80, hQ80, l80, y80, z80⟩, st80⟩ := X75.virtualBack hx (y := (⟨"com/example/emex/emex/explain/Positions", "size", "()I"⟩ : MethodName)) (z := (⟨"com/example/emex/emex/explain/Positions", "size", "()I"⟩ : MethodName)) hown (mvT hZ (hw _ (List.mem_of_getElem? (i := 42) rfl))) (mvT hZ (hw _ (List.mem_of_getElem? (i := 43) rfl))) (notFace_of_selects (args := #[]) (mvT hZ (hw _ (List.mem_of_getElem? (i := 45) rfl)))) (mvT hZ (hw _ (List.mem_of_getElem? (i := 45) rfl))) (mvT hZ (hw _ (List.mem_of_getElem? (i := 44) rfl))) (by decide) (backOf (W := 0) (rm8 l Z a0 hw [] ob68 (own_cnt (own_or (own_or own_f0 xn) yn) ln) T68.heap n0 f73 Fs68) hZ (hw _ (List.mem_of_getElem? (i := 46) rfl)) (hw _ (List.mem_of_getElem? (i := 3) rfl)) (by decide) (by decide)) q79a q79c (g := (mkF m 247 #[.val (.int p0), .val (.int p1), .val (.int p2), .val (.int p3), .val (.int p4), .val (.int (2 : Int32)), .val (.int (Int32.ofNat xn)), .val (.int (Int32.ofNat yn)), .val (.int (Int32.ofNat zn)), .val (.int (((p4.toUInt32 >>> ((10 : Int32) &&& 31).toUInt32).toInt32) &&& (3 : Int32))), .val (.int (Int32.ofNat qn)), .val (.ref b58), .val (.ref ob68), .val (.int (own_eh2 (Int32.ofNat qn) (Int32.ofNat xn) (Int32.ofNat yn))), .val (.int (own_es2 (Int32.ofNat xn) (Int32.ofNat yn)))] [(.ref ob68)])) rfl (by rw [hml]; rfl) (Steps.refl _) (argsL := []) (rest := []) (lenOf pd_6 rfl) rfl (by show 2 * 0 + _ ≤ _; exact Nat.le_of_eq rfl) (hb hby at_247) (fun _ _ => ⟨rfl, e75, (by decide : 5 + 0 ≤ _), (by decide : 20 + 0 ≤ _)⟩)
    dsimp only [Pt.U, Pt.locs, Pt.cells, Pt.slots] at X80 l80 y80 z80 st80 hQ80
    subst l80 y80 z80
    obtain ⟨rfl, N80q, e80⟩ := hQ80
    have N80 := Fr.app N75 N80q
    have c82 : ∀ t, Steps p.tables e below (T80.setTop (mkF m 252 #[.val (.int p0), .val (.int p1), .val (.int p2), .val (.int p3), .val (.int p4), .val (.int (2 : Int32)), .val (.int (Int32.ofNat xn)), .val (.int (Int32.ofNat yn)), .val (.int (Int32.ofNat zn)), .val (.int (((p4.toUInt32 >>> ((10 : Int32) &&& 31).toUInt32).toInt32) &&& (3 : Int32))), .val (.int (Int32.ofNat qn)), .val (.ref b58), .val (.ref ob68), .val (.int (own_eh2 (Int32.ofNat qn) (Int32.ofNat xn) (Int32.ofNat yn))), .val (.int (own_es2 (Int32.ofNat xn) (Int32.ofNat yn)))] [(.int (own_es2 (Int32.ofNat xn) (Int32.ofNat yn))), (.int (own_cnt (own_or (own_or own_f0 xn) yn) ln))])) t → Steps p.tables e below (T80.setTop (mkF m 250 #[.val (.int p0), .val (.int p1), .val (.int p2), .val (.int p3), .val (.int p4), .val (.int (2 : Int32)), .val (.int (Int32.ofNat xn)), .val (.int (Int32.ofNat yn)), .val (.int (Int32.ofNat zn)), .val (.int (((p4.toUInt32 >>> ((10 : Int32) &&& 31).toUInt32).toInt32) &&& (3 : Int32))), .val (.int (Int32.ofNat qn)), .val (.ref b58), .val (.ref ob68), .val (.int (own_eh2 (Int32.ofNat qn) (Int32.ofNat xn) (Int32.ofNat yn))), .val (.int (own_es2 (Int32.ofNat xn) (Int32.ofNat yn)))] [(.int (own_cnt (own_or (own_or own_f0 xn) yn) ln))])) t := by
      intro t kt
      show Steps p.tables e below (T80.setTop (mkF m 250 #[.val (.int p0), .val (.int p1), .val (.int p2), .val (.int p3), .val (.int p4), .val (.int (2 : Int32)), .val (.int (Int32.ofNat xn)), .val (.int (Int32.ofNat yn)), .val (.int (Int32.ofNat zn)), .val (.int (((p4.toUInt32 >>> ((10 : Int32) &&& 31).toUInt32).toInt32) &&& (3 : Int32))), .val (.int (Int32.ofNat qn)), .val (.ref b58), .val (.ref ob68), .val (.int (own_eh2 (Int32.ofNat qn) (Int32.ofNat xn) (Int32.ofNat yn))), .val (.int (own_es2 (Int32.ofNat xn) (Int32.ofNat yn)))] [(.int (own_cnt (own_or (own_or own_f0 xn) yn) ln))])) _
      refine XS.iload X80.here hx rfl (hb hby at_250) rfl ?_
      exact kt
    have hd81 : (own_cnt (own_or (own_or own_f0 xn) yn) ln) = (own_es2 (Int32.ofNat xn) (Int32.ofNat yn)) := own_C2 ln xn yn hl8 hxn hyn hp0 hp1
    have c83 : ∀ t, Steps p.tables e below (T80.setTop (mkF m 260 #[.val (.int p0), .val (.int p1), .val (.int p2), .val (.int p3), .val (.int p4), .val (.int (2 : Int32)), .val (.int (Int32.ofNat xn)), .val (.int (Int32.ofNat yn)), .val (.int (Int32.ofNat zn)), .val (.int (((p4.toUInt32 >>> ((10 : Int32) &&& 31).toUInt32).toInt32) &&& (3 : Int32))), .val (.int (Int32.ofNat qn)), .val (.ref b58), .val (.ref ob68), .val (.int (own_eh2 (Int32.ofNat qn) (Int32.ofNat xn) (Int32.ofNat yn))), .val (.int (own_es2 (Int32.ofNat xn) (Int32.ofNat yn)))] [(.int (1 : Int32))])) t → Steps p.tables e below (T80.setTop (mkF m 252 #[.val (.int p0), .val (.int p1), .val (.int p2), .val (.int p3), .val (.int p4), .val (.int (2 : Int32)), .val (.int (Int32.ofNat xn)), .val (.int (Int32.ofNat yn)), .val (.int (Int32.ofNat zn)), .val (.int (((p4.toUInt32 >>> ((10 : Int32) &&& 31).toUInt32).toInt32) &&& (3 : Int32))), .val (.int (Int32.ofNat qn)), .val (.ref b58), .val (.ref ob68), .val (.int (own_eh2 (Int32.ofNat qn) (Int32.ofNat xn) (Int32.ofNat yn))), .val (.int (own_es2 (Int32.ofNat xn) (Int32.ofNat yn)))] [(.int (own_es2 (Int32.ofNat xn) (Int32.ofNat yn))), (.int (own_cnt (own_or (own_or own_f0 xn) yn) ln))])) t := by
      intro t kt
      show Steps p.tables e below (T80.setTop (mkF m 252 #[.val (.int p0), .val (.int p1), .val (.int p2), .val (.int p3), .val (.int p4), .val (.int (2 : Int32)), .val (.int (Int32.ofNat xn)), .val (.int (Int32.ofNat yn)), .val (.int (Int32.ofNat zn)), .val (.int (((p4.toUInt32 >>> ((10 : Int32) &&& 31).toUInt32).toInt32) &&& (3 : Int32))), .val (.int (Int32.ofNat qn)), .val (.ref b58), .val (.ref ob68), .val (.int (own_eh2 (Int32.ofNat qn) (Int32.ofNat xn) (Int32.ofNat yn))), .val (.int (own_es2 (Int32.ofNat xn) (Int32.ofNat yn)))] [(.int (own_es2 (Int32.ofNat xn) (Int32.ofNat yn))), (.int (own_cnt (own_or (own_or own_f0 xn) yn) ln))])) _
      refine XS.icmpNo X80.here hx rfl (hb hby at_252) rfl (teq (hd81)).2 ?_
      show Steps p.tables e below (T80.setTop (mkF m 255 #[.val (.int p0), .val (.int p1), .val (.int p2), .val (.int p3), .val (.int p4), .val (.int (2 : Int32)), .val (.int (Int32.ofNat xn)), .val (.int (Int32.ofNat yn)), .val (.int (Int32.ofNat zn)), .val (.int (((p4.toUInt32 >>> ((10 : Int32) &&& 31).toUInt32).toInt32) &&& (3 : Int32))), .val (.int (Int32.ofNat qn)), .val (.ref b58), .val (.ref ob68), .val (.int (own_eh2 (Int32.ofNat qn) (Int32.ofNat xn) (Int32.ofNat yn))), .val (.int (own_es2 (Int32.ofNat xn) (Int32.ofNat yn)))] [])) _
      refine XS.iconst X80.here hx rfl (hb hby at_255) ?_
      show Steps p.tables e below (T80.setTop (mkF m 256 #[.val (.int p0), .val (.int p1), .val (.int p2), .val (.int p3), .val (.int p4), .val (.int (2 : Int32)), .val (.int (Int32.ofNat xn)), .val (.int (Int32.ofNat yn)), .val (.int (Int32.ofNat zn)), .val (.int (((p4.toUInt32 >>> ((10 : Int32) &&& 31).toUInt32).toInt32) &&& (3 : Int32))), .val (.int (Int32.ofNat qn)), .val (.ref b58), .val (.ref ob68), .val (.int (own_eh2 (Int32.ofNat qn) (Int32.ofNat xn) (Int32.ofNat yn))), .val (.int (own_es2 (Int32.ofNat xn) (Int32.ofNat yn)))] [(.int (1 : Int32))])) _
      refine XS.goto X80.here hx rfl (pc0 := 256) (pc' := 260) rfl (hb hby at_256) (by decide) (by decide) ?_
      exact kt
    obtain ⟨fs, hr, hrun, hended, hW, hsame⟩ := X80.leave (v := some (.int (1 : Int32))) (fun h => by rw [Bd.returns] at h; cases h)
    refine ⟨_, _, pre0 _ (c1 _ (c2 _ (c3 _ (c4 _ (c5 _ (c6 _ (c7 _ (c8 _ (c9 _ (c57 _ (c59 _ (st58 _ (c60 _ (st62 _ (c63 _ (st65 _ (c66 _ (st68 _ (c69 _ (c70 _ (c71 _ (c72 _ (st75.trans (c77 _ (c78 _ (st80.trans (c82 _ (c83 _ (?_))))))))))))))))))))))))))))), hrun, hended, _, _, rfl, ?_, ⟨_, rfl⟩, hW, hsame.mono (by decide) (by decide)⟩
    · show Steps p.tables e below (T80.setTop (mkF m 260 #[.val (.int p0), .val (.int p1), .val (.int p2), .val (.int p3), .val (.int p4), .val (.int (2 : Int32)), .val (.int (Int32.ofNat xn)), .val (.int (Int32.ofNat yn)), .val (.int (Int32.ofNat zn)), .val (.int (((p4.toUInt32 >>> ((10 : Int32) &&& 31).toUInt32).toInt32) &&& (3 : Int32))), .val (.int (Int32.ofNat qn)), .val (.ref b58), .val (.ref ob68), .val (.int (own_eh2 (Int32.ofNat qn) (Int32.ofNat xn) (Int32.ofNat yn))), .val (.int (own_es2 (Int32.ofNat xn) (Int32.ofNat yn)))] [(.int (1 : Int32))])) _
      exact retN X80 hx (t := .boolean) Bd.returns (by simp) (hb hby at_260) hr
    · show Q0 Z p0 p1 p2 p3 p4 h0 n0 _ T80.heap _
      rw [e80]
      exact ⟨congrArg (fun z => some (Value.int z)) (show (1 : Int32) = (1 : Int32) from by rfl), N80⟩
  · skip
    have c85 : ∀ t, Steps p.tables e below (s₁.setTop (mkF m 81 #[.val (.int p0), .val (.int p1), .val (.int p2), .val (.int p3), .val (.int p4), .val (.int (3 : Int32)), .val (.int (Int32.ofNat xn)), .val (.int (Int32.ofNat yn)), .val (.int (Int32.ofNat zn)), .val (.int (((p4.toUInt32 >>> ((10 : Int32) &&& 31).toUInt32).toInt32) &&& (3 : Int32))), .val (.int (Int32.ofNat qn)), .unset, .unset, .unset, .unset] [])) t → Steps p.tables e below (s₁.setTop (mkF m 81 #[.val (.int p0), .val (.int p1), .val (.int p2), .val (.int p3), .val (.int p4), .val (.int (p3 &&& (3 : Int32))), .val (.int (Int32.ofNat xn)), .val (.int (Int32.ofNat yn)), .val (.int (Int32.ofNat zn)), .val (.int (((p4.toUInt32 >>> ((10 : Int32) &&& 31).toUInt32).toInt32) &&& (3 : Int32))), .val (.int (Int32.ofNat qn)), .unset, .unset, .unset, .unset] [])) t := fun t kt => castTop (congrArg (fun zv => (mkF m 81 #[.val (.int p0), .val (.int p1), .val (.int p2), .val (.int p3), .val (.int p4), .val (.int zv), .val (.int (Int32.ofNat xn)), .val (.int (Int32.ofNat yn)), .val (.int (Int32.ofNat zn)), .val (.int (((p4.toUInt32 >>> ((10 : Int32) &&& 31).toUInt32).toInt32) &&& (3 : Int32))), .val (.int (Int32.ofNat qn)), .unset, .unset, .unset, .unset] [])) (show (p3 &&& (3 : Int32)) = (3 : Int32) from hsz)) kt
    have c87 : ∀ t, Steps p.tables e below (s₁.setTop (mkF m 83 #[.val (.int p0), .val (.int p1), .val (.int p2), .val (.int p3), .val (.int p4), .val (.int (3 : Int32)), .val (.int (Int32.ofNat xn)), .val (.int (Int32.ofNat yn)), .val (.int (Int32.ofNat zn)), .val (.int (((p4.toUInt32 >>> ((10 : Int32) &&& 31).toUInt32).toInt32) &&& (3 : Int32))), .val (.int (Int32.ofNat qn)), .unset, .unset, .unset, .unset] [(.int (3 : Int32))])) t → Steps p.tables e below (s₁.setTop (mkF m 81 #[.val (.int p0), .val (.int p1), .val (.int p2), .val (.int p3), .val (.int p4), .val (.int (3 : Int32)), .val (.int (Int32.ofNat xn)), .val (.int (Int32.ofNat yn)), .val (.int (Int32.ofNat zn)), .val (.int (((p4.toUInt32 >>> ((10 : Int32) &&& 31).toUInt32).toInt32) &&& (3 : Int32))), .val (.int (Int32.ofNat qn)), .unset, .unset, .unset, .unset] [])) t := by
      intro t kt
      show Steps p.tables e below (s₁.setTop (mkF m 81 #[.val (.int p0), .val (.int p1), .val (.int p2), .val (.int p3), .val (.int p4), .val (.int (3 : Int32)), .val (.int (Int32.ofNat xn)), .val (.int (Int32.ofNat yn)), .val (.int (Int32.ofNat zn)), .val (.int (((p4.toUInt32 >>> ((10 : Int32) &&& 31).toUInt32).toInt32) &&& (3 : Int32))), .val (.int (Int32.ofNat qn)), .unset, .unset, .unset, .unset] [])) _
      refine XS.iload X0.here hx rfl (hb hby at_81) rfl ?_
      exact kt
    obtain ⟨T86, h86, k86, X86, e86, E86, A86, st86⟩ := newP X0 hx hZ (hw _ (List.mem_of_getElem? (i := 0) rfl)) e0 (g := (mkF m 83 #[.val (.int p0), .val (.int p1), .val (.int p2), .val (.int p3), .val (.int p4), .val (.int (3 : Int32)), .val (.int (Int32.ofNat xn)), .val (.int (Int32.ofNat yn)), .val (.int (Int32.ofNat zn)), .val (.int (((p4.toUInt32 >>> ((10 : Int32) &&& 31).toUInt32).toInt32) &&& (3 : Int32))), .val (.int (Int32.ofNat qn)), .unset, .unset, .unset, .unset] [(.int (3 : Int32))])) rfl (hb hby at_83) rfl (by decide) (cap := 3) (by decide) (by decide) (by decide) (by decide)
    obtain ⟨b86, g86⟩ : ∃ z, z = h0.size := ⟨_, rfl⟩
    rw [← g86] at A86 st86
    have g_b86 : n0 ≤ b86 := Nat.le_trans Z0 (Nat.le_of_eq g86.symm)
    have sz_b86 : h0.size ≤ b86 := Nat.le_trans (Keep.refl h0 []).1 (Nat.le_of_eq g86.symm)
    have V86 : Arv Z h86 b86 k86 .int (3 : Int32) [(.int (0 : Int32)), (.int (0 : Int32)), (.int (0 : Int32))] (.int (0 : Int32)) := (Arv.new A86 (by decide)).pad (pad_rep [] (.int (0 : Int32)) 3)
    have c88 : ∀ t, Steps p.tables e below (T86.setTop (mkF m 97 #[.val (.int p0), .val (.int p1), .val (.int p2), .val (.int p3), .val (.int p4), .val (.int (3 : Int32)), .val (.int (Int32.ofNat xn)), .val (.int (Int32.ofNat yn)), .val (.int (Int32.ofNat zn)), .val (.int (((p4.toUInt32 >>> ((10 : Int32) &&& 31).toUInt32).toInt32) &&& (3 : Int32))), .val (.int (Int32.ofNat qn)), .val (.ref b86), .unset, .unset, .unset] [(.int (Int32.ofNat xn)), (.int (0 : Int32)), (.ref b86)])) t → Steps p.tables e below (T86.setTop (mkF m 85 #[.val (.int p0), .val (.int p1), .val (.int p2), .val (.int p3), .val (.int p4), .val (.int (3 : Int32)), .val (.int (Int32.ofNat xn)), .val (.int (Int32.ofNat yn)), .val (.int (Int32.ofNat zn)), .val (.int (((p4.toUInt32 >>> ((10 : Int32) &&& 31).toUInt32).toInt32) &&& (3 : Int32))), .val (.int (Int32.ofNat qn)), .unset, .unset, .unset, .unset] [(.ref b86)])) t := by
      intro t kt
      show Steps p.tables e below (T86.setTop (mkF m 85 #[.val (.int p0), .val (.int p1), .val (.int p2), .val (.int p3), .val (.int p4), .val (.int (3 : Int32)), .val (.int (Int32.ofNat xn)), .val (.int (Int32.ofNat yn)), .val (.int (Int32.ofNat zn)), .val (.int (((p4.toUInt32 >>> ((10 : Int32) &&& 31).toUInt32).toInt32) &&& (3 : Int32))), .val (.int (Int32.ofNat qn)), .unset, .unset, .unset, .unset] [(.ref b86)])) _
      refine XS.astore X86.here hx rfl (hb hby at_85) rfl rfl (l' := #[.val (.int p0), .val (.int p1), .val (.int p2), .val (.int p3), .val (.int p4), .val (.int (3 : Int32)), .val (.int (Int32.ofNat xn)), .val (.int (Int32.ofNat yn)), .val (.int (Int32.ofNat zn)), .val (.int (((p4.toUInt32 >>> ((10 : Int32) &&& 31).toUInt32).toInt32) &&& (3 : Int32))), .val (.int (Int32.ofNat qn)), .val (.ref b86), .unset, .unset, .unset]) rfl ?_
      show Steps p.tables e below (T86.setTop (mkF m 87 #[.val (.int p0), .val (.int p1), .val (.int p2), .val (.int p3), .val (.int p4), .val (.int (3 : Int32)), .val (.int (Int32.ofNat xn)), .val (.int (Int32.ofNat yn)), .val (.int (Int32.ofNat zn)), .val (.int (((p4.toUInt32 >>> ((10 : Int32) &&& 31).toUInt32).toInt32) &&& (3 : Int32))), .val (.int (Int32.ofNat qn)), .val (.ref b86), .unset, .unset, .unset] [])) _
      refine XS.iload X86.here hx rfl (hb hby at_87) rfl ?_
      show Steps p.tables e below (T86.setTop (mkF m 89 #[.val (.int p0), .val (.int p1), .val (.int p2), .val (.int p3), .val (.int p4), .val (.int (3 : Int32)), .val (.int (Int32.ofNat xn)), .val (.int (Int32.ofNat yn)), .val (.int (Int32.ofNat zn)), .val (.int (((p4.toUInt32 >>> ((10 : Int32) &&& 31).toUInt32).toInt32) &&& (3 : Int32))), .val (.int (Int32.ofNat qn)), .val (.ref b86), .unset, .unset, .unset] [(.int (3 : Int32))])) _
      refine XS.ifNo X86.here hx rfl (hb hby at_89) rfl ((if0 _ _).trans (tlt (by decide : (0 : Int32) < (3 : Int32))).2.2.2) ?_
      show Steps p.tables e below (T86.setTop (mkF m 92 #[.val (.int p0), .val (.int p1), .val (.int p2), .val (.int p3), .val (.int p4), .val (.int (3 : Int32)), .val (.int (Int32.ofNat xn)), .val (.int (Int32.ofNat yn)), .val (.int (Int32.ofNat zn)), .val (.int (((p4.toUInt32 >>> ((10 : Int32) &&& 31).toUInt32).toInt32) &&& (3 : Int32))), .val (.int (Int32.ofNat qn)), .val (.ref b86), .unset, .unset, .unset] [])) _
      refine XS.aload X86.here hx rfl (hb hby at_92) rfl rfl ?_
      show Steps p.tables e below (T86.setTop (mkF m 94 #[.val (.int p0), .val (.int p1), .val (.int p2), .val (.int p3), .val (.int p4), .val (.int (3 : Int32)), .val (.int (Int32.ofNat xn)), .val (.int (Int32.ofNat yn)), .val (.int (Int32.ofNat zn)), .val (.int (((p4.toUInt32 >>> ((10 : Int32) &&& 31).toUInt32).toInt32) &&& (3 : Int32))), .val (.int (Int32.ofNat qn)), .val (.ref b86), .unset, .unset, .unset] [(.ref b86)])) _
      refine XS.iconst X86.here hx rfl (hb hby at_94) ?_
      show Steps p.tables e below (T86.setTop (mkF m 95 #[.val (.int p0), .val (.int p1), .val (.int p2), .val (.int p3), .val (.int p4), .val (.int (3 : Int32)), .val (.int (Int32.ofNat xn)), .val (.int (Int32.ofNat yn)), .val (.int (Int32.ofNat zn)), .val (.int (((p4.toUInt32 >>> ((10 : Int32) &&& 31).toUInt32).toInt32) &&& (3 : Int32))), .val (.int (Int32.ofNat qn)), .val (.ref b86), .unset, .unset, .unset] [(.int (0 : Int32)), (.ref b86)])) _
      refine XS.iload X86.here hx rfl (hb hby at_95) rfl ?_
      exact kt
    have Vc89 := V86
    obtain ⟨cl89, Ar89, qk89, S89, M89, H89, G89⟩ := Vc89
    have hin89 : ¬ ((0 : Int32) < 0 ∨ cl89.slots.size ≤ ((0 : Int32)).toNatClampNeg) := inb_of S89 ⟨by decide, by decide⟩
    obtain ⟨T90, h90, X90, e90, W90, st90⟩ := stI X86 hx hZ e86 Ar89 (j := (0 : Int32)) hin89 (g := (mkF m 97 #[.val (.int p0), .val (.int p1), .val (.int p2), .val (.int p3), .val (.int p4), .val (.int (3 : Int32)), .val (.int (Int32.ofNat xn)), .val (.int (Int32.ofNat yn)), .val (.int (Int32.ofNat zn)), .val (.int (((p4.toUInt32 >>> ((10 : Int32) &&& 31).toUInt32).toInt32) &&& (3 : Int32))), .val (.int (Int32.ofNat qn)), .val (.ref b86), .unset, .unset, .unset] [(.int (Int32.ofNat xn)), (.int (0 : Int32)), (.ref b86)])) rfl rfl (hb hby at_97)
    have V90 : Arv Z h90 b86 k86 .int (3 : Int32) [(.int (Int32.ofNat xn)), (.int (0 : Int32)), (.int (0 : Int32))] (.int (0 : Int32)) := Arv.set Ar89 qk89 S89 M89 H89 G89 rfl W90 0 rfl (Nat.le_of_ble_eq_true rfl)
    have N90 := Fr.snoc X90 N0 g_b86
    have c91 : ∀ t, Steps p.tables e below (T90.setTop (mkF m 109 #[.val (.int p0), .val (.int p1), .val (.int p2), .val (.int p3), .val (.int p4), .val (.int (3 : Int32)), .val (.int (Int32.ofNat xn)), .val (.int (Int32.ofNat yn)), .val (.int (Int32.ofNat zn)), .val (.int (((p4.toUInt32 >>> ((10 : Int32) &&& 31).toUInt32).toInt32) &&& (3 : Int32))), .val (.int (Int32.ofNat qn)), .val (.ref b86), .unset, .unset, .unset] [(.int (Int32.ofNat yn)), (.int (1 : Int32)), (.ref b86)])) t → Steps p.tables e below (T90.setTop (mkF m 98 #[.val (.int p0), .val (.int p1), .val (.int p2), .val (.int p3), .val (.int p4), .val (.int (3 : Int32)), .val (.int (Int32.ofNat xn)), .val (.int (Int32.ofNat yn)), .val (.int (Int32.ofNat zn)), .val (.int (((p4.toUInt32 >>> ((10 : Int32) &&& 31).toUInt32).toInt32) &&& (3 : Int32))), .val (.int (Int32.ofNat qn)), .val (.ref b86), .unset, .unset, .unset] [])) t := by
      intro t kt
      show Steps p.tables e below (T90.setTop (mkF m 98 #[.val (.int p0), .val (.int p1), .val (.int p2), .val (.int p3), .val (.int p4), .val (.int (3 : Int32)), .val (.int (Int32.ofNat xn)), .val (.int (Int32.ofNat yn)), .val (.int (Int32.ofNat zn)), .val (.int (((p4.toUInt32 >>> ((10 : Int32) &&& 31).toUInt32).toInt32) &&& (3 : Int32))), .val (.int (Int32.ofNat qn)), .val (.ref b86), .unset, .unset, .unset] [])) _
      refine XS.iload X90.here hx rfl (hb hby at_98) rfl ?_
      show Steps p.tables e below (T90.setTop (mkF m 100 #[.val (.int p0), .val (.int p1), .val (.int p2), .val (.int p3), .val (.int p4), .val (.int (3 : Int32)), .val (.int (Int32.ofNat xn)), .val (.int (Int32.ofNat yn)), .val (.int (Int32.ofNat zn)), .val (.int (((p4.toUInt32 >>> ((10 : Int32) &&& 31).toUInt32).toInt32) &&& (3 : Int32))), .val (.int (Int32.ofNat qn)), .val (.ref b86), .unset, .unset, .unset] [(.int (3 : Int32))])) _
      refine XS.iconst X90.here hx rfl (hb hby at_100) ?_
      show Steps p.tables e below (T90.setTop (mkF m 101 #[.val (.int p0), .val (.int p1), .val (.int p2), .val (.int p3), .val (.int p4), .val (.int (3 : Int32)), .val (.int (Int32.ofNat xn)), .val (.int (Int32.ofNat yn)), .val (.int (Int32.ofNat zn)), .val (.int (((p4.toUInt32 >>> ((10 : Int32) &&& 31).toUInt32).toInt32) &&& (3 : Int32))), .val (.int (Int32.ofNat qn)), .val (.ref b86), .unset, .unset, .unset] [(.int (1 : Int32)), (.int (3 : Int32))])) _
      refine XS.icmpNo X90.here hx rfl (hb hby at_101) rfl (tlt (by decide : (1 : Int32) < (3 : Int32))).2.2.2 ?_
      show Steps p.tables e below (T90.setTop (mkF m 104 #[.val (.int p0), .val (.int p1), .val (.int p2), .val (.int p3), .val (.int p4), .val (.int (3 : Int32)), .val (.int (Int32.ofNat xn)), .val (.int (Int32.ofNat yn)), .val (.int (Int32.ofNat zn)), .val (.int (((p4.toUInt32 >>> ((10 : Int32) &&& 31).toUInt32).toInt32) &&& (3 : Int32))), .val (.int (Int32.ofNat qn)), .val (.ref b86), .unset, .unset, .unset] [])) _
      refine XS.aload X90.here hx rfl (hb hby at_104) rfl rfl ?_
      show Steps p.tables e below (T90.setTop (mkF m 106 #[.val (.int p0), .val (.int p1), .val (.int p2), .val (.int p3), .val (.int p4), .val (.int (3 : Int32)), .val (.int (Int32.ofNat xn)), .val (.int (Int32.ofNat yn)), .val (.int (Int32.ofNat zn)), .val (.int (((p4.toUInt32 >>> ((10 : Int32) &&& 31).toUInt32).toInt32) &&& (3 : Int32))), .val (.int (Int32.ofNat qn)), .val (.ref b86), .unset, .unset, .unset] [(.ref b86)])) _
      refine XS.iconst X90.here hx rfl (hb hby at_106) ?_
      show Steps p.tables e below (T90.setTop (mkF m 107 #[.val (.int p0), .val (.int p1), .val (.int p2), .val (.int p3), .val (.int p4), .val (.int (3 : Int32)), .val (.int (Int32.ofNat xn)), .val (.int (Int32.ofNat yn)), .val (.int (Int32.ofNat zn)), .val (.int (((p4.toUInt32 >>> ((10 : Int32) &&& 31).toUInt32).toInt32) &&& (3 : Int32))), .val (.int (Int32.ofNat qn)), .val (.ref b86), .unset, .unset, .unset] [(.int (1 : Int32)), (.ref b86)])) _
      refine XS.iload X90.here hx rfl (hb hby at_107) rfl ?_
      exact kt
    have Vc92 := V90
    obtain ⟨cl92, Ar92, qk92, S92, M92, H92, G92⟩ := Vc92
    have hin92 : ¬ ((1 : Int32) < 0 ∨ cl92.slots.size ≤ ((1 : Int32)).toNatClampNeg) := inb_of S92 ⟨by decide, by decide⟩
    obtain ⟨T93, h93, X93, e93, W93, st93⟩ := stI X90 hx hZ e90 Ar92 (j := (1 : Int32)) hin92 (g := (mkF m 109 #[.val (.int p0), .val (.int p1), .val (.int p2), .val (.int p3), .val (.int p4), .val (.int (3 : Int32)), .val (.int (Int32.ofNat xn)), .val (.int (Int32.ofNat yn)), .val (.int (Int32.ofNat zn)), .val (.int (((p4.toUInt32 >>> ((10 : Int32) &&& 31).toUInt32).toInt32) &&& (3 : Int32))), .val (.int (Int32.ofNat qn)), .val (.ref b86), .unset, .unset, .unset] [(.int (Int32.ofNat yn)), (.int (1 : Int32)), (.ref b86)])) rfl rfl (hb hby at_109)
    have V93 : Arv Z h93 b86 k86 .int (3 : Int32) [(.int (Int32.ofNat xn)), (.int (Int32.ofNat yn)), (.int (0 : Int32))] (.int (0 : Int32)) := Arv.set Ar92 qk92 S92 M92 H92 G92 rfl W93 1 rfl (Nat.le_of_ble_eq_true rfl)
    have N93 := Fr.snoc X93 N90 g_b86
    have c94 : ∀ t, Steps p.tables e below (T93.setTop (mkF m 121 #[.val (.int p0), .val (.int p1), .val (.int p2), .val (.int p3), .val (.int p4), .val (.int (3 : Int32)), .val (.int (Int32.ofNat xn)), .val (.int (Int32.ofNat yn)), .val (.int (Int32.ofNat zn)), .val (.int (((p4.toUInt32 >>> ((10 : Int32) &&& 31).toUInt32).toInt32) &&& (3 : Int32))), .val (.int (Int32.ofNat qn)), .val (.ref b86), .unset, .unset, .unset] [(.int (Int32.ofNat zn)), (.int (2 : Int32)), (.ref b86)])) t → Steps p.tables e below (T93.setTop (mkF m 110 #[.val (.int p0), .val (.int p1), .val (.int p2), .val (.int p3), .val (.int p4), .val (.int (3 : Int32)), .val (.int (Int32.ofNat xn)), .val (.int (Int32.ofNat yn)), .val (.int (Int32.ofNat zn)), .val (.int (((p4.toUInt32 >>> ((10 : Int32) &&& 31).toUInt32).toInt32) &&& (3 : Int32))), .val (.int (Int32.ofNat qn)), .val (.ref b86), .unset, .unset, .unset] [])) t := by
      intro t kt
      show Steps p.tables e below (T93.setTop (mkF m 110 #[.val (.int p0), .val (.int p1), .val (.int p2), .val (.int p3), .val (.int p4), .val (.int (3 : Int32)), .val (.int (Int32.ofNat xn)), .val (.int (Int32.ofNat yn)), .val (.int (Int32.ofNat zn)), .val (.int (((p4.toUInt32 >>> ((10 : Int32) &&& 31).toUInt32).toInt32) &&& (3 : Int32))), .val (.int (Int32.ofNat qn)), .val (.ref b86), .unset, .unset, .unset] [])) _
      refine XS.iload X93.here hx rfl (hb hby at_110) rfl ?_
      show Steps p.tables e below (T93.setTop (mkF m 112 #[.val (.int p0), .val (.int p1), .val (.int p2), .val (.int p3), .val (.int p4), .val (.int (3 : Int32)), .val (.int (Int32.ofNat xn)), .val (.int (Int32.ofNat yn)), .val (.int (Int32.ofNat zn)), .val (.int (((p4.toUInt32 >>> ((10 : Int32) &&& 31).toUInt32).toInt32) &&& (3 : Int32))), .val (.int (Int32.ofNat qn)), .val (.ref b86), .unset, .unset, .unset] [(.int (3 : Int32))])) _
      refine XS.iconst X93.here hx rfl (hb hby at_112) ?_
      show Steps p.tables e below (T93.setTop (mkF m 113 #[.val (.int p0), .val (.int p1), .val (.int p2), .val (.int p3), .val (.int p4), .val (.int (3 : Int32)), .val (.int (Int32.ofNat xn)), .val (.int (Int32.ofNat yn)), .val (.int (Int32.ofNat zn)), .val (.int (((p4.toUInt32 >>> ((10 : Int32) &&& 31).toUInt32).toInt32) &&& (3 : Int32))), .val (.int (Int32.ofNat qn)), .val (.ref b86), .unset, .unset, .unset] [(.int (2 : Int32)), (.int (3 : Int32))])) _
      refine XS.icmpNo X93.here hx rfl (hb hby at_113) rfl (tlt (by decide : (2 : Int32) < (3 : Int32))).2.2.2 ?_
      show Steps p.tables e below (T93.setTop (mkF m 116 #[.val (.int p0), .val (.int p1), .val (.int p2), .val (.int p3), .val (.int p4), .val (.int (3 : Int32)), .val (.int (Int32.ofNat xn)), .val (.int (Int32.ofNat yn)), .val (.int (Int32.ofNat zn)), .val (.int (((p4.toUInt32 >>> ((10 : Int32) &&& 31).toUInt32).toInt32) &&& (3 : Int32))), .val (.int (Int32.ofNat qn)), .val (.ref b86), .unset, .unset, .unset] [])) _
      refine XS.aload X93.here hx rfl (hb hby at_116) rfl rfl ?_
      show Steps p.tables e below (T93.setTop (mkF m 118 #[.val (.int p0), .val (.int p1), .val (.int p2), .val (.int p3), .val (.int p4), .val (.int (3 : Int32)), .val (.int (Int32.ofNat xn)), .val (.int (Int32.ofNat yn)), .val (.int (Int32.ofNat zn)), .val (.int (((p4.toUInt32 >>> ((10 : Int32) &&& 31).toUInt32).toInt32) &&& (3 : Int32))), .val (.int (Int32.ofNat qn)), .val (.ref b86), .unset, .unset, .unset] [(.ref b86)])) _
      refine XS.iconst X93.here hx rfl (hb hby at_118) ?_
      show Steps p.tables e below (T93.setTop (mkF m 119 #[.val (.int p0), .val (.int p1), .val (.int p2), .val (.int p3), .val (.int p4), .val (.int (3 : Int32)), .val (.int (Int32.ofNat xn)), .val (.int (Int32.ofNat yn)), .val (.int (Int32.ofNat zn)), .val (.int (((p4.toUInt32 >>> ((10 : Int32) &&& 31).toUInt32).toInt32) &&& (3 : Int32))), .val (.int (Int32.ofNat qn)), .val (.ref b86), .unset, .unset, .unset] [(.int (2 : Int32)), (.ref b86)])) _
      refine XS.iload X93.here hx rfl (hb hby at_119) rfl ?_
      exact kt
    have Vc95 := V93
    obtain ⟨cl95, Ar95, qk95, S95, M95, H95, G95⟩ := Vc95
    have hin95 : ¬ ((2 : Int32) < 0 ∨ cl95.slots.size ≤ ((2 : Int32)).toNatClampNeg) := inb_of S95 ⟨by decide, by decide⟩
    obtain ⟨T96, h96, X96, e96, W96, st96⟩ := stI X93 hx hZ e93 Ar95 (j := (2 : Int32)) hin95 (g := (mkF m 121 #[.val (.int p0), .val (.int p1), .val (.int p2), .val (.int p3), .val (.int p4), .val (.int (3 : Int32)), .val (.int (Int32.ofNat xn)), .val (.int (Int32.ofNat yn)), .val (.int (Int32.ofNat zn)), .val (.int (((p4.toUInt32 >>> ((10 : Int32) &&& 31).toUInt32).toInt32) &&& (3 : Int32))), .val (.int (Int32.ofNat qn)), .val (.ref b86), .unset, .unset, .unset] [(.int (Int32.ofNat zn)), (.int (2 : Int32)), (.ref b86)])) rfl rfl (hb hby at_121)
    have V96 : Arv Z h96 b86 k86 .int (3 : Int32) [(.int (Int32.ofNat xn)), (.int (Int32.ofNat yn)), (.int (Int32.ofNat zn))] (.int (0 : Int32)) := Arv.set Ar95 qk95 S95 M95 H95 G95 rfl W96 2 rfl (Nat.le_of_ble_eq_true rfl)
    have N96 := Fr.snoc X96 N93 g_b86
    have c97 : ∀ t, Steps p.tables e below (T96.setTop (mkF m 124 #[.val (.int p0), .val (.int p1), .val (.int p2), .val (.int p3), .val (.int p4), .val (.int (3 : Int32)), .val (.int (Int32.ofNat xn)), .val (.int (Int32.ofNat yn)), .val (.int (Int32.ofNat zn)), .val (.int (((p4.toUInt32 >>> ((10 : Int32) &&& 31).toUInt32).toInt32) &&& (3 : Int32))), .val (.int (Int32.ofNat qn)), .val (.ref b86), .unset, .unset, .unset] [(.ref b86)])) t → Steps p.tables e below (T96.setTop (mkF m 122 #[.val (.int p0), .val (.int p1), .val (.int p2), .val (.int p3), .val (.int p4), .val (.int (3 : Int32)), .val (.int (Int32.ofNat xn)), .val (.int (Int32.ofNat yn)), .val (.int (Int32.ofNat zn)), .val (.int (((p4.toUInt32 >>> ((10 : Int32) &&& 31).toUInt32).toInt32) &&& (3 : Int32))), .val (.int (Int32.ofNat qn)), .val (.ref b86), .unset, .unset, .unset] [])) t := by
      intro t kt
      show Steps p.tables e below (T96.setTop (mkF m 122 #[.val (.int p0), .val (.int p1), .val (.int p2), .val (.int p3), .val (.int p4), .val (.int (3 : Int32)), .val (.int (Int32.ofNat xn)), .val (.int (Int32.ofNat yn)), .val (.int (Int32.ofNat zn)), .val (.int (((p4.toUInt32 >>> ((10 : Int32) &&& 31).toUInt32).toInt32) &&& (3 : Int32))), .val (.int (Int32.ofNat qn)), .val (.ref b86), .unset, .unset, .unset] [])) _
      refine XS.aload X96.here hx rfl (hb hby at_122) rfl rfl ?_
      exact kt
    have f98 := (Nat.le_trans (Nat.le_trans (Nat.le_trans (Nat.le_trans Z0 E86.1) (Keep.of_wr W90).1) (Keep.of_wr W93).1) (Keep.of_wr W96).1)
    obtain ⟨_, _, ⟨T99, L99, k99, n99⟩, -, X99, ⟨Lc99, hQ99, l99, y99, z99⟩, st99⟩ := Jvm.LawKit.callS X96 hx (y := (⟨"com/example/emex/emex/explain/Positions", "of", "([I)Lcom/example/emex/emex/explain/Positions;"⟩ : MethodName)) hown (mvT hZ (hw _ (List.mem_of_getElem? (i := 1) rfl))) (mvT hZ (hw _ (List.mem_of_getElem? (i := 2) rfl))) (mvT hZ (hw _ (List.mem_of_getElem? (i := 3) rfl))) (mvT hZ (hw _ (List.mem_of_getElem? (i := 4) rfl))) (by decide) (backOf (W := 0) (rm1_3 l Z a0 hw [] b86 k86 (.int (0 : Int32)) xn yn zn h96 n0 f98 V96 hxn hyn hzn) hZ (hw _ (List.mem_of_getElem? (i := 4) rfl)) (hw _ (List.mem_of_getElem? (i := 3) rfl)) (by decide) (by decide)) (g := (mkF m 124 #[.val (.int p0), .val (.int p1), .val (.int p2), .val (.int p3), .val (.int p4), .val (.int (3 : Int32)), .val (.int (Int32.ofNat xn)), .val (.int (Int32.ofNat yn)), .val (.int (Int32.ofNat zn)), .val (.int (((p4.toUInt32 >>> ((10 : Int32) &&& 31).toUInt32).toInt32) &&& (3 : Int32))), .val (.int (Int32.ofNat qn)), .val (.ref b86), .unset, .unset, .unset] [(.ref b86)])) rfl (by rw [hml]; rfl) (argsL := [(.ref b86)]) (rest := []) (lenOf pd_4 rfl) rfl (by show 2 * 0 + _ ≤ _; exact Nat.le_of_eq rfl) (hb hby at_124) (fun _ _ => ⟨rfl, e96, (by decide : 1 + 5 ≤ _), (by decide : 3 + 26 ≤ _)⟩)
    dsimp only [Pt.U, Pt.locs, Pt.cells, Pt.slots] at X99 l99 y99 z99 st99 hQ99
    subst l99 y99 z99
    obtain ⟨ob99, ot99, kk99, ln, hl8, hz, hp0, hp1, hp2, rfl, N99q, Kq99, g_ob99, Eq99, Fw99, Fs99, Vq99⟩ := hQ99
    have N99 := Fr.app N96 N99q
    have c100 : ∀ t, Steps p.tables e below (T99.setTop (mkF m 129 #[.val (.int p0), .val (.int p1), .val (.int p2), .val (.int p3), .val (.int p4), .val (.int (3 : Int32)), .val (.int (Int32.ofNat xn)), .val (.int (Int32.ofNat yn)), .val (.int (Int32.ofNat zn)), .val (.int (((p4.toUInt32 >>> ((10 : Int32) &&& 31).toUInt32).toInt32) &&& (3 : Int32))), .val (.int (Int32.ofNat qn)), .val (.ref b86), .val (.ref ob99), .unset, .unset] [])) t → Steps p.tables e below (T99.setTop (mkF m 127 #[.val (.int p0), .val (.int p1), .val (.int p2), .val (.int p3), .val (.int p4), .val (.int (3 : Int32)), .val (.int (Int32.ofNat xn)), .val (.int (Int32.ofNat yn)), .val (.int (Int32.ofNat zn)), .val (.int (((p4.toUInt32 >>> ((10 : Int32) &&& 31).toUInt32).toInt32) &&& (3 : Int32))), .val (.int (Int32.ofNat qn)), .val (.ref b86), .unset, .unset, .unset] [(.ref ob99)])) t := by
      intro t kt
      show Steps p.tables e below (T99.setTop (mkF m 127 #[.val (.int p0), .val (.int p1), .val (.int p2), .val (.int p3), .val (.int p4), .val (.int (3 : Int32)), .val (.int (Int32.ofNat xn)), .val (.int (Int32.ofNat yn)), .val (.int (Int32.ofNat zn)), .val (.int (((p4.toUInt32 >>> ((10 : Int32) &&& 31).toUInt32).toInt32) &&& (3 : Int32))), .val (.int (Int32.ofNat qn)), .val (.ref b86), .unset, .unset, .unset] [(.ref ob99)])) _
      refine XS.astore X99.here hx rfl (hb hby at_127) rfl rfl (l' := #[.val (.int p0), .val (.int p1), .val (.int p2), .val (.int p3), .val (.int p4), .val (.int (3 : Int32)), .val (.int (Int32.ofNat xn)), .val (.int (Int32.ofNat yn)), .val (.int (Int32.ofNat zn)), .val (.int (((p4.toUInt32 >>> ((10 : Int32) &&& 31).toUInt32).toInt32) &&& (3 : Int32))), .val (.int (Int32.ofNat qn)), .val (.ref b86), .val (.ref ob99), .unset, .unset]) rfl ?_
      exact kt
    have c101 : ∀ t, Steps p.tables e below (T99.setTop (mkF m 174 #[.val (.int p0), .val (.int p1), .val (.int p2), .val (.int p3), .val (.int p4), .val (.int (3 : Int32)), .val (.int (Int32.ofNat xn)), .val (.int (Int32.ofNat yn)), .val (.int (Int32.ofNat zn)), .val (.int (((p4.toUInt32 >>> ((10 : Int32) &&& 31).toUInt32).toInt32) &&& (3 : Int32))), .val (.int (Int32.ofNat qn)), .val (.ref b86), .val (.ref ob99), .val (.int (own_eh3 (Int32.ofNat qn) (Int32.ofNat xn) (Int32.ofNat yn) (Int32.ofNat zn))), .unset] [])) t → Steps p.tables e below (T99.setTop (mkF m 129 #[.val (.int p0), .val (.int p1), .val (.int p2), .val (.int p3), .val (.int p4), .val (.int (3 : Int32)), .val (.int (Int32.ofNat xn)), .val (.int (Int32.ofNat yn)), .val (.int (Int32.ofNat zn)), .val (.int (((p4.toUInt32 >>> ((10 : Int32) &&& 31).toUInt32).toInt32) &&& (3 : Int32))), .val (.int (Int32.ofNat qn)), .val (.ref b86), .val (.ref ob99), .unset, .unset] [])) t := by
      intro t kt
      show Steps p.tables e below (T99.setTop (mkF m 129 #[.val (.int p0), .val (.int p1), .val (.int p2), .val (.int p3), .val (.int p4), .val (.int (3 : Int32)), .val (.int (Int32.ofNat xn)), .val (.int (Int32.ofNat yn)), .val (.int (Int32.ofNat zn)), .val (.int (((p4.toUInt32 >>> ((10 : Int32) &&& 31).toUInt32).toInt32) &&& (3 : Int32))), .val (.int (Int32.ofNat qn)), .val (.ref b86), .val (.ref ob99), .unset, .unset] [])) _
      refine XS.iload X99.here hx rfl (hb hby at_129) rfl ?_
      show Steps p.tables e below (T99.setTop (mkF m 131 #[.val (.int p0), .val (.int p1), .val (.int p2), .val (.int p3), .val (.int p4), .val (.int (3 : Int32)), .val (.int (Int32.ofNat xn)), .val (.int (Int32.ofNat yn)), .val (.int (Int32.ofNat zn)), .val (.int (((p4.toUInt32 >>> ((10 : Int32) &&& 31).toUInt32).toInt32) &&& (3 : Int32))), .val (.int (Int32.ofNat qn)), .val (.ref b86), .val (.ref ob99), .unset, .unset] [(.int (3 : Int32))])) _
      refine XS.ifNo X99.here hx rfl (hb hby at_131) rfl ((if0 _ _).trans (tlt (by decide : (0 : Int32) < (3 : Int32))).2.2.2) ?_
      show Steps p.tables e below (T99.setTop (mkF m 134 #[.val (.int p0), .val (.int p1), .val (.int p2), .val (.int p3), .val (.int p4), .val (.int (3 : Int32)), .val (.int (Int32.ofNat xn)), .val (.int (Int32.ofNat yn)), .val (.int (Int32.ofNat zn)), .val (.int (((p4.toUInt32 >>> ((10 : Int32) &&& 31).toUInt32).toInt32) &&& (3 : Int32))), .val (.int (Int32.ofNat qn)), .val (.ref b86), .val (.ref ob99), .unset, .unset] [])) _
      refine XS.iload X99.here hx rfl (hb hby at_134) rfl ?_
      show Steps p.tables e below (T99.setTop (mkF m 136 #[.val (.int p0), .val (.int p1), .val (.int p2), .val (.int p3), .val (.int p4), .val (.int (3 : Int32)), .val (.int (Int32.ofNat xn)), .val (.int (Int32.ofNat yn)), .val (.int (Int32.ofNat zn)), .val (.int (((p4.toUInt32 >>> ((10 : Int32) &&& 31).toUInt32).toInt32) &&& (3 : Int32))), .val (.int (Int32.ofNat qn)), .val (.ref b86), .val (.ref ob99), .unset, .unset] [(.int (Int32.ofNat qn))])) _
      refine XS.iload X99.here hx rfl (hb hby at_136) rfl ?_
      by_cases hc138 : (Int32.ofNat qn) = (Int32.ofNat xn)
      · -- it is
        show Steps p.tables e below (T99.setTop (mkF m 138 #[.val (.int p0), .val (.int p1), .val (.int p2), .val (.int p3), .val (.int p4), .val (.int (3 : Int32)), .val (.int (Int32.ofNat xn)), .val (.int (Int32.ofNat yn)), .val (.int (Int32.ofNat zn)), .val (.int (((p4.toUInt32 >>> ((10 : Int32) &&& 31).toUInt32).toInt32) &&& (3 : Int32))), .val (.int (Int32.ofNat qn)), .val (.ref b86), .val (.ref ob99), .unset, .unset] [(.int (Int32.ofNat xn)), (.int (Int32.ofNat qn))])) _
        refine XS.icmpYes X99.here hx rfl (pc0 := 138) (pc' := 167) rfl (hb hby at_138) rfl (teq hc138).1 (by decide) (by decide) ?_
        show Steps p.tables e below (T99.setTop (mkF m 167 #[.val (.int p0), .val (.int p1), .val (.int p2), .val (.int p3), .val (.int p4), .val (.int (3 : Int32)), .val (.int (Int32.ofNat xn)), .val (.int (Int32.ofNat yn)), .val (.int (Int32.ofNat zn)), .val (.int (((p4.toUInt32 >>> ((10 : Int32) &&& 31).toUInt32).toInt32) &&& (3 : Int32))), .val (.int (Int32.ofNat qn)), .val (.ref b86), .val (.ref ob99), .unset, .unset] [])) _
        refine XS.iconst X99.here hx rfl (hb hby at_167) ?_
        show Steps p.tables e below (T99.setTop (mkF m 168 #[.val (.int p0), .val (.int p1), .val (.int p2), .val (.int p3), .val (.int p4), .val (.int (3 : Int32)), .val (.int (Int32.ofNat xn)), .val (.int (Int32.ofNat yn)), .val (.int (Int32.ofNat zn)), .val (.int (((p4.toUInt32 >>> ((10 : Int32) &&& 31).toUInt32).toInt32) &&& (3 : Int32))), .val (.int (Int32.ofNat qn)), .val (.ref b86), .val (.ref ob99), .unset, .unset] [(.int (1 : Int32))])) _
        refine XS.goto X99.here hx rfl (pc0 := 168) (pc' := 172) rfl (hb hby at_168) (by decide) (by decide) ?_
        show Steps p.tables e below (T99.setTop (mkF m 172 #[.val (.int p0), .val (.int p1), .val (.int p2), .val (.int p3), .val (.int p4), .val (.int (3 : Int32)), .val (.int (Int32.ofNat xn)), .val (.int (Int32.ofNat yn)), .val (.int (Int32.ofNat zn)), .val (.int (((p4.toUInt32 >>> ((10 : Int32) &&& 31).toUInt32).toInt32) &&& (3 : Int32))), .val (.int (Int32.ofNat qn)), .val (.ref b86), .val (.ref ob99), .unset, .unset] [(.int (1 : Int32))])) _
        refine XS.istore X99.here hx rfl (hb hby at_172) rfl (l' := #[.val (.int p0), .val (.int p1), .val (.int p2), .val (.int p3), .val (.int p4), .val (.int (3 : Int32)), .val (.int (Int32.ofNat xn)), .val (.int (Int32.ofNat yn)), .val (.int (Int32.ofNat zn)), .val (.int (((p4.toUInt32 >>> ((10 : Int32) &&& 31).toUInt32).toInt32) &&& (3 : Int32))), .val (.int (Int32.ofNat qn)), .val (.ref b86), .val (.ref ob99), .val (.int (1 : Int32)), .unset]) rfl ?_
        rw [show (own_eh3 (Int32.ofNat qn) (Int32.ofNat xn) (Int32.ofNat yn) (Int32.ofNat zn)) = (1 : Int32) from by unfold own_eh3; rw [if_pos hc138]] at kt
        exact kt
      · -- it isn't
        show Steps p.tables e below (T99.setTop (mkF m 138 #[.val (.int p0), .val (.int p1), .val (.int p2), .val (.int p3), .val (.int p4), .val (.int (3 : Int32)), .val (.int (Int32.ofNat xn)), .val (.int (Int32.ofNat yn)), .val (.int (Int32.ofNat zn)), .val (.int (((p4.toUInt32 >>> ((10 : Int32) &&& 31).toUInt32).toInt32) &&& (3 : Int32))), .val (.int (Int32.ofNat qn)), .val (.ref b86), .val (.ref ob99), .unset, .unset] [(.int (Int32.ofNat xn)), (.int (Int32.ofNat qn))])) _
        refine XS.icmpNo X99.here hx rfl (hb hby at_138) rfl (feq hc138).1 ?_
        show Steps p.tables e below (T99.setTop (mkF m 141 #[.val (.int p0), .val (.int p1), .val (.int p2), .val (.int p3), .val (.int p4), .val (.int (3 : Int32)), .val (.int (Int32.ofNat xn)), .val (.int (Int32.ofNat yn)), .val (.int (Int32.ofNat zn)), .val (.int (((p4.toUInt32 >>> ((10 : Int32) &&& 31).toUInt32).toInt32) &&& (3 : Int32))), .val (.int (Int32.ofNat qn)), .val (.ref b86), .val (.ref ob99), .unset, .unset] [])) _
        refine XS.iload X99.here hx rfl (hb hby at_141) rfl ?_
        show Steps p.tables e below (T99.setTop (mkF m 143 #[.val (.int p0), .val (.int p1), .val (.int p2), .val (.int p3), .val (.int p4), .val (.int (3 : Int32)), .val (.int (Int32.ofNat xn)), .val (.int (Int32.ofNat yn)), .val (.int (Int32.ofNat zn)), .val (.int (((p4.toUInt32 >>> ((10 : Int32) &&& 31).toUInt32).toInt32) &&& (3 : Int32))), .val (.int (Int32.ofNat qn)), .val (.ref b86), .val (.ref ob99), .unset, .unset] [(.int (3 : Int32))])) _
        refine XS.iconst X99.here hx rfl (hb hby at_143) ?_
        show Steps p.tables e below (T99.setTop (mkF m 144 #[.val (.int p0), .val (.int p1), .val (.int p2), .val (.int p3), .val (.int p4), .val (.int (3 : Int32)), .val (.int (Int32.ofNat xn)), .val (.int (Int32.ofNat yn)), .val (.int (Int32.ofNat zn)), .val (.int (((p4.toUInt32 >>> ((10 : Int32) &&& 31).toUInt32).toInt32) &&& (3 : Int32))), .val (.int (Int32.ofNat qn)), .val (.ref b86), .val (.ref ob99), .unset, .unset] [(.int (1 : Int32)), (.int (3 : Int32))])) _
        refine XS.icmpNo X99.here hx rfl (hb hby at_144) rfl (tlt (by decide : (1 : Int32) < (3 : Int32))).2.2.2 ?_
        show Steps p.tables e below (T99.setTop (mkF m 147 #[.val (.int p0), .val (.int p1), .val (.int p2), .val (.int p3), .val (.int p4), .val (.int (3 : Int32)), .val (.int (Int32.ofNat xn)), .val (.int (Int32.ofNat yn)), .val (.int (Int32.ofNat zn)), .val (.int (((p4.toUInt32 >>> ((10 : Int32) &&& 31).toUInt32).toInt32) &&& (3 : Int32))), .val (.int (Int32.ofNat qn)), .val (.ref b86), .val (.ref ob99), .unset, .unset] [])) _
        refine XS.iload X99.here hx rfl (hb hby at_147) rfl ?_
        show Steps p.tables e below (T99.setTop (mkF m 149 #[.val (.int p0), .val (.int p1), .val (.int p2), .val (.int p3), .val (.int p4), .val (.int (3 : Int32)), .val (.int (Int32.ofNat xn)), .val (.int (Int32.ofNat yn)), .val (.int (Int32.ofNat zn)), .val (.int (((p4.toUInt32 >>> ((10 : Int32) &&& 31).toUInt32).toInt32) &&& (3 : Int32))), .val (.int (Int32.ofNat qn)), .val (.ref b86), .val (.ref ob99), .unset, .unset] [(.int (Int32.ofNat qn))])) _
        refine XS.iload X99.here hx rfl (hb hby at_149) rfl ?_
        by_cases hc151 : (Int32.ofNat qn) = (Int32.ofNat yn)
        · -- it is
          show Steps p.tables e below (T99.setTop (mkF m 151 #[.val (.int p0), .val (.int p1), .val (.int p2), .val (.int p3), .val (.int p4), .val (.int (3 : Int32)), .val (.int (Int32.ofNat xn)), .val (.int (Int32.ofNat yn)), .val (.int (Int32.ofNat zn)), .val (.int (((p4.toUInt32 >>> ((10 : Int32) &&& 31).toUInt32).toInt32) &&& (3 : Int32))), .val (.int (Int32.ofNat qn)), .val (.ref b86), .val (.ref ob99), .unset, .unset] [(.int (Int32.ofNat yn)), (.int (Int32.ofNat qn))])) _
          refine XS.icmpYes X99.here hx rfl (pc0 := 151) (pc' := 167) rfl (hb hby at_151) rfl (teq hc151).1 (by decide) (by decide) ?_
          show Steps p.tables e below (T99.setTop (mkF m 167 #[.val (.int p0), .val (.int p1), .val (.int p2), .val (.int p3), .val (.int p4), .val (.int (3 : Int32)), .val (.int (Int32.ofNat xn)), .val (.int (Int32.ofNat yn)), .val (.int (Int32.ofNat zn)), .val (.int (((p4.toUInt32 >>> ((10 : Int32) &&& 31).toUInt32).toInt32) &&& (3 : Int32))), .val (.int (Int32.ofNat qn)), .val (.ref b86), .val (.ref ob99), .unset, .unset] [])) _
          refine XS.iconst X99.here hx rfl (hb hby at_167) ?_
          show Steps p.tables e below (T99.setTop (mkF m 168 #[.val (.int p0), .val (.int p1), .val (.int p2), .val (.int p3), .val (.int p4), .val (.int (3 : Int32)), .val (.int (Int32.ofNat xn)), .val (.int (Int32.ofNat yn)), .val (.int (Int32.ofNat zn)), .val (.int (((p4.toUInt32 >>> ((10 : Int32) &&& 31).toUInt32).toInt32) &&& (3 : Int32))), .val (.int (Int32.ofNat qn)), .val (.ref b86), .val (.ref ob99), .unset, .unset] [(.int (1 : Int32))])) _
          refine XS.goto X99.here hx rfl (pc0 := 168) (pc' := 172) rfl (hb hby at_168) (by decide) (by decide) ?_
          show Steps p.tables e below (T99.setTop (mkF m 172 #[.val (.int p0), .val (.int p1), .val (.int p2), .val (.int p3), .val (.int p4), .val (.int (3 : Int32)), .val (.int (Int32.ofNat xn)), .val (.int (Int32.ofNat yn)), .val (.int (Int32.ofNat zn)), .val (.int (((p4.toUInt32 >>> ((10 : Int32) &&& 31).toUInt32).toInt32) &&& (3 : Int32))), .val (.int (Int32.ofNat qn)), .val (.ref b86), .val (.ref ob99), .unset, .unset] [(.int (1 : Int32))])) _
          refine XS.istore X99.here hx rfl (hb hby at_172) rfl (l' := #[.val (.int p0), .val (.int p1), .val (.int p2), .val (.int p3), .val (.int p4), .val (.int (3 : Int32)), .val (.int (Int32.ofNat xn)), .val (.int (Int32.ofNat yn)), .val (.int (Int32.ofNat zn)), .val (.int (((p4.toUInt32 >>> ((10 : Int32) &&& 31).toUInt32).toInt32) &&& (3 : Int32))), .val (.int (Int32.ofNat qn)), .val (.ref b86), .val (.ref ob99), .val (.int (1 : Int32)), .unset]) rfl ?_
          rw [show (own_eh3 (Int32.ofNat qn) (Int32.ofNat xn) (Int32.ofNat yn) (Int32.ofNat zn)) = (1 : Int32) from by unfold own_eh3; rw [if_neg hc138, if_pos hc151]] at kt
          exact kt
        · -- it isn't
          show Steps p.tables e below (T99.setTop (mkF m 151 #[.val (.int p0), .val (.int p1), .val (.int p2), .val (.int p3), .val (.int p4), .val (.int (3 : Int32)), .val (.int (Int32.ofNat xn)), .val (.int (Int32.ofNat yn)), .val (.int (Int32.ofNat zn)), .val (.int (((p4.toUInt32 >>> ((10 : Int32) &&& 31).toUInt32).toInt32) &&& (3 : Int32))), .val (.int (Int32.ofNat qn)), .val (.ref b86), .val (.ref ob99), .unset, .unset] [(.int (Int32.ofNat yn)), (.int (Int32.ofNat qn))])) _
          refine XS.icmpNo X99.here hx rfl (hb hby at_151) rfl (feq hc151).1 ?_
          show Steps p.tables e below (T99.setTop (mkF m 154 #[.val (.int p0), .val (.int p1), .val (.int p2), .val (.int p3), .val (.int p4), .val (.int (3 : Int32)), .val (.int (Int32.ofNat xn)), .val (.int (Int32.ofNat yn)), .val (.int (Int32.ofNat zn)), .val (.int (((p4.toUInt32 >>> ((10 : Int32) &&& 31).toUInt32).toInt32) &&& (3 : Int32))), .val (.int (Int32.ofNat qn)), .val (.ref b86), .val (.ref ob99), .unset, .unset] [])) _
          refine XS.iload X99.here hx rfl (hb hby at_154) rfl ?_
          show Steps p.tables e below (T99.setTop (mkF m 156 #[.val (.int p0), .val (.int p1), .val (.int p2), .val (.int p3), .val (.int p4), .val (.int (3 : Int32)), .val (.int (Int32.ofNat xn)), .val (.int (Int32.ofNat yn)), .val (.int (Int32.ofNat zn)), .val (.int (((p4.toUInt32 >>> ((10 : Int32) &&& 31).toUInt32).toInt32) &&& (3 : Int32))), .val (.int (Int32.ofNat qn)), .val (.ref b86), .val (.ref ob99), .unset, .unset] [(.int (3 : Int32))])) _
          refine XS.iconst X99.here hx rfl (hb hby at_156) ?_
          show Steps p.tables e below (T99.setTop (mkF m 157 #[.val (.int p0), .val (.int p1), .val (.int p2), .val (.int p3), .val (.int p4), .val (.int (3 : Int32)), .val (.int (Int32.ofNat xn)), .val (.int (Int32.ofNat yn)), .val (.int (Int32.ofNat zn)), .val (.int (((p4.toUInt32 >>> ((10 : Int32) &&& 31).toUInt32).toInt32) &&& (3 : Int32))), .val (.int (Int32.ofNat qn)), .val (.ref b86), .val (.ref ob99), .unset, .unset] [(.int (2 : Int32)), (.int (3 : Int32))])) _
          refine XS.icmpNo X99.here hx rfl (hb hby at_157) rfl (tlt (by decide : (2 : Int32) < (3 : Int32))).2.2.2 ?_
          show Steps p.tables e below (T99.setTop (mkF m 160 #[.val (.int p0), .val (.int p1), .val (.int p2), .val (.int p3), .val (.int p4), .val (.int (3 : Int32)), .val (.int (Int32.ofNat xn)), .val (.int (Int32.ofNat yn)), .val (.int (Int32.ofNat zn)), .val (.int (((p4.toUInt32 >>> ((10 : Int32) &&& 31).toUInt32).toInt32) &&& (3 : Int32))), .val (.int (Int32.ofNat qn)), .val (.ref b86), .val (.ref ob99), .unset, .unset] [])) _
          refine XS.iload X99.here hx rfl (hb hby at_160) rfl ?_
          show Steps p.tables e below (T99.setTop (mkF m 162 #[.val (.int p0), .val (.int p1), .val (.int p2), .val (.int p3), .val (.int p4), .val (.int (3 : Int32)), .val (.int (Int32.ofNat xn)), .val (.int (Int32.ofNat yn)), .val (.int (Int32.ofNat zn)), .val (.int (((p4.toUInt32 >>> ((10 : Int32) &&& 31).toUInt32).toInt32) &&& (3 : Int32))), .val (.int (Int32.ofNat qn)), .val (.ref b86), .val (.ref ob99), .unset, .unset] [(.int (Int32.ofNat qn))])) _
          refine XS.iload X99.here hx rfl (hb hby at_162) rfl ?_
          by_cases hc164 : (Int32.ofNat qn) = (Int32.ofNat zn)
          · -- it is
            show Steps p.tables e below (T99.setTop (mkF m 164 #[.val (.int p0), .val (.int p1), .val (.int p2), .val (.int p3), .val (.int p4), .val (.int (3 : Int32)), .val (.int (Int32.ofNat xn)), .val (.int (Int32.ofNat yn)), .val (.int (Int32.ofNat zn)), .val (.int (((p4.toUInt32 >>> ((10 : Int32) &&& 31).toUInt32).toInt32) &&& (3 : Int32))), .val (.int (Int32.ofNat qn)), .val (.ref b86), .val (.ref ob99), .unset, .unset] [(.int (Int32.ofNat zn)), (.int (Int32.ofNat qn))])) _
            refine XS.icmpNo X99.here hx rfl (hb hby at_164) rfl (teq hc164).2 ?_
            show Steps p.tables e below (T99.setTop (mkF m 167 #[.val (.int p0), .val (.int p1), .val (.int p2), .val (.int p3), .val (.int p4), .val (.int (3 : Int32)), .val (.int (Int32.ofNat xn)), .val (.int (Int32.ofNat yn)), .val (.int (Int32.ofNat zn)), .val (.int (((p4.toUInt32 >>> ((10 : Int32) &&& 31).toUInt32).toInt32) &&& (3 : Int32))), .val (.int (Int32.ofNat qn)), .val (.ref b86), .val (.ref ob99), .unset, .unset] [])) _
            refine XS.iconst X99.here hx rfl (hb hby at_167) ?_
            show Steps p.tables e below (T99.setTop (mkF m 168 #[.val (.int p0), .val (.int p1), .val (.int p2), .val (.int p3), .val (.int p4), .val (.int (3 : Int32)), .val (.int (Int32.ofNat xn)), .val (.int (Int32.ofNat yn)), .val (.int (Int32.ofNat zn)), .val (.int (((p4.toUInt32 >>> ((10 : Int32) &&& 31).toUInt32).toInt32) &&& (3 : Int32))), .val (.int (Int32.ofNat qn)), .val (.ref b86), .val (.ref ob99), .unset, .unset] [(.int (1 : Int32))])) _
            refine XS.goto X99.here hx rfl (pc0 := 168) (pc' := 172) rfl (hb hby at_168) (by decide) (by decide) ?_
            show Steps p.tables e below (T99.setTop (mkF m 172 #[.val (.int p0), .val (.int p1), .val (.int p2), .val (.int p3), .val (.int p4), .val (.int (3 : Int32)), .val (.int (Int32.ofNat xn)), .val (.int (Int32.ofNat yn)), .val (.int (Int32.ofNat zn)), .val (.int (((p4.toUInt32 >>> ((10 : Int32) &&& 31).toUInt32).toInt32) &&& (3 : Int32))), .val (.int (Int32.ofNat qn)), .val (.ref b86), .val (.ref ob99), .unset, .unset] [(.int (1 : Int32))])) _
            refine XS.istore X99.here hx rfl (hb hby at_172) rfl (l' := #[.val (.int p0), .val (.int p1), .val (.int p2), .val (.int p3), .val (.int p4), .val (.int (3 : Int32)), .val (.int (Int32.ofNat xn)), .val (.int (Int32.ofNat yn)), .val (.int (Int32.ofNat zn)), .val (.int (((p4.toUInt32 >>> ((10 : Int32) &&& 31).toUInt32).toInt32) &&& (3 : Int32))), .val (.int (Int32.ofNat qn)), .val (.ref b86), .val (.ref ob99), .val (.int (1 : Int32)), .unset]) rfl ?_
            rw [show (own_eh3 (Int32.ofNat qn) (Int32.ofNat xn) (Int32.ofNat yn) (Int32.ofNat zn)) = (1 : Int32) from by unfold own_eh3; rw [if_neg hc138, if_neg hc151, if_pos hc164]] at kt
            exact kt
          · -- it isn't
            show Steps p.tables e below (T99.setTop (mkF m 164 #[.val (.int p0), .val (.int p1), .val (.int p2), .val (.int p3), .val (.int p4), .val (.int (3 : Int32)), .val (.int (Int32.ofNat xn)), .val (.int (Int32.ofNat yn)), .val (.int (Int32.ofNat zn)), .val (.int (((p4.toUInt32 >>> ((10 : Int32) &&& 31).toUInt32).toInt32) &&& (3 : Int32))), .val (.int (Int32.ofNat qn)), .val (.ref b86), .val (.ref ob99), .unset, .unset] [(.int (Int32.ofNat zn)), (.int (Int32.ofNat qn))])) _
            refine XS.icmpYes X99.here hx rfl (pc0 := 164) (pc' := 171) rfl (hb hby at_164) rfl (feq hc164).2 (by decide) (by decide) ?_
            show Steps p.tables e below (T99.setTop (mkF m 171 #[.val (.int p0), .val (.int p1), .val (.int p2), .val (.int p3), .val (.int p4), .val (.int (3 : Int32)), .val (.int (Int32.ofNat xn)), .val (.int (Int32.ofNat yn)), .val (.int (Int32.ofNat zn)), .val (.int (((p4.toUInt32 >>> ((10 : Int32) &&& 31).toUInt32).toInt32) &&& (3 : Int32))), .val (.int (Int32.ofNat qn)), .val (.ref b86), .val (.ref ob99), .unset, .unset] [])) _
            refine XS.iconst X99.here hx rfl (hb hby at_171) ?_
            show Steps p.tables e below (T99.setTop (mkF m 172 #[.val (.int p0), .val (.int p1), .val (.int p2), .val (.int p3), .val (.int p4), .val (.int (3 : Int32)), .val (.int (Int32.ofNat xn)), .val (.int (Int32.ofNat yn)), .val (.int (Int32.ofNat zn)), .val (.int (((p4.toUInt32 >>> ((10 : Int32) &&& 31).toUInt32).toInt32) &&& (3 : Int32))), .val (.int (Int32.ofNat qn)), .val (.ref b86), .val (.ref ob99), .unset, .unset] [(.int (0 : Int32))])) _
            refine XS.istore X99.here hx rfl (hb hby at_172) rfl (l' := #[.val (.int p0), .val (.int p1), .val (.int p2), .val (.int p3), .val (.int p4), .val (.int (3 : Int32)), .val (.int (Int32.ofNat xn)), .val (.int (Int32.ofNat yn)), .val (.int (Int32.ofNat zn)), .val (.int (((p4.toUInt32 >>> ((10 : Int32) &&& 31).toUInt32).toInt32) &&& (3 : Int32))), .val (.int (Int32.ofNat qn)), .val (.ref b86), .val (.ref ob99), .val (.int (0 : Int32)), .unset]) rfl ?_
            rw [show (own_eh3 (Int32.ofNat qn) (Int32.ofNat xn) (Int32.ofNat yn) (Int32.ofNat zn)) = (0 : Int32) from by unfold own_eh3; rw [if_neg hc138, if_neg hc151, if_neg hc164]] at kt
            exact kt
    have c102 : ∀ t, Steps p.tables e below (T99.setTop (mkF m 233 #[.val (.int p0), .val (.int p1), .val (.int p2), .val (.int p3), .val (.int p4), .val (.int (3 : Int32)), .val (.int (Int32.ofNat xn)), .val (.int (Int32.ofNat yn)), .val (.int (Int32.ofNat zn)), .val (.int (((p4.toUInt32 >>> ((10 : Int32) &&& 31).toUInt32).toInt32) &&& (3 : Int32))), .val (.int (Int32.ofNat qn)), .val (.ref b86), .val (.ref ob99), .val (.int (own_eh3 (Int32.ofNat qn) (Int32.ofNat xn) (Int32.ofNat yn) (Int32.ofNat zn))), .val (.int (own_es3 (Int32.ofNat xn) (Int32.ofNat yn) (Int32.ofNat zn)))] [])) t → Steps p.tables e below (T99.setTop (mkF m 174 #[.val (.int p0), .val (.int p1), .val (.int p2), .val (.int p3), .val (.int p4), .val (.int (3 : Int32)), .val (.int (Int32.ofNat xn)), .val (.int (Int32.ofNat yn)), .val (.int (Int32.ofNat zn)), .val (.int (((p4.toUInt32 >>> ((10 : Int32) &&& 31).toUInt32).toInt32) &&& (3 : Int32))), .val (.int (Int32.ofNat qn)), .val (.ref b86), .val (.ref ob99), .val (.int (own_eh3 (Int32.ofNat qn) (Int32.ofNat xn) (Int32.ofNat yn) (Int32.ofNat zn))), .unset] [])) t := by
      intro t kt
      show Steps p.tables e below (T99.setTop (mkF m 174 #[.val (.int p0), .val (.int p1), .val (.int p2), .val (.int p3), .val (.int p4), .val (.int (3 : Int32)), .val (.int (Int32.ofNat xn)), .val (.int (Int32.ofNat yn)), .val (.int (Int32.ofNat zn)), .val (.int (((p4.toUInt32 >>> ((10 : Int32) &&& 31).toUInt32).toInt32) &&& (3 : Int32))), .val (.int (Int32.ofNat qn)), .val (.ref b86), .val (.ref ob99), .val (.int (own_eh3 (Int32.ofNat qn) (Int32.ofNat xn) (Int32.ofNat yn) (Int32.ofNat zn))), .unset] [])) _
      refine XS.iconst X99.here hx rfl (hb hby at_174) ?_
      show Steps p.tables e below (T99.setTop (mkF m 175 #[.val (.int p0), .val (.int p1), .val (.int p2), .val (.int p3), .val (.int p4), .val (.int (3 : Int32)), .val (.int (Int32.ofNat xn)), .val (.int (Int32.ofNat yn)), .val (.int (Int32.ofNat zn)), .val (.int (((p4.toUInt32 >>> ((10 : Int32) &&& 31).toUInt32).toInt32) &&& (3 : Int32))), .val (.int (Int32.ofNat qn)), .val (.ref b86), .val (.ref ob99), .val (.int (own_eh3 (Int32.ofNat qn) (Int32.ofNat xn) (Int32.ofNat yn) (Int32.ofNat zn))), .unset] [(.int (0 : Int32))])) _
      refine XS.istore X99.here hx rfl (hb hby at_175) rfl (l' := #[.val (.int p0), .val (.int p1), .val (.int p2), .val (.int p3), .val (.int p4), .val (.int (3 : Int32)), .val (.int (Int32.ofNat xn)), .val (.int (Int32.ofNat yn)), .val (.int (Int32.ofNat zn)), .val (.int (((p4.toUInt32 >>> ((10 : Int32) &&& 31).toUInt32).toInt32) &&& (3 : Int32))), .val (.int (Int32.ofNat qn)), .val (.ref b86), .val (.ref ob99), .val (.int (own_eh3 (Int32.ofNat qn) (Int32.ofNat xn) (Int32.ofNat yn) (Int32.ofNat zn))), .val (.int (0 : Int32))]) rfl ?_
      show Steps p.tables e below (T99.setTop (mkF m 177 #[.val (.int p0), .val (.int p1), .val (.int p2), .val (.int p3), .val (.int p4), .val (.int (3 : Int32)), .val (.int (Int32.ofNat xn)), .val (.int (Int32.ofNat yn)), .val (.int (Int32.ofNat zn)), .val (.int (((p4.toUInt32 >>> ((10 : Int32) &&& 31).toUInt32).toInt32) &&& (3 : Int32))), .val (.int (Int32.ofNat qn)), .val (.ref b86), .val (.ref ob99), .val (.int (own_eh3 (Int32.ofNat qn) (Int32.ofNat xn) (Int32.ofNat yn) (Int32.ofNat zn))), .val (.int (0 : Int32))] [])) _
      refine XS.iload X99.here hx rfl (hb hby at_177) rfl ?_
      show Steps p.tables e below (T99.setTop (mkF m 179 #[.val (.int p0), .val (.int p1), .val (.int p2), .val (.int p3), .val (.int p4), .val (.int (3 : Int32)), .val (.int (Int32.ofNat xn)), .val (.int (Int32.ofNat yn)), .val (.int (Int32.ofNat zn)), .val (.int (((p4.toUInt32 >>> ((10 : Int32) &&& 31).toUInt32).toInt32) &&& (3 : Int32))), .val (.int (Int32.ofNat qn)), .val (.ref b86), .val (.ref ob99), .val (.int (own_eh3 (Int32.ofNat qn) (Int32.ofNat xn) (Int32.ofNat yn) (Int32.ofNat zn))), .val (.int (0 : Int32))] [(.int (3 : Int32))])) _
      refine XS.ifNo X99.here hx rfl (hb hby at_179) rfl ((if0 _ _).trans (tlt (by decide : (0 : Int32) < (3 : Int32))).2.2.2) ?_
      show Steps p.tables e below (T99.setTop (mkF m 182 #[.val (.int p0), .val (.int p1), .val (.int p2), .val (.int p3), .val (.int p4), .val (.int (3 : Int32)), .val (.int (Int32.ofNat xn)), .val (.int (Int32.ofNat yn)), .val (.int (Int32.ofNat zn)), .val (.int (((p4.toUInt32 >>> ((10 : Int32) &&& 31).toUInt32).toInt32) &&& (3 : Int32))), .val (.int (Int32.ofNat qn)), .val (.ref b86), .val (.ref ob99), .val (.int (own_eh3 (Int32.ofNat qn) (Int32.ofNat xn) (Int32.ofNat yn) (Int32.ofNat zn))), .val (.int (0 : Int32))] [])) _
      refine XS.iload X99.here hx rfl (hb hby at_182) rfl ?_
      show Steps p.tables e below (T99.setTop (mkF m 184 #[.val (.int p0), .val (.int p1), .val (.int p2), .val (.int p3), .val (.int p4), .val (.int (3 : Int32)), .val (.int (Int32.ofNat xn)), .val (.int (Int32.ofNat yn)), .val (.int (Int32.ofNat zn)), .val (.int (((p4.toUInt32 >>> ((10 : Int32) &&& 31).toUInt32).toInt32) &&& (3 : Int32))), .val (.int (Int32.ofNat qn)), .val (.ref b86), .val (.ref ob99), .val (.int (own_eh3 (Int32.ofNat qn) (Int32.ofNat xn) (Int32.ofNat yn) (Int32.ofNat zn))), .val (.int (0 : Int32))] [(.int (0 : Int32))])) _
      refine XS.iconst X99.here hx rfl (hb hby at_184) ?_
      show Steps p.tables e below (T99.setTop (mkF m 185 #[.val (.int p0), .val (.int p1), .val (.int p2), .val (.int p3), .val (.int p4), .val (.int (3 : Int32)), .val (.int (Int32.ofNat xn)), .val (.int (Int32.ofNat yn)), .val (.int (Int32.ofNat zn)), .val (.int (((p4.toUInt32 >>> ((10 : Int32) &&& 31).toUInt32).toInt32) &&& (3 : Int32))), .val (.int (Int32.ofNat qn)), .val (.ref b86), .val (.ref ob99), .val (.int (own_eh3 (Int32.ofNat qn) (Int32.ofNat xn) (Int32.ofNat yn) (Int32.ofNat zn))), .val (.int (0 : Int32))] [(.int (1 : Int32)), (.int (0 : Int32))])) _
      refine XS.iadd X99.here hx rfl (hb hby at_185) rfl ?_
      show Steps p.tables e below (T99.setTop (mkF m 186 #[.val (.int p0), .val (.int p1), .val (.int p2), .val (.int p3), .val (.int p4), .val (.int (3 : Int32)), .val (.int (Int32.ofNat xn)), .val (.int (Int32.ofNat yn)), .val (.int (Int32.ofNat zn)), .val (.int (((p4.toUInt32 >>> ((10 : Int32) &&& 31).toUInt32).toInt32) &&& (3 : Int32))), .val (.int (Int32.ofNat qn)), .val (.ref b86), .val (.ref ob99), .val (.int (own_eh3 (Int32.ofNat qn) (Int32.ofNat xn) (Int32.ofNat yn) (Int32.ofNat zn))), .val (.int (0 : Int32))] [(.int ((0 : Int32) + (1 : Int32)))])) _
      refine XS.istore X99.here hx rfl (hb hby at_186) rfl (l' := #[.val (.int p0), .val (.int p1), .val (.int p2), .val (.int p3), .val (.int p4), .val (.int (3 : Int32)), .val (.int (Int32.ofNat xn)), .val (.int (Int32.ofNat yn)), .val (.int (Int32.ofNat zn)), .val (.int (((p4.toUInt32 >>> ((10 : Int32) &&& 31).toUInt32).toInt32) &&& (3 : Int32))), .val (.int (Int32.ofNat qn)), .val (.ref b86), .val (.ref ob99), .val (.int (own_eh3 (Int32.ofNat qn) (Int32.ofNat xn) (Int32.ofNat yn) (Int32.ofNat zn))), .val (.int ((0 : Int32) + (1 : Int32)))]) rfl ?_
      show Steps p.tables e below (T99.setTop (mkF m 188 #[.val (.int p0), .val (.int p1), .val (.int p2), .val (.int p3), .val (.int p4), .val (.int (3 : Int32)), .val (.int (Int32.ofNat xn)), .val (.int (Int32.ofNat yn)), .val (.int (Int32.ofNat zn)), .val (.int (((p4.toUInt32 >>> ((10 : Int32) &&& 31).toUInt32).toInt32) &&& (3 : Int32))), .val (.int (Int32.ofNat qn)), .val (.ref b86), .val (.ref ob99), .val (.int (own_eh3 (Int32.ofNat qn) (Int32.ofNat xn) (Int32.ofNat yn) (Int32.ofNat zn))), .val (.int ((0 : Int32) + (1 : Int32)))] [])) _
      refine XS.iload X99.here hx rfl (hb hby at_188) rfl ?_
      show Steps p.tables e below (T99.setTop (mkF m 190 #[.val (.int p0), .val (.int p1), .val (.int p2), .val (.int p3), .val (.int p4), .val (.int (3 : Int32)), .val (.int (Int32.ofNat xn)), .val (.int (Int32.ofNat yn)), .val (.int (Int32.ofNat zn)), .val (.int (((p4.toUInt32 >>> ((10 : Int32) &&& 31).toUInt32).toInt32) &&& (3 : Int32))), .val (.int (Int32.ofNat qn)), .val (.ref b86), .val (.ref ob99), .val (.int (own_eh3 (Int32.ofNat qn) (Int32.ofNat xn) (Int32.ofNat yn) (Int32.ofNat zn))), .val (.int ((0 : Int32) + (1 : Int32)))] [(.int (3 : Int32))])) _
      refine XS.iconst X99.here hx rfl (hb hby at_190) ?_
      show Steps p.tables e below (T99.setTop (mkF m 191 #[.val (.int p0), .val (.int p1), .val (.int p2), .val (.int p3), .val (.int p4), .val (.int (3 : Int32)), .val (.int (Int32.ofNat xn)), .val (.int (Int32.ofNat yn)), .val (.int (Int32.ofNat zn)), .val (.int (((p4.toUInt32 >>> ((10 : Int32) &&& 31).toUInt32).toInt32) &&& (3 : Int32))), .val (.int (Int32.ofNat qn)), .val (.ref b86), .val (.ref ob99), .val (.int (own_eh3 (Int32.ofNat qn) (Int32.ofNat xn) (Int32.ofNat yn) (Int32.ofNat zn))), .val (.int ((0 : Int32) + (1 : Int32)))] [(.int (1 : Int32)), (.int (3 : Int32))])) _
      refine XS.icmpNo X99.here hx rfl (hb hby at_191) rfl (tlt (by decide : (1 : Int32) < (3 : Int32))).2.2.2 ?_
      show Steps p.tables e below (T99.setTop (mkF m 194 #[.val (.int p0), .val (.int p1), .val (.int p2), .val (.int p3), .val (.int p4), .val (.int (3 : Int32)), .val (.int (Int32.ofNat xn)), .val (.int (Int32.ofNat yn)), .val (.int (Int32.ofNat zn)), .val (.int (((p4.toUInt32 >>> ((10 : Int32) &&& 31).toUInt32).toInt32) &&& (3 : Int32))), .val (.int (Int32.ofNat qn)), .val (.ref b86), .val (.ref ob99), .val (.int (own_eh3 (Int32.ofNat qn) (Int32.ofNat xn) (Int32.ofNat yn) (Int32.ofNat zn))), .val (.int ((0 : Int32) + (1 : Int32)))] [])) _
      refine XS.iload X99.here hx rfl (hb hby at_194) rfl ?_
      show Steps p.tables e below (T99.setTop (mkF m 196 #[.val (.int p0), .val (.int p1), .val (.int p2), .val (.int p3), .val (.int p4), .val (.int (3 : Int32)), .val (.int (Int32.ofNat xn)), .val (.int (Int32.ofNat yn)), .val (.int (Int32.ofNat zn)), .val (.int (((p4.toUInt32 >>> ((10 : Int32) &&& 31).toUInt32).toInt32) &&& (3 : Int32))), .val (.int (Int32.ofNat qn)), .val (.ref b86), .val (.ref ob99), .val (.int (own_eh3 (Int32.ofNat qn) (Int32.ofNat xn) (Int32.ofNat yn) (Int32.ofNat zn))), .val (.int ((0 : Int32) + (1 : Int32)))] [(.int (Int32.ofNat yn))])) _
      refine XS.iload X99.here hx rfl (hb hby at_196) rfl ?_
      by_cases hc198 : (Int32.ofNat yn) = (Int32.ofNat xn)
      · -- it is
        show Steps p.tables e below (T99.setTop (mkF m 198 #[.val (.int p0), .val (.int p1), .val (.int p2), .val (.int p3), .val (.int p4), .val (.int (3 : Int32)), .val (.int (Int32.ofNat xn)), .val (.int (Int32.ofNat yn)), .val (.int (Int32.ofNat zn)), .val (.int (((p4.toUInt32 >>> ((10 : Int32) &&& 31).toUInt32).toInt32) &&& (3 : Int32))), .val (.int (Int32.ofNat qn)), .val (.ref b86), .val (.ref ob99), .val (.int (own_eh3 (Int32.ofNat qn) (Int32.ofNat xn) (Int32.ofNat yn) (Int32.ofNat zn))), .val (.int ((0 : Int32) + (1 : Int32)))] [(.int (Int32.ofNat xn)), (.int (Int32.ofNat yn))])) _
        refine XS.icmpYes X99.here hx rfl (pc0 := 198) (pc' := 207) rfl (hb hby at_198) rfl (teq hc198).1 (by decide) (by decide) ?_
        show Steps p.tables e below (T99.setTop (mkF m 207 #[.val (.int p0), .val (.int p1), .val (.int p2), .val (.int p3), .val (.int p4), .val (.int (3 : Int32)), .val (.int (Int32.ofNat xn)), .val (.int (Int32.ofNat yn)), .val (.int (Int32.ofNat zn)), .val (.int (((p4.toUInt32 >>> ((10 : Int32) &&& 31).toUInt32).toInt32) &&& (3 : Int32))), .val (.int (Int32.ofNat qn)), .val (.ref b86), .val (.ref ob99), .val (.int (own_eh3 (Int32.ofNat qn) (Int32.ofNat xn) (Int32.ofNat yn) (Int32.ofNat zn))), .val (.int ((0 : Int32) + (1 : Int32)))] [])) _
        refine XS.iload X99.here hx rfl (hb hby at_207) rfl ?_
        show Steps p.tables e below (T99.setTop (mkF m 209 #[.val (.int p0), .val (.int p1), .val (.int p2), .val (.int p3), .val (.int p4), .val (.int (3 : Int32)), .val (.int (Int32.ofNat xn)), .val (.int (Int32.ofNat yn)), .val (.int (Int32.ofNat zn)), .val (.int (((p4.toUInt32 >>> ((10 : Int32) &&& 31).toUInt32).toInt32) &&& (3 : Int32))), .val (.int (Int32.ofNat qn)), .val (.ref b86), .val (.ref ob99), .val (.int (own_eh3 (Int32.ofNat qn) (Int32.ofNat xn) (Int32.ofNat yn) (Int32.ofNat zn))), .val (.int ((0 : Int32) + (1 : Int32)))] [(.int (3 : Int32))])) _
        refine XS.iconst X99.here hx rfl (hb hby at_209) ?_
        show Steps p.tables e below (T99.setTop (mkF m 210 #[.val (.int p0), .val (.int p1), .val (.int p2), .val (.int p3), .val (.int p4), .val (.int (3 : Int32)), .val (.int (Int32.ofNat xn)), .val (.int (Int32.ofNat yn)), .val (.int (Int32.ofNat zn)), .val (.int (((p4.toUInt32 >>> ((10 : Int32) &&& 31).toUInt32).toInt32) &&& (3 : Int32))), .val (.int (Int32.ofNat qn)), .val (.ref b86), .val (.ref ob99), .val (.int (own_eh3 (Int32.ofNat qn) (Int32.ofNat xn) (Int32.ofNat yn) (Int32.ofNat zn))), .val (.int ((0 : Int32) + (1 : Int32)))] [(.int (2 : Int32)), (.int (3 : Int32))])) _
        refine XS.icmpNo X99.here hx rfl (hb hby at_210) rfl (tlt (by decide : (2 : Int32) < (3 : Int32))).2.2.2 ?_
        show Steps p.tables e below (T99.setTop (mkF m 213 #[.val (.int p0), .val (.int p1), .val (.int p2), .val (.int p3), .val (.int p4), .val (.int (3 : Int32)), .val (.int (Int32.ofNat xn)), .val (.int (Int32.ofNat yn)), .val (.int (Int32.ofNat zn)), .val (.int (((p4.toUInt32 >>> ((10 : Int32) &&& 31).toUInt32).toInt32) &&& (3 : Int32))), .val (.int (Int32.ofNat qn)), .val (.ref b86), .val (.ref ob99), .val (.int (own_eh3 (Int32.ofNat qn) (Int32.ofNat xn) (Int32.ofNat yn) (Int32.ofNat zn))), .val (.int ((0 : Int32) + (1 : Int32)))] [])) _
        refine XS.iload X99.here hx rfl (hb hby at_213) rfl ?_
        show Steps p.tables e below (T99.setTop (mkF m 215 #[.val (.int p0), .val (.int p1), .val (.int p2), .val (.int p3), .val (.int p4), .val (.int (3 : Int32)), .val (.int (Int32.ofNat xn)), .val (.int (Int32.ofNat yn)), .val (.int (Int32.ofNat zn)), .val (.int (((p4.toUInt32 >>> ((10 : Int32) &&& 31).toUInt32).toInt32) &&& (3 : Int32))), .val (.int (Int32.ofNat qn)), .val (.ref b86), .val (.ref ob99), .val (.int (own_eh3 (Int32.ofNat qn) (Int32.ofNat xn) (Int32.ofNat yn) (Int32.ofNat zn))), .val (.int ((0 : Int32) + (1 : Int32)))] [(.int (Int32.ofNat zn))])) _
        refine XS.iload X99.here hx rfl (hb hby at_215) rfl ?_
        by_cases hc217 : (Int32.ofNat zn) = (Int32.ofNat xn)
        · -- it is
          show Steps p.tables e below (T99.setTop (mkF m 217 #[.val (.int p0), .val (.int p1), .val (.int p2), .val (.int p3), .val (.int p4), .val (.int (3 : Int32)), .val (.int (Int32.ofNat xn)), .val (.int (Int32.ofNat yn)), .val (.int (Int32.ofNat zn)), .val (.int (((p4.toUInt32 >>> ((10 : Int32) &&& 31).toUInt32).toInt32) &&& (3 : Int32))), .val (.int (Int32.ofNat qn)), .val (.ref b86), .val (.ref ob99), .val (.int (own_eh3 (Int32.ofNat qn) (Int32.ofNat xn) (Int32.ofNat yn) (Int32.ofNat zn))), .val (.int ((0 : Int32) + (1 : Int32)))] [(.int (Int32.ofNat xn)), (.int (Int32.ofNat zn))])) _
          refine XS.icmpYes X99.here hx rfl (pc0 := 217) (pc' := 233) rfl (hb hby at_217) rfl (teq hc217).1 (by decide) (by decide) ?_
          rw [show (own_es3 (Int32.ofNat xn) (Int32.ofNat yn) (Int32.ofNat zn)) = ((0 : Int32) + (1 : Int32)) from by unfold own_es3; rw [if_pos hc198, if_pos hc217]; decide] at kt
          exact kt
        · -- it isn't
          show Steps p.tables e below (T99.setTop (mkF m 217 #[.val (.int p0), .val (.int p1), .val (.int p2), .val (.int p3), .val (.int p4), .val (.int (3 : Int32)), .val (.int (Int32.ofNat xn)), .val (.int (Int32.ofNat yn)), .val (.int (Int32.ofNat zn)), .val (.int (((p4.toUInt32 >>> ((10 : Int32) &&& 31).toUInt32).toInt32) &&& (3 : Int32))), .val (.int (Int32.ofNat qn)), .val (.ref b86), .val (.ref ob99), .val (.int (own_eh3 (Int32.ofNat qn) (Int32.ofNat xn) (Int32.ofNat yn) (Int32.ofNat zn))), .val (.int ((0 : Int32) + (1 : Int32)))] [(.int (Int32.ofNat xn)), (.int (Int32.ofNat zn))])) _
          refine XS.icmpNo X99.here hx rfl (hb hby at_217) rfl (feq hc217).1 ?_
          show Steps p.tables e below (T99.setTop (mkF m 220 #[.val (.int p0), .val (.int p1), .val (.int p2), .val (.int p3), .val (.int p4), .val (.int (3 : Int32)), .val (.int (Int32.ofNat xn)), .val (.int (Int32.ofNat yn)), .val (.int (Int32.ofNat zn)), .val (.int (((p4.toUInt32 >>> ((10 : Int32) &&& 31).toUInt32).toInt32) &&& (3 : Int32))), .val (.int (Int32.ofNat qn)), .val (.ref b86), .val (.ref ob99), .val (.int (own_eh3 (Int32.ofNat qn) (Int32.ofNat xn) (Int32.ofNat yn) (Int32.ofNat zn))), .val (.int ((0 : Int32) + (1 : Int32)))] [])) _
          refine XS.iload X99.here hx rfl (hb hby at_220) rfl ?_
          show Steps p.tables e below (T99.setTop (mkF m 222 #[.val (.int p0), .val (.int p1), .val (.int p2), .val (.int p3), .val (.int p4), .val (.int (3 : Int32)), .val (.int (Int32.ofNat xn)), .val (.int (Int32.ofNat yn)), .val (.int (Int32.ofNat zn)), .val (.int (((p4.toUInt32 >>> ((10 : Int32) &&& 31).toUInt32).toInt32) &&& (3 : Int32))), .val (.int (Int32.ofNat qn)), .val (.ref b86), .val (.ref ob99), .val (.int (own_eh3 (Int32.ofNat qn) (Int32.ofNat xn) (Int32.ofNat yn) (Int32.ofNat zn))), .val (.int ((0 : Int32) + (1 : Int32)))] [(.int (Int32.ofNat zn))])) _
          refine XS.iload X99.here hx rfl (hb hby at_222) rfl ?_
          by_cases hc224 : (Int32.ofNat zn) = (Int32.ofNat yn)
          · -- it is
            show Steps p.tables e below (T99.setTop (mkF m 224 #[.val (.int p0), .val (.int p1), .val (.int p2), .val (.int p3), .val (.int p4), .val (.int (3 : Int32)), .val (.int (Int32.ofNat xn)), .val (.int (Int32.ofNat yn)), .val (.int (Int32.ofNat zn)), .val (.int (((p4.toUInt32 >>> ((10 : Int32) &&& 31).toUInt32).toInt32) &&& (3 : Int32))), .val (.int (Int32.ofNat qn)), .val (.ref b86), .val (.ref ob99), .val (.int (own_eh3 (Int32.ofNat qn) (Int32.ofNat xn) (Int32.ofNat yn) (Int32.ofNat zn))), .val (.int ((0 : Int32) + (1 : Int32)))] [(.int (Int32.ofNat yn)), (.int (Int32.ofNat zn))])) _
            refine XS.icmpYes X99.here hx rfl (pc0 := 224) (pc' := 233) rfl (hb hby at_224) rfl (teq hc224).1 (by decide) (by decide) ?_
            rw [show (own_es3 (Int32.ofNat xn) (Int32.ofNat yn) (Int32.ofNat zn)) = ((0 : Int32) + (1 : Int32)) from by unfold own_es3; rw [if_pos hc198, if_neg hc217, if_pos hc224]; decide] at kt
            exact kt
          · -- it isn't
            show Steps p.tables e below (T99.setTop (mkF m 224 #[.val (.int p0), .val (.int p1), .val (.int p2), .val (.int p3), .val (.int p4), .val (.int (3 : Int32)), .val (.int (Int32.ofNat xn)), .val (.int (Int32.ofNat yn)), .val (.int (Int32.ofNat zn)), .val (.int (((p4.toUInt32 >>> ((10 : Int32) &&& 31).toUInt32).toInt32) &&& (3 : Int32))), .val (.int (Int32.ofNat qn)), .val (.ref b86), .val (.ref ob99), .val (.int (own_eh3 (Int32.ofNat qn) (Int32.ofNat xn) (Int32.ofNat yn) (Int32.ofNat zn))), .val (.int ((0 : Int32) + (1 : Int32)))] [(.int (Int32.ofNat yn)), (.int (Int32.ofNat zn))])) _
            refine XS.icmpNo X99.here hx rfl (hb hby at_224) rfl (feq hc224).1 ?_
            show Steps p.tables e below (T99.setTop (mkF m 227 #[.val (.int p0), .val (.int p1), .val (.int p2), .val (.int p3), .val (.int p4), .val (.int (3 : Int32)), .val (.int (Int32.ofNat xn)), .val (.int (Int32.ofNat yn)), .val (.int (Int32.ofNat zn)), .val (.int (((p4.toUInt32 >>> ((10 : Int32) &&& 31).toUInt32).toInt32) &&& (3 : Int32))), .val (.int (Int32.ofNat qn)), .val (.ref b86), .val (.ref ob99), .val (.int (own_eh3 (Int32.ofNat qn) (Int32.ofNat xn) (Int32.ofNat yn) (Int32.ofNat zn))), .val (.int ((0 : Int32) + (1 : Int32)))] [])) _
            refine XS.iload X99.here hx rfl (hb hby at_227) rfl ?_
            show Steps p.tables e below (T99.setTop (mkF m 229 #[.val (.int p0), .val (.int p1), .val (.int p2), .val (.int p3), .val (.int p4), .val (.int (3 : Int32)), .val (.int (Int32.ofNat xn)), .val (.int (Int32.ofNat yn)), .val (.int (Int32.ofNat zn)), .val (.int (((p4.toUInt32 >>> ((10 : Int32) &&& 31).toUInt32).toInt32) &&& (3 : Int32))), .val (.int (Int32.ofNat qn)), .val (.ref b86), .val (.ref ob99), .val (.int (own_eh3 (Int32.ofNat qn) (Int32.ofNat xn) (Int32.ofNat yn) (Int32.ofNat zn))), .val (.int ((0 : Int32) + (1 : Int32)))] [(.int ((0 : Int32) + (1 : Int32)))])) _
            refine XS.iconst X99.here hx rfl (hb hby at_229) ?_
            show Steps p.tables e below (T99.setTop (mkF m 230 #[.val (.int p0), .val (.int p1), .val (.int p2), .val (.int p3), .val (.int p4), .val (.int (3 : Int32)), .val (.int (Int32.ofNat xn)), .val (.int (Int32.ofNat yn)), .val (.int (Int32.ofNat zn)), .val (.int (((p4.toUInt32 >>> ((10 : Int32) &&& 31).toUInt32).toInt32) &&& (3 : Int32))), .val (.int (Int32.ofNat qn)), .val (.ref b86), .val (.ref ob99), .val (.int (own_eh3 (Int32.ofNat qn) (Int32.ofNat xn) (Int32.ofNat yn) (Int32.ofNat zn))), .val (.int ((0 : Int32) + (1 : Int32)))] [(.int (1 : Int32)), (.int ((0 : Int32) + (1 : Int32)))])) _
            refine XS.iadd X99.here hx rfl (hb hby at_230) rfl ?_
            show Steps p.tables e below (T99.setTop (mkF m 231 #[.val (.int p0), .val (.int p1), .val (.int p2), .val (.int p3), .val (.int p4), .val (.int (3 : Int32)), .val (.int (Int32.ofNat xn)), .val (.int (Int32.ofNat yn)), .val (.int (Int32.ofNat zn)), .val (.int (((p4.toUInt32 >>> ((10 : Int32) &&& 31).toUInt32).toInt32) &&& (3 : Int32))), .val (.int (Int32.ofNat qn)), .val (.ref b86), .val (.ref ob99), .val (.int (own_eh3 (Int32.ofNat qn) (Int32.ofNat xn) (Int32.ofNat yn) (Int32.ofNat zn))), .val (.int ((0 : Int32) + (1 : Int32)))] [(.int (((0 : Int32) + (1 : Int32)) + (1 : Int32)))])) _
            refine XS.istore X99.here hx rfl (hb hby at_231) rfl (l' := #[.val (.int p0), .val (.int p1), .val (.int p2), .val (.int p3), .val (.int p4), .val (.int (3 : Int32)), .val (.int (Int32.ofNat xn)), .val (.int (Int32.ofNat yn)), .val (.int (Int32.ofNat zn)), .val (.int (((p4.toUInt32 >>> ((10 : Int32) &&& 31).toUInt32).toInt32) &&& (3 : Int32))), .val (.int (Int32.ofNat qn)), .val (.ref b86), .val (.ref ob99), .val (.int (own_eh3 (Int32.ofNat qn) (Int32.ofNat xn) (Int32.ofNat yn) (Int32.ofNat zn))), .val (.int (((0 : Int32) + (1 : Int32)) + (1 : Int32)))]) rfl ?_
            rw [show (own_es3 (Int32.ofNat xn) (Int32.ofNat yn) (Int32.ofNat zn)) = (((0 : Int32) + (1 : Int32)) + (1 : Int32)) from by unfold own_es3; rw [if_pos hc198, if_neg hc217, if_neg hc224]; decide] at kt
            exact kt
      · -- it isn't
        show Steps p.tables e below (T99.setTop (mkF m 198 #[.val (.int p0), .val (.int p1), .val (.int p2), .val (.int p3), .val (.int p4), .val (.int (3 : Int32)), .val (.int (Int32.ofNat xn)), .val (.int (Int32.ofNat yn)), .val (.int (Int32.ofNat zn)), .val (.int (((p4.toUInt32 >>> ((10 : Int32) &&& 31).toUInt32).toInt32) &&& (3 : Int32))), .val (.int (Int32.ofNat qn)), .val (.ref b86), .val (.ref ob99), .val (.int (own_eh3 (Int32.ofNat qn) (Int32.ofNat xn) (Int32.ofNat yn) (Int32.ofNat zn))), .val (.int ((0 : Int32) + (1 : Int32)))] [(.int (Int32.ofNat xn)), (.int (Int32.ofNat yn))])) _
        refine XS.icmpNo X99.here hx rfl (hb hby at_198) rfl (feq hc198).1 ?_
        show Steps p.tables e below (T99.setTop (mkF m 201 #[.val (.int p0), .val (.int p1), .val (.int p2), .val (.int p3), .val (.int p4), .val (.int (3 : Int32)), .val (.int (Int32.ofNat xn)), .val (.int (Int32.ofNat yn)), .val (.int (Int32.ofNat zn)), .val (.int (((p4.toUInt32 >>> ((10 : Int32) &&& 31).toUInt32).toInt32) &&& (3 : Int32))), .val (.int (Int32.ofNat qn)), .val (.ref b86), .val (.ref ob99), .val (.int (own_eh3 (Int32.ofNat qn) (Int32.ofNat xn) (Int32.ofNat yn) (Int32.ofNat zn))), .val (.int ((0 : Int32) + (1 : Int32)))] [])) _
        refine XS.iload X99.here hx rfl (hb hby at_201) rfl ?_
        show Steps p.tables e below (T99.setTop (mkF m 203 #[.val (.int p0), .val (.int p1), .val (.int p2), .val (.int p3), .val (.int p4), .val (.int (3 : Int32)), .val (.int (Int32.ofNat xn)), .val (.int (Int32.ofNat yn)), .val (.int (Int32.ofNat zn)), .val (.int (((p4.toUInt32 >>> ((10 : Int32) &&& 31).toUInt32).toInt32) &&& (3 : Int32))), .val (.int (Int32.ofNat qn)), .val (.ref b86), .val (.ref ob99), .val (.int (own_eh3 (Int32.ofNat qn) (Int32.ofNat xn) (Int32.ofNat yn) (Int32.ofNat zn))), .val (.int ((0 : Int32) + (1 : Int32)))] [(.int ((0 : Int32) + (1 : Int32)))])) _
        refine XS.iconst X99.here hx rfl (hb hby at_203) ?_
        show Steps p.tables e below (T99.setTop (mkF m 204 #[.val (.int p0), .val (.int p1), .val (.int p2), .val (.int p3), .val (.int p4), .val (.int (3 : Int32)), .val (.int (Int32.ofNat xn)), .val (.int (Int32.ofNat yn)), .val (.int (Int32.ofNat zn)), .val (.int (((p4.toUInt32 >>> ((10 : Int32) &&& 31).toUInt32).toInt32) &&& (3 : Int32))), .val (.int (Int32.ofNat qn)), .val (.ref b86), .val (.ref ob99), .val (.int (own_eh3 (Int32.ofNat qn) (Int32.ofNat xn) (Int32.ofNat yn) (Int32.ofNat zn))), .val (.int ((0 : Int32) + (1 : Int32)))] [(.int (1 : Int32)), (.int ((0 : Int32) + (1 : Int32)))])) _
        refine XS.iadd X99.here hx rfl (hb hby at_204) rfl ?_
        show Steps p.tables e below (T99.setTop (mkF m 205 #[.val (.int p0), .val (.int p1), .val (.int p2), .val (.int p3), .val (.int p4), .val (.int (3 : Int32)), .val (.int (Int32.ofNat xn)), .val (.int (Int32.ofNat yn)), .val (.int (Int32.ofNat zn)), .val (.int (((p4.toUInt32 >>> ((10 : Int32) &&& 31).toUInt32).toInt32) &&& (3 : Int32))), .val (.int (Int32.ofNat qn)), .val (.ref b86), .val (.ref ob99), .val (.int (own_eh3 (Int32.ofNat qn) (Int32.ofNat xn) (Int32.ofNat yn) (Int32.ofNat zn))), .val (.int ((0 : Int32) + (1 : Int32)))] [(.int (((0 : Int32) + (1 : Int32)) + (1 : Int32)))])) _
        refine XS.istore X99.here hx rfl (hb hby at_205) rfl (l' := #[.val (.int p0), .val (.int p1), .val (.int p2), .val (.int p3), .val (.int p4), .val (.int (3 : Int32)), .val (.int (Int32.ofNat xn)), .val (.int (Int32.ofNat yn)), .val (.int (Int32.ofNat zn)), .val (.int (((p4.toUInt32 >>> ((10 : Int32) &&& 31).toUInt32).toInt32) &&& (3 : Int32))), .val (.int (Int32.ofNat qn)), .val (.ref b86), .val (.ref ob99), .val (.int (own_eh3 (Int32.ofNat qn) (Int32.ofNat xn) (Int32.ofNat yn) (Int32.ofNat zn))), .val (.int (((0 : Int32) + (1 : Int32)) + (1 : Int32)))]) rfl ?_
        show Steps p.tables e below (T99.setTop (mkF m 207 #[.val (.int p0), .val (.int p1), .val (.int p2), .val (.int p3), .val (.int p4), .val (.int (3 : Int32)), .val (.int (Int32.ofNat xn)), .val (.int (Int32.ofNat yn)), .val (.int (Int32.ofNat zn)), .val (.int (((p4.toUInt32 >>> ((10 : Int32) &&& 31).toUInt32).toInt32) &&& (3 : Int32))), .val (.int (Int32.ofNat qn)), .val (.ref b86), .val (.ref ob99), .val (.int (own_eh3 (Int32.ofNat qn) (Int32.ofNat xn) (Int32.ofNat yn) (Int32.ofNat zn))), .val (.int (((0 : Int32) + (1 : Int32)) + (1 : Int32)))] [])) _
        refine XS.iload X99.here hx rfl (hb hby at_207) rfl ?_
        show Steps p.tables e below (T99.setTop (mkF m 209 #[.val (.int p0), .val (.int p1), .val (.int p2), .val (.int p3), .val (.int p4), .val (.int (3 : Int32)), .val (.int (Int32.ofNat xn)), .val (.int (Int32.ofNat yn)), .val (.int (Int32.ofNat zn)), .val (.int (((p4.toUInt32 >>> ((10 : Int32) &&& 31).toUInt32).toInt32) &&& (3 : Int32))), .val (.int (Int32.ofNat qn)), .val (.ref b86), .val (.ref ob99), .val (.int (own_eh3 (Int32.ofNat qn) (Int32.ofNat xn) (Int32.ofNat yn) (Int32.ofNat zn))), .val (.int (((0 : Int32) + (1 : Int32)) + (1 : Int32)))] [(.int (3 : Int32))])) _
        refine XS.iconst X99.here hx rfl (hb hby at_209) ?_
        show Steps p.tables e below (T99.setTop (mkF m 210 #[.val (.int p0), .val (.int p1), .val (.int p2), .val (.int p3), .val (.int p4), .val (.int (3 : Int32)), .val (.int (Int32.ofNat xn)), .val (.int (Int32.ofNat yn)), .val (.int (Int32.ofNat zn)), .val (.int (((p4.toUInt32 >>> ((10 : Int32) &&& 31).toUInt32).toInt32) &&& (3 : Int32))), .val (.int (Int32.ofNat qn)), .val (.ref b86), .val (.ref ob99), .val (.int (own_eh3 (Int32.ofNat qn) (Int32.ofNat xn) (Int32.ofNat yn) (Int32.ofNat zn))), .val (.int (((0 : Int32) + (1 : Int32)) + (1 : Int32)))] [(.int (2 : Int32)), (.int (3 : Int32))])) _
        refine XS.icmpNo X99.here hx rfl (hb hby at_210) rfl (tlt (by decide : (2 : Int32) < (3 : Int32))).2.2.2 ?_
        show Steps p.tables e below (T99.setTop (mkF m 213 #[.val (.int p0), .val (.int p1), .val (.int p2), .val (.int p3), .val (.int p4), .val (.int (3 : Int32)), .val (.int (Int32.ofNat xn)), .val (.int (Int32.ofNat yn)), .val (.int (Int32.ofNat zn)), .val (.int (((p4.toUInt32 >>> ((10 : Int32) &&& 31).toUInt32).toInt32) &&& (3 : Int32))), .val (.int (Int32.ofNat qn)), .val (.ref b86), .val (.ref ob99), .val (.int (own_eh3 (Int32.ofNat qn) (Int32.ofNat xn) (Int32.ofNat yn) (Int32.ofNat zn))), .val (.int (((0 : Int32) + (1 : Int32)) + (1 : Int32)))] [])) _
        refine XS.iload X99.here hx rfl (hb hby at_213) rfl ?_
        show Steps p.tables e below (T99.setTop (mkF m 215 #[.val (.int p0), .val (.int p1), .val (.int p2), .val (.int p3), .val (.int p4), .val (.int (3 : Int32)), .val (.int (Int32.ofNat xn)), .val (.int (Int32.ofNat yn)), .val (.int (Int32.ofNat zn)), .val (.int (((p4.toUInt32 >>> ((10 : Int32) &&& 31).toUInt32).toInt32) &&& (3 : Int32))), .val (.int (Int32.ofNat qn)), .val (.ref b86), .val (.ref ob99), .val (.int (own_eh3 (Int32.ofNat qn) (Int32.ofNat xn) (Int32.ofNat yn) (Int32.ofNat zn))), .val (.int (((0 : Int32) + (1 : Int32)) + (1 : Int32)))] [(.int (Int32.ofNat zn))])) _
        refine XS.iload X99.here hx rfl (hb hby at_215) rfl ?_
        by_cases hc217 : (Int32.ofNat zn) = (Int32.ofNat xn)
        · -- it is
          show Steps p.tables e below (T99.setTop (mkF m 217 #[.val (.int p0), .val (.int p1), .val (.int p2), .val (.int p3), .val (.int p4), .val (.int (3 : Int32)), .val (.int (Int32.ofNat xn)), .val (.int (Int32.ofNat yn)), .val (.int (Int32.ofNat zn)), .val (.int (((p4.toUInt32 >>> ((10 : Int32) &&& 31).toUInt32).toInt32) &&& (3 : Int32))), .val (.int (Int32.ofNat qn)), .val (.ref b86), .val (.ref ob99), .val (.int (own_eh3 (Int32.ofNat qn) (Int32.ofNat xn) (Int32.ofNat yn) (Int32.ofNat zn))), .val (.int (((0 : Int32) + (1 : Int32)) + (1 : Int32)))] [(.int (Int32.ofNat xn)), (.int (Int32.ofNat zn))])) _
          refine XS.icmpYes X99.here hx rfl (pc0 := 217) (pc' := 233) rfl (hb hby at_217) rfl (teq hc217).1 (by decide) (by decide) ?_
          rw [show (own_es3 (Int32.ofNat xn) (Int32.ofNat yn) (Int32.ofNat zn)) = (((0 : Int32) + (1 : Int32)) + (1 : Int32)) from by unfold own_es3; rw [if_neg hc198, if_pos hc217]; decide] at kt
          exact kt
        · -- it isn't
          show Steps p.tables e below (T99.setTop (mkF m 217 #[.val (.int p0), .val (.int p1), .val (.int p2), .val (.int p3), .val (.int p4), .val (.int (3 : Int32)), .val (.int (Int32.ofNat xn)), .val (.int (Int32.ofNat yn)), .val (.int (Int32.ofNat zn)), .val (.int (((p4.toUInt32 >>> ((10 : Int32) &&& 31).toUInt32).toInt32) &&& (3 : Int32))), .val (.int (Int32.ofNat qn)), .val (.ref b86), .val (.ref ob99), .val (.int (own_eh3 (Int32.ofNat qn) (Int32.ofNat xn) (Int32.ofNat yn) (Int32.ofNat zn))), .val (.int (((0 : Int32) + (1 : Int32)) + (1 : Int32)))] [(.int (Int32.ofNat xn)), (.int (Int32.ofNat zn))])) _
          refine XS.icmpNo X99.here hx rfl (hb hby at_217) rfl (feq hc217).1 ?_
          show Steps p.tables e below (T99.setTop (mkF m 220 #[.val (.int p0), .val (.int p1), .val (.int p2), .val (.int p3), .val (.int p4), .val (.int (3 : Int32)), .val (.int (Int32.ofNat xn)), .val (.int (Int32.ofNat yn)), .val (.int (Int32.ofNat zn)), .val (.int (((p4.toUInt32 >>> ((10 : Int32) &&& 31).toUInt32).toInt32) &&& (3 : Int32))), .val (.int (Int32.ofNat qn)), .val (.ref b86), .val (.ref ob99), .val (.int (own_eh3 (Int32.ofNat qn) (Int32.ofNat xn) (Int32.ofNat yn) (Int32.ofNat zn))), .val (.int (((0 : Int32) + (1 : Int32)) + (1 : Int32)))] [])) _
          refine XS.iload X99.here hx rfl (hb hby at_220) rfl ?_
          show Steps p.tables e below (T99.setTop (mkF m 222 #[.val (.int p0), .val (.int p1), .val (.int p2), .val (.int p3), .val (.int p4), .val (.int (3 : Int32)), .val (.int (Int32.ofNat xn)), .val (.int (Int32.ofNat yn)), .val (.int (Int32.ofNat zn)), .val (.int (((p4.toUInt32 >>> ((10 : Int32) &&& 31).toUInt32).toInt32) &&& (3 : Int32))), .val (.int (Int32.ofNat qn)), .val (.ref b86), .val (.ref ob99), .val (.int (own_eh3 (Int32.ofNat qn) (Int32.ofNat xn) (Int32.ofNat yn) (Int32.ofNat zn))), .val (.int (((0 : Int32) + (1 : Int32)) + (1 : Int32)))] [(.int (Int32.ofNat zn))])) _
          refine XS.iload X99.here hx rfl (hb hby at_222) rfl ?_
          by_cases hc224 : (Int32.ofNat zn) = (Int32.ofNat yn)
          · -- it is
            show Steps p.tables e below (T99.setTop (mkF m 224 #[.val (.int p0), .val (.int p1), .val (.int p2), .val (.int p3), .val (.int p4), .val (.int (3 : Int32)), .val (.int (Int32.ofNat xn)), .val (.int (Int32.ofNat yn)), .val (.int (Int32.ofNat zn)), .val (.int (((p4.toUInt32 >>> ((10 : Int32) &&& 31).toUInt32).toInt32) &&& (3 : Int32))), .val (.int (Int32.ofNat qn)), .val (.ref b86), .val (.ref ob99), .val (.int (own_eh3 (Int32.ofNat qn) (Int32.ofNat xn) (Int32.ofNat yn) (Int32.ofNat zn))), .val (.int (((0 : Int32) + (1 : Int32)) + (1 : Int32)))] [(.int (Int32.ofNat yn)), (.int (Int32.ofNat zn))])) _
            refine XS.icmpYes X99.here hx rfl (pc0 := 224) (pc' := 233) rfl (hb hby at_224) rfl (teq hc224).1 (by decide) (by decide) ?_
            rw [show (own_es3 (Int32.ofNat xn) (Int32.ofNat yn) (Int32.ofNat zn)) = (((0 : Int32) + (1 : Int32)) + (1 : Int32)) from by unfold own_es3; rw [if_neg hc198, if_neg hc217, if_pos hc224]; decide] at kt
            exact kt
          · -- it isn't
            show Steps p.tables e below (T99.setTop (mkF m 224 #[.val (.int p0), .val (.int p1), .val (.int p2), .val (.int p3), .val (.int p4), .val (.int (3 : Int32)), .val (.int (Int32.ofNat xn)), .val (.int (Int32.ofNat yn)), .val (.int (Int32.ofNat zn)), .val (.int (((p4.toUInt32 >>> ((10 : Int32) &&& 31).toUInt32).toInt32) &&& (3 : Int32))), .val (.int (Int32.ofNat qn)), .val (.ref b86), .val (.ref ob99), .val (.int (own_eh3 (Int32.ofNat qn) (Int32.ofNat xn) (Int32.ofNat yn) (Int32.ofNat zn))), .val (.int (((0 : Int32) + (1 : Int32)) + (1 : Int32)))] [(.int (Int32.ofNat yn)), (.int (Int32.ofNat zn))])) _
            refine XS.icmpNo X99.here hx rfl (hb hby at_224) rfl (feq hc224).1 ?_
            show Steps p.tables e below (T99.setTop (mkF m 227 #[.val (.int p0), .val (.int p1), .val (.int p2), .val (.int p3), .val (.int p4), .val (.int (3 : Int32)), .val (.int (Int32.ofNat xn)), .val (.int (Int32.ofNat yn)), .val (.int (Int32.ofNat zn)), .val (.int (((p4.toUInt32 >>> ((10 : Int32) &&& 31).toUInt32).toInt32) &&& (3 : Int32))), .val (.int (Int32.ofNat qn)), .val (.ref b86), .val (.ref ob99), .val (.int (own_eh3 (Int32.ofNat qn) (Int32.ofNat xn) (Int32.ofNat yn) (Int32.ofNat zn))), .val (.int (((0 : Int32) + (1 : Int32)) + (1 : Int32)))] [])) _
            refine XS.iload X99.here hx rfl (hb hby at_227) rfl ?_
            show Steps p.tables e below (T99.setTop (mkF m 229 #[.val (.int p0), .val (.int p1), .val (.int p2), .val (.int p3), .val (.int p4), .val (.int (3 : Int32)), .val (.int (Int32.ofNat xn)), .val (.int (Int32.ofNat yn)), .val (.int (Int32.ofNat zn)), .val (.int (((p4.toUInt32 >>> ((10 : Int32) &&& 31).toUInt32).toInt32) &&& (3 : Int32))), .val (.int (Int32.ofNat qn)), .val (.ref b86), .val (.ref ob99), .val (.int (own_eh3 (Int32.ofNat qn) (Int32.ofNat xn) (Int32.ofNat yn) (Int32.ofNat zn))), .val (.int (((0 : Int32) + (1 : Int32)) + (1 : Int32)))] [(.int (((0 : Int32) + (1 : Int32)) + (1 : Int32)))])) _
            refine XS.iconst X99.here hx rfl (hb hby at_229) ?_
            show Steps p.tables e below (T99.setTop (mkF m 230 #[.val (.int p0), .val (.int p1), .val (.int p2), .val (.int p3), .val (.int p4), .val (.int (3 : Int32)), .val (.int (Int32.ofNat xn)), .val (.int (Int32.ofNat yn)), .val (.int (Int32.ofNat zn)), .val (.int (((p4.toUInt32 >>> ((10 : Int32) &&& 31).toUInt32).toInt32) &&& (3 : Int32))), .val (.int (Int32.ofNat qn)), .val (.ref b86), .val (.ref ob99), .val (.int (own_eh3 (Int32.ofNat qn) (Int32.ofNat xn) (Int32.ofNat yn) (Int32.ofNat zn))), .val (.int (((0 : Int32) + (1 : Int32)) + (1 : Int32)))] [(.int (1 : Int32)), (.int (((0 : Int32) + (1 : Int32)) + (1 : Int32)))])) _
            refine XS.iadd X99.here hx rfl (hb hby at_230) rfl ?_
            show Steps p.tables e below (T99.setTop (mkF m 231 #[.val (.int p0), .val (.int p1), .val (.int p2), .val (.int p3), .val (.int p4), .val (.int (3 : Int32)), .val (.int (Int32.ofNat xn)), .val (.int (Int32.ofNat yn)), .val (.int (Int32.ofNat zn)), .val (.int (((p4.toUInt32 >>> ((10 : Int32) &&& 31).toUInt32).toInt32) &&& (3 : Int32))), .val (.int (Int32.ofNat qn)), .val (.ref b86), .val (.ref ob99), .val (.int (own_eh3 (Int32.ofNat qn) (Int32.ofNat xn) (Int32.ofNat yn) (Int32.ofNat zn))), .val (.int (((0 : Int32) + (1 : Int32)) + (1 : Int32)))] [(.int ((((0 : Int32) + (1 : Int32)) + (1 : Int32)) + (1 : Int32)))])) _
            refine XS.istore X99.here hx rfl (hb hby at_231) rfl (l' := #[.val (.int p0), .val (.int p1), .val (.int p2), .val (.int p3), .val (.int p4), .val (.int (3 : Int32)), .val (.int (Int32.ofNat xn)), .val (.int (Int32.ofNat yn)), .val (.int (Int32.ofNat zn)), .val (.int (((p4.toUInt32 >>> ((10 : Int32) &&& 31).toUInt32).toInt32) &&& (3 : Int32))), .val (.int (Int32.ofNat qn)), .val (.ref b86), .val (.ref ob99), .val (.int (own_eh3 (Int32.ofNat qn) (Int32.ofNat xn) (Int32.ofNat yn) (Int32.ofNat zn))), .val (.int ((((0 : Int32) + (1 : Int32)) + (1 : Int32)) + (1 : Int32)))]) rfl ?_
            rw [show (own_es3 (Int32.ofNat xn) (Int32.ofNat yn) (Int32.ofNat zn)) = ((((0 : Int32) + (1 : Int32)) + (1 : Int32)) + (1 : Int32)) from by unfold own_es3; rw [if_neg hc198, if_neg hc217, if_neg hc224]; decide] at kt
            exact kt
    have c103 : ∀ t, Steps p.tables e below (T99.setTop (mkF m 237 #[.val (.int p0), .val (.int p1), .val (.int p2), .val (.int p3), .val (.int p4), .val (.int (3 : Int32)), .val (.int (Int32.ofNat xn)), .val (.int (Int32.ofNat yn)), .val (.int (Int32.ofNat zn)), .val (.int (((p4.toUInt32 >>> ((10 : Int32) &&& 31).toUInt32).toInt32) &&& (3 : Int32))), .val (.int (Int32.ofNat qn)), .val (.ref b86), .val (.ref ob99), .val (.int (own_eh3 (Int32.ofNat qn) (Int32.ofNat xn) (Int32.ofNat yn) (Int32.ofNat zn))), .val (.int (own_es3 (Int32.ofNat xn) (Int32.ofNat yn) (Int32.ofNat zn)))] [(.int (Int32.ofNat qn)), (.ref ob99)])) t → Steps p.tables e below (T99.setTop (mkF m 233 #[.val (.int p0), .val (.int p1), .val (.int p2), .val (.int p3), .val (.int p4), .val (.int (3 : Int32)), .val (.int (Int32.ofNat xn)), .val (.int (Int32.ofNat yn)), .val (.int (Int32.ofNat zn)), .val (.int (((p4.toUInt32 >>> ((10 : Int32) &&& 31).toUInt32).toInt32) &&& (3 : Int32))), .val (.int (Int32.ofNat qn)), .val (.ref b86), .val (.ref ob99), .val (.int (own_eh3 (Int32.ofNat qn) (Int32.ofNat xn) (Int32.ofNat yn) (Int32.ofNat zn))), .val (.int (own_es3 (Int32.ofNat xn) (Int32.ofNat yn) (Int32.ofNat zn)))] [])) t := by
      intro t kt
      show Steps p.tables e below (T99.setTop (mkF m 233 #[.val (.int p0), .val (.int p1), .val (.int p2), .val (.int p3), .val (.int p4), .val (.int (3 : Int32)), .val (.int (Int32.ofNat xn)), .val (.int (Int32.ofNat yn)), .val (.int (Int32.ofNat zn)), .val (.int (((p4.toUInt32 >>> ((10 : Int32) &&& 31).toUInt32).toInt32) &&& (3 : Int32))), .val (.int (Int32.ofNat qn)), .val (.ref b86), .val (.ref ob99), .val (.int (own_eh3 (Int32.ofNat qn) (Int32.ofNat xn) (Int32.ofNat yn) (Int32.ofNat zn))), .val (.int (own_es3 (Int32.ofNat xn) (Int32.ofNat yn) (Int32.ofNat zn)))] [])) _
      refine XS.aload X99.here hx rfl (hb hby at_233) rfl rfl ?_
      show Steps p.tables e below (T99.setTop (mkF m 235 #[.val (.int p0), .val (.int p1), .val (.int p2), .val (.int p3), .val (.int p4), .val (.int (3 : Int32)), .val (.int (Int32.ofNat xn)), .val (.int (Int32.ofNat yn)), .val (.int (Int32.ofNat zn)), .val (.int (((p4.toUInt32 >>> ((10 : Int32) &&& 31).toUInt32).toInt32) &&& (3 : Int32))), .val (.int (Int32.ofNat qn)), .val (.ref b86), .val (.ref ob99), .val (.int (own_eh3 (Int32.ofNat qn) (Int32.ofNat xn) (Int32.ofNat yn) (Int32.ofNat zn))), .val (.int (own_es3 (Int32.ofNat xn) (Int32.ofNat yn) (Int32.ofNat zn)))] [(.ref ob99)])) _
      refine XS.iload X99.here hx rfl (hb hby at_235) rfl ?_
      exact kt
    have f104 := (Nat.le_trans f98 Kq99.1)
    obtain ⟨cq105, kq105, q105a, q105b, q105c⟩ := isOf hZ rfl Eq99
    obtain ⟨_, _, ⟨T106, L106, k106, n106⟩, -, X106, ⟨Lc106, hQ106, l106, y106, z106⟩, st106⟩ := X99.virtualBack hx (y := (⟨"com/example/emex/emex/explain/Positions", "has", "(I)Z"⟩ : MethodName)) (z := (⟨"com/example/emex/emex/explain/Positions", "has", "(I)Z"⟩ : MethodName)) hown (mvT hZ (hw _ (List.mem_of_getElem? (i := 37) rfl))) (mvT hZ (hw _ (List.mem_of_getElem? (i := 38) rfl))) (notFace_of_selects (args := #[]) (mvT hZ (hw _ (List.mem_of_getElem? (i := 40) rfl)))) (mvT hZ (hw _ (List.mem_of_getElem? (i := 40) rfl))) (mvT hZ (hw _ (List.mem_of_getElem? (i := 39) rfl))) (by decide) (backOf (W := 0) (rm7 l Z a0 hw []  ob99 qn ot99 kk99 ln (own_or (own_or (own_or own_f0 xn) yn) zn) T99.heap n0 f104 Fw99 Vq99 hl8 hqn) hZ (hw _ (List.mem_of_getElem? (i := 41) rfl)) (hw _ (List.mem_of_getElem? (i := 3) rfl)) (by decide) (by decide)) q105a q105c (g := (mkF m 237 #[.val (.int p0), .val (.int p1), .val (.int p2), .val (.int p3), .val (.int p4), .val (.int (3 : Int32)), .val (.int (Int32.ofNat xn)), .val (.int (Int32.ofNat yn)), .val (.int (Int32.ofNat zn)), .val (.int (((p4.toUInt32 >>> ((10 : Int32) &&& 31).toUInt32).toInt32) &&& (3 : Int32))), .val (.int (Int32.ofNat qn)), .val (.ref b86), .val (.ref ob99), .val (.int (own_eh3 (Int32.ofNat qn) (Int32.ofNat xn) (Int32.ofNat yn) (Int32.ofNat zn))), .val (.int (own_es3 (Int32.ofNat xn) (Int32.ofNat yn) (Int32.ofNat zn)))] [(.int (Int32.ofNat qn)), (.ref ob99)])) rfl (by rw [hml]; rfl) (Steps.refl _) (argsL := [(.int (Int32.ofNat qn))]) (rest := []) (lenOf pd_5 rfl) rfl (by show 2 * 0 + _ ≤ _; exact Nat.le_of_eq rfl) (hb hby at_237) (fun _ _ => ⟨rfl, rfl, (by decide : 6 + 0 ≤ _), (by decide : 29 + 0 ≤ _)⟩)
    dsimp only [Pt.U, Pt.locs, Pt.cells, Pt.slots] at X106 l106 y106 z106 st106 hQ106
    subst l106 y106 z106
    obtain ⟨rfl, N106q, e106⟩ := hQ106
    have N106 := Fr.app N99 N106q
    have c108 : ∀ t, Steps p.tables e below (T106.setTop (mkF m 242 #[.val (.int p0), .val (.int p1), .val (.int p2), .val (.int p3), .val (.int p4), .val (.int (3 : Int32)), .val (.int (Int32.ofNat xn)), .val (.int (Int32.ofNat yn)), .val (.int (Int32.ofNat zn)), .val (.int (((p4.toUInt32 >>> ((10 : Int32) &&& 31).toUInt32).toInt32) &&& (3 : Int32))), .val (.int (Int32.ofNat qn)), .val (.ref b86), .val (.ref ob99), .val (.int (own_eh3 (Int32.ofNat qn) (Int32.ofNat xn) (Int32.ofNat yn) (Int32.ofNat zn))), .val (.int (own_es3 (Int32.ofNat xn) (Int32.ofNat yn) (Int32.ofNat zn)))] [(.int (own_eh3 (Int32.ofNat qn) (Int32.ofNat xn) (Int32.ofNat yn) (Int32.ofNat zn))), (.int (own_hs (own_or (own_or (own_or own_f0 xn) yn) zn) ln qn))])) t → Steps p.tables e below (T106.setTop (mkF m 240 #[.val (.int p0), .val (.int p1), .val (.int p2), .val (.int p3), .val (.int p4), .val (.int (3 : Int32)), .val (.int (Int32.ofNat xn)), .val (.int (Int32.ofNat yn)), .val (.int (Int32.ofNat zn)), .val (.int (((p4.toUInt32 >>> ((10 : Int32) &&& 31).toUInt32).toInt32) &&& (3 : Int32))), .val (.int (Int32.ofNat qn)), .val (.ref b86), .val (.ref ob99), .val (.int (own_eh3 (Int32.ofNat qn) (Int32.ofNat xn) (Int32.ofNat yn) (Int32.ofNat zn))), .val (.int (own_es3 (Int32.ofNat xn) (Int32.ofNat yn) (Int32.ofNat zn)))] [(.int (own_hs (own_or (own_or (own_or own_f0 xn) yn) zn) ln qn))])) t := by
      intro t kt
      show Steps p.tables e below (T106.setTop (mkF m 240 #[.val (.int p0), .val (.int p1), .val (.int p2), .val (.int p3), .val (.int p4), .val (.int (3 : Int32)), .val (.int (Int32.ofNat xn)), .val (.int (Int32.ofNat yn)), .val (.int (Int32.ofNat zn)), .val (.int (((p4.toUInt32 >>> ((10 : Int32) &&& 31).toUInt32).toInt32) &&& (3 : Int32))), .val (.int (Int32.ofNat qn)), .val (.ref b86), .val (.ref ob99), .val (.int (own_eh3 (Int32.ofNat qn) (Int32.ofNat xn) (Int32.ofNat yn) (Int32.ofNat zn))), .val (.int (own_es3 (Int32.ofNat xn) (Int32.ofNat yn) (Int32.ofNat zn)))] [(.int (own_hs (own_or (own_or (own_or own_f0 xn) yn) zn) ln qn))])) _
      refine XS.iload X106.here hx rfl (hb hby at_240) rfl ?_
      exact kt
    have hd107 : (own_hs (own_or (own_or (own_or own_f0 xn) yn) zn) ln qn) = (own_eh3 (Int32.ofNat qn) (Int32.ofNat xn) (Int32.ofNat yn) (Int32.ofNat zn)) := own_H3 ln qn xn yn zn hqn hxn hyn hzn hz
    have c109 : ∀ t, Steps p.tables e below (T106.setTop (mkF m 247 #[.val (.int p0), .val (.int p1), .val (.int p2), .val (.int p3), .val (.int p4), .val (.int (3 : Int32)), .val (.int (Int32.ofNat xn)), .val (.int (Int32.ofNat yn)), .val (.int (Int32.ofNat zn)), .val (.int (((p4.toUInt32 >>> ((10 : Int32) &&& 31).toUInt32).toInt32) &&& (3 : Int32))), .val (.int (Int32.ofNat qn)), .val (.ref b86), .val (.ref ob99), .val (.int (own_eh3 (Int32.ofNat qn) (Int32.ofNat xn) (Int32.ofNat yn) (Int32.ofNat zn))), .val (.int (own_es3 (Int32.ofNat xn) (Int32.ofNat yn) (Int32.ofNat zn)))] [(.ref ob99)])) t → Steps p.tables e below (T106.setTop (mkF m 242 #[.val (.int p0), .val (.int p1), .val (.int p2), .val (.int p3), .val (.int p4), .val (.int (3 : Int32)), .val (.int (Int32.ofNat xn)), .val (.int (Int32.ofNat yn)), .val (.int (Int32.ofNat zn)), .val (.int (((p4.toUInt32 >>> ((10 : Int32) &&& 31).toUInt32).toInt32) &&& (3 : Int32))), .val (.int (Int32.ofNat qn)), .val (.ref b86), .val (.ref ob99), .val (.int (own_eh3 (Int32.ofNat qn) (Int32.ofNat xn) (Int32.ofNat yn) (Int32.ofNat zn))), .val (.int (own_es3 (Int32.ofNat xn) (Int32.ofNat yn) (Int32.ofNat zn)))] [(.int (own_eh3 (Int32.ofNat qn) (Int32.ofNat xn) (Int32.ofNat yn) (Int32.ofNat zn))), (.int (own_hs (own_or (own_or (own_or own_f0 xn) yn) zn) ln qn))])) t := by
      intro t kt
      show Steps p.tables e below (T106.setTop (mkF m 242 #[.val (.int p0), .val (.int p1), .val (.int p2), .val (.int p3), .val (.int p4), .val (.int (3 : Int32)), .val (.int (Int32.ofNat xn)), .val (.int (Int32.ofNat yn)), .val (.int (Int32.ofNat zn)), .val (.int (((p4.toUInt32 >>> ((10 : Int32) &&& 31).toUInt32).toInt32) &&& (3 : Int32))), .val (.int (Int32.ofNat qn)), .val (.ref b86), .val (.ref ob99), .val (.int (own_eh3 (Int32.ofNat qn) (Int32.ofNat xn) (Int32.ofNat yn) (Int32.ofNat zn))), .val (.int (own_es3 (Int32.ofNat xn) (Int32.ofNat yn) (Int32.ofNat zn)))] [(.int (own_eh3 (Int32.ofNat qn) (Int32.ofNat xn) (Int32.ofNat yn) (Int32.ofNat zn))), (.int (own_hs (own_or (own_or (own_or own_f0 xn) yn) zn) ln qn))])) _
      refine XS.icmpNo X106.here hx rfl (hb hby at_242) rfl (teq (hd107)).2 ?_
      show Steps p.tables e below (T106.setTop (mkF m 245 #[.val (.int p0), .val (.int p1), .val (.int p2), .val (.int p3), .val (.int p4), .val (.int (3 : Int32)), .val (.int (Int32.ofNat xn)), .val (.int (Int32.ofNat yn)), .val (.int (Int32.ofNat zn)), .val (.int (((p4.toUInt32 >>> ((10 : Int32) &&& 31).toUInt32).toInt32) &&& (3 : Int32))), .val (.int (Int32.ofNat qn)), .val (.ref b86), .val (.ref ob99), .val (.int (own_eh3 (Int32.ofNat qn) (Int32.ofNat xn) (Int32.ofNat yn) (Int32.ofNat zn))), .val (.int (own_es3 (Int32.ofNat xn) (Int32.ofNat yn) (Int32.ofNat zn)))] [])) _
      refine XS.aload X106.here hx rfl (hb hby at_245) rfl rfl ?_
      exact kt
    obtain ⟨cq110, kq110, q110a, q110b, q110c⟩ := isOf hZ e106 Eq99
    obtain ⟨_, _, ⟨T111, L111, k111, n111⟩, -, X111, ⟨Lc111, hQ111, l111, y111, z111⟩, st111⟩ := X106.virtualBack hx (y := (⟨"com/example/emex/emex/explain/Positions", "size", "()I"⟩ : MethodName)) (z := (⟨"com/example/emex/emex/explain/Positions", "size", "()I"⟩ : MethodName)) hown (mvT hZ (hw _ (List.mem_of_getElem? (i := 42) rfl))) (mvT hZ (hw _ (List.mem_of_getElem? (i := 43) rfl))) (notFace_of_selects (args := #[]) (mvT hZ (hw _ (List.mem_of_getElem? (i := 45) rfl)))) (mvT hZ (hw _ (List.mem_of_getElem? (i := 45) rfl))) (mvT hZ (hw _ (List.mem_of_getElem? (i := 44) rfl))) (by decide) (backOf (W := 0) (rm8 l Z a0 hw [] ob99 (own_cnt (own_or (own_or (own_or own_f0 xn) yn) zn) ln) T99.heap n0 f104 Fs99) hZ (hw _ (List.mem_of_getElem? (i := 46) rfl)) (hw _ (List.mem_of_getElem? (i := 3) rfl)) (by decide) (by decide)) q110a q110c (g := (mkF m 247 #[.val (.int p0), .val (.int p1), .val (.int p2), .val (.int p3), .val (.int p4), .val (.int (3 : Int32)), .val (.int (Int32.ofNat xn)), .val (.int (Int32.ofNat yn)), .val (.int (Int32.ofNat zn)), .val (.int (((p4.toUInt32 >>> ((10 : Int32) &&& 31).toUInt32).toInt32) &&& (3 : Int32))), .val (.int (Int32.ofNat qn)), .val (.ref b86), .val (.ref ob99), .val (.int (own_eh3 (Int32.ofNat qn) (Int32.ofNat xn) (Int32.ofNat yn) (Int32.ofNat zn))), .val (.int (own_es3 (Int32.ofNat xn) (Int32.ofNat yn) (Int32.ofNat zn)))] [(.ref ob99)])) rfl (by rw [hml]; rfl) (Steps.refl _) (argsL := []) (rest := []) (lenOf pd_6 rfl) rfl (by show 2 * 0 + _ ≤ _; exact Nat.le_of_eq rfl) (hb hby at_247) (fun _ _ => ⟨rfl, e106, (by decide : 6 + 0 ≤ _), (by decide : 29 + 0 ≤ _)⟩)
    dsimp only [Pt.U, Pt.locs, Pt.cells, Pt.slots] at X111 l111 y111 z111 st111 hQ111
    subst l111 y111 z111
    obtain ⟨rfl, N111q, e111⟩ := hQ111
    have N111 := Fr.app N106 N111q
    have c113 : ∀ t, Steps p.tables e below (T111.setTop (mkF m 252 #[.val (.int p0), .val (.int p1), .val (.int p2), .val (.int p3), .val (.int p4), .val (.int (3 : Int32)), .val (.int (Int32.ofNat xn)), .val (.int (Int32.ofNat yn)), .val (.int (Int32.ofNat zn)), .val (.int (((p4.toUInt32 >>> ((10 : Int32) &&& 31).toUInt32).toInt32) &&& (3 : Int32))), .val (.int (Int32.ofNat qn)), .val (.ref b86), .val (.ref ob99), .val (.int (own_eh3 (Int32.ofNat qn) (Int32.ofNat xn) (Int32.ofNat yn) (Int32.ofNat zn))), .val (.int (own_es3 (Int32.ofNat xn) (Int32.ofNat yn) (Int32.ofNat zn)))] [(.int (own_es3 (Int32.ofNat xn) (Int32.ofNat yn) (Int32.ofNat zn))), (.int (own_cnt (own_or (own_or (own_or own_f0 xn) yn) zn) ln))])) t → Steps p.tables e below (T111.setTop (mkF m 250 #[.val (.int p0), .val (.int p1), .val (.int p2), .val (.int p3), .val (.int p4), .val (.int (3 : Int32)), .val (.int (Int32.ofNat xn)), .val (.int (Int32.ofNat yn)), .val (.int (Int32.ofNat zn)), .val (.int (((p4.toUInt32 >>> ((10 : Int32) &&& 31).toUInt32).toInt32) &&& (3 : Int32))), .val (.int (Int32.ofNat qn)), .val (.ref b86), .val (.ref ob99), .val (.int (own_eh3 (Int32.ofNat qn) (Int32.ofNat xn) (Int32.ofNat yn) (Int32.ofNat zn))), .val (.int (own_es3 (Int32.ofNat xn) (Int32.ofNat yn) (Int32.ofNat zn)))] [(.int (own_cnt (own_or (own_or (own_or own_f0 xn) yn) zn) ln))])) t := by
      intro t kt
      show Steps p.tables e below (T111.setTop (mkF m 250 #[.val (.int p0), .val (.int p1), .val (.int p2), .val (.int p3), .val (.int p4), .val (.int (3 : Int32)), .val (.int (Int32.ofNat xn)), .val (.int (Int32.ofNat yn)), .val (.int (Int32.ofNat zn)), .val (.int (((p4.toUInt32 >>> ((10 : Int32) &&& 31).toUInt32).toInt32) &&& (3 : Int32))), .val (.int (Int32.ofNat qn)), .val (.ref b86), .val (.ref ob99), .val (.int (own_eh3 (Int32.ofNat qn) (Int32.ofNat xn) (Int32.ofNat yn) (Int32.ofNat zn))), .val (.int (own_es3 (Int32.ofNat xn) (Int32.ofNat yn) (Int32.ofNat zn)))] [(.int (own_cnt (own_or (own_or (own_or own_f0 xn) yn) zn) ln))])) _
      refine XS.iload X111.here hx rfl (hb hby at_250) rfl ?_
      exact kt
    have hd112 : (own_cnt (own_or (own_or (own_or own_f0 xn) yn) zn) ln) = (own_es3 (Int32.ofNat xn) (Int32.ofNat yn) (Int32.ofNat zn)) := own_C3 ln xn yn zn hl8 hxn hyn hzn hp0 hp1 hp2
    have c114 : ∀ t, Steps p.tables e below (T111.setTop (mkF m 260 #[.val (.int p0), .val (.int p1), .val (.int p2), .val (.int p3), .val (.int p4), .val (.int (3 : Int32)), .val (.int (Int32.ofNat xn)), .val (.int (Int32.ofNat yn)), .val (.int (Int32.ofNat zn)), .val (.int (((p4.toUInt32 >>> ((10 : Int32) &&& 31).toUInt32).toInt32) &&& (3 : Int32))), .val (.int (Int32.ofNat qn)), .val (.ref b86), .val (.ref ob99), .val (.int (own_eh3 (Int32.ofNat qn) (Int32.ofNat xn) (Int32.ofNat yn) (Int32.ofNat zn))), .val (.int (own_es3 (Int32.ofNat xn) (Int32.ofNat yn) (Int32.ofNat zn)))] [(.int (1 : Int32))])) t → Steps p.tables e below (T111.setTop (mkF m 252 #[.val (.int p0), .val (.int p1), .val (.int p2), .val (.int p3), .val (.int p4), .val (.int (3 : Int32)), .val (.int (Int32.ofNat xn)), .val (.int (Int32.ofNat yn)), .val (.int (Int32.ofNat zn)), .val (.int (((p4.toUInt32 >>> ((10 : Int32) &&& 31).toUInt32).toInt32) &&& (3 : Int32))), .val (.int (Int32.ofNat qn)), .val (.ref b86), .val (.ref ob99), .val (.int (own_eh3 (Int32.ofNat qn) (Int32.ofNat xn) (Int32.ofNat yn) (Int32.ofNat zn))), .val (.int (own_es3 (Int32.ofNat xn) (Int32.ofNat yn) (Int32.ofNat zn)))] [(.int (own_es3 (Int32.ofNat xn) (Int32.ofNat yn) (Int32.ofNat zn))), (.int (own_cnt (own_or (own_or (own_or own_f0 xn) yn) zn) ln))])) t := by
      intro t kt
      show Steps p.tables e below (T111.setTop (mkF m 252 #[.val (.int p0), .val (.int p1), .val (.int p2), .val (.int p3), .val (.int p4), .val (.int (3 : Int32)), .val (.int (Int32.ofNat xn)), .val (.int (Int32.ofNat yn)), .val (.int (Int32.ofNat zn)), .val (.int (((p4.toUInt32 >>> ((10 : Int32) &&& 31).toUInt32).toInt32) &&& (3 : Int32))), .val (.int (Int32.ofNat qn)), .val (.ref b86), .val (.ref ob99), .val (.int (own_eh3 (Int32.ofNat qn) (Int32.ofNat xn) (Int32.ofNat yn) (Int32.ofNat zn))), .val (.int (own_es3 (Int32.ofNat xn) (Int32.ofNat yn) (Int32.ofNat zn)))] [(.int (own_es3 (Int32.ofNat xn) (Int32.ofNat yn) (Int32.ofNat zn))), (.int (own_cnt (own_or (own_or (own_or own_f0 xn) yn) zn) ln))])) _
      refine XS.icmpNo X111.here hx rfl (hb hby at_252) rfl (teq (hd112)).2 ?_
      show Steps p.tables e below (T111.setTop (mkF m 255 #[.val (.int p0), .val (.int p1), .val (.int p2), .val (.int p3), .val (.int p4), .val (.int (3 : Int32)), .val (.int (Int32.ofNat xn)), .val (.int (Int32.ofNat yn)), .val (.int (Int32.ofNat zn)), .val (.int (((p4.toUInt32 >>> ((10 : Int32) &&& 31).toUInt32).toInt32) &&& (3 : Int32))), .val (.int (Int32.ofNat qn)), .val (.ref b86), .val (.ref ob99), .val (.int (own_eh3 (Int32.ofNat qn) (Int32.ofNat xn) (Int32.ofNat yn) (Int32.ofNat zn))), .val (.int (own_es3 (Int32.ofNat xn) (Int32.ofNat yn) (Int32.ofNat zn)))] [])) _
      refine XS.iconst X111.here hx rfl (hb hby at_255) ?_
      show Steps p.tables e below (T111.setTop (mkF m 256 #[.val (.int p0), .val (.int p1), .val (.int p2), .val (.int p3), .val (.int p4), .val (.int (3 : Int32)), .val (.int (Int32.ofNat xn)), .val (.int (Int32.ofNat yn)), .val (.int (Int32.ofNat zn)), .val (.int (((p4.toUInt32 >>> ((10 : Int32) &&& 31).toUInt32).toInt32) &&& (3 : Int32))), .val (.int (Int32.ofNat qn)), .val (.ref b86), .val (.ref ob99), .val (.int (own_eh3 (Int32.ofNat qn) (Int32.ofNat xn) (Int32.ofNat yn) (Int32.ofNat zn))), .val (.int (own_es3 (Int32.ofNat xn) (Int32.ofNat yn) (Int32.ofNat zn)))] [(.int (1 : Int32))])) _
      refine XS.goto X111.here hx rfl (pc0 := 256) (pc' := 260) rfl (hb hby at_256) (by decide) (by decide) ?_
      exact kt
    obtain ⟨fs, hr, hrun, hended, hW, hsame⟩ := X111.leave (v := some (.int (1 : Int32))) (fun h => by rw [Bd.returns] at h; cases h)
    refine ⟨_, _, pre0 _ (c1 _ (c2 _ (c3 _ (c4 _ (c5 _ (c6 _ (c7 _ (c8 _ (c9 _ (c85 _ (c87 _ (st86 _ (c88 _ (st90 _ (c91 _ (st93 _ (c94 _ (st96 _ (c97 _ (st99 _ (c100 _ (c101 _ (c102 _ (c103 _ (st106.trans (c108 _ (c109 _ (st111.trans (c113 _ (c114 _ (?_))))))))))))))))))))))))))))))), hrun, hended, _, _, rfl, ?_, ⟨_, rfl⟩, hW, hsame.mono (by decide) (by decide)⟩
    · show Steps p.tables e below (T111.setTop (mkF m 260 #[.val (.int p0), .val (.int p1), .val (.int p2), .val (.int p3), .val (.int p4), .val (.int (3 : Int32)), .val (.int (Int32.ofNat xn)), .val (.int (Int32.ofNat yn)), .val (.int (Int32.ofNat zn)), .val (.int (((p4.toUInt32 >>> ((10 : Int32) &&& 31).toUInt32).toInt32) &&& (3 : Int32))), .val (.int (Int32.ofNat qn)), .val (.ref b86), .val (.ref ob99), .val (.int (own_eh3 (Int32.ofNat qn) (Int32.ofNat xn) (Int32.ofNat yn) (Int32.ofNat zn))), .val (.int (own_es3 (Int32.ofNat xn) (Int32.ofNat yn) (Int32.ofNat zn)))] [(.int (1 : Int32))])) _
      exact retN X111 hx (t := .boolean) Bd.returns (by simp) (hb hby at_260) hr
    · show Q0 Z p0 p1 p2 p3 p4 h0 n0 _ T111.heap _
      rw [e111]
      exact ⟨congrArg (fun z => some (Value.int z)) (show (1 : Int32) = (1 : Int32) from by rfl), N111⟩
set_option maxRecDepth 65536 in
set_option maxHeartbeats 40000000 in
theorem comes_1 {Post : Tables → Env → Array Value → State → Outcome → State → Prop} (hpost : ∀ tb e args s v u, (limb_1_1.after args s (.returned v) u = true ∧ limb_1_2.after args s (.returned v) u = true ∧ True) → FrameEnd s (.returned v) u (Jvm.fieldLocs frame_1_writes args s ++ Jvm.arrayLocs frame_1_arrays args s ++ Jvm.staticLocs frame_1_statics s) 24 128 → Post tb e args s (.returned v) u) :
    ArmFor flags0 classFile x code maxLocals ret World_1 tables_1 room_1 Calls_1 rest_1 Pre_1 Post := by
  intro l hfl _ _ p e ha hc hk s m args below hf hA hF happ hP
  obtain ⟨hcalls, hrest, hpre⟩ := hP
  obtain ⟨-, -, -, hnamed, -, -, -, hat⟩ := (Spec.applies_iff hf).mp happ
  obtain ⟨hg, hn⟩ := and_e (Cond.before_iff.mp (show (Jvm.Cond.and given_1 narrow_1).before args s = true from hpre))
  obtain ⟨g1, g2⟩ := and_e hg
  obtain ⟨g3, g4⟩ := and_e g2
  obtain ⟨g5, g6⟩ := and_e g4
  obtain ⟨g7, g8⟩ := and_e g6
  obtain ⟨g9, g10⟩ := and_e g8
  obtain ⟨w0, w1, w2, w3, w4, rfl⟩ : ∃ w0 w1 w2 w3 w4 : Value, args = #[w0, w1, w2, w3, w4] := by
    have hs : args.size = 5 := by simpa [Cond.value, given_1] using g1
    obtain ⟨L⟩ := args
    match L, hs with
    | [w0, w1, w2, w3, w4], _ => exact ⟨w0, w1, w2, w3, w4, rfl⟩
  have hw := fun d (hd : d ∈ tables_1) => atoms_spec (ws := Jvm.Cond.code x code maxLocals ret :: tables_1) hat d (List.mem_cons_of_mem _ hd)
  have hfit : Fit s := fun {y c} hc i hi => by
    obtain ⟨ha, rfl⟩ := Array.getElem?_eq_some_iff.mp hc
    have q := List.all_eq_true.mp ((Array.all_eq_true_iff_forall_mem.mp hF) _ (Array.getElem_mem ha)) i (List.mem_range.mpr hi)
    simpa [Array.getElem?_eq_getElem hi] using q
  obtain ⟨i0, ei0⟩ := is_v g3
  obtain rfl : w0 = (.int i0) := Option.some.inj ei0
  obtain ⟨i1, ei1⟩ := is_v g5
  obtain rfl : w1 = (.int i1) := Option.some.inj ei1
  obtain ⟨i2, ei2⟩ := is_v g7
  obtain rfl : w2 = (.int i2) := Option.some.inj ei2
  obtain ⟨i3, ei3⟩ := is_v g9
  obtain rfl : w3 = (.int i3) := Option.some.inj ei3
  obtain ⟨i4, ei4⟩ := is_v g10
  obtain rfl : w4 = (.int i4) := Option.some.inj ei4
  obtain ⟨n, o, h1, h2, h3, _, L, rfl, ⟨rfl, N⟩, hq⟩ := rm0 l s _ hw tables_1 i0 i1 i2 i3 i4  s.heap s.heap.size (Nat.le_refl _)  p e ha hc hk s m _ below hf ((Spec.applies_iff_loose hf).mp happ).1 ⟨rfl, State.Warmed39.refl s, rfl⟩ trivial
  refine ⟨n, _, h1, h2, h3, hpost _ _ _ _ _ _ ⟨Cond.after_iff.mpr rfl, Cond.after_iff.mpr (eq_i res_at (Term.int_eval (1)) rfl), trivial⟩ ⟨hq.1, hq.2.1, (hq.2.2.sift fun y hy => Or.inr (N y hy)).mono (by decide) (by decide)⟩⟩
theorem main_1_1 : Claimed_1_1 := comes_1 fun _ _ _ _ _ _ h hF => ⟨h.1, hF⟩
theorem main_1_2 : Claimed_1_2 := comes_1 fun _ _ _ _ _ _ h hF => ⟨h.2.1, hF⟩
end Jvm.Pilot.@@N@@
namespace Jvm.Pilot.@@N@@
open Jvm Jvm.ClassFile Sem Op Lib Jvm.Free Jvm.Stand Jvm.Pilot.@@N@@.Jvm.D
/-! MADE BY PROGRAM (witnessworld.py) out of the Statement's table words and the real class files: 19 classes; the members and pool entries that the words name. The judged class is class 1, her method 1. -/
namespace start1
open Jvm.ClassFile
def u (s : String) : CpInfo := .utf8 (stringToUtf16 s)
/-- a pool by its gaps: so many unusable entries, then the entry; so many at the end -/
def gap : Nat → List CpInfo → List CpInfo
  | 0, r => r
  | n + 1, r => .unusable :: gap n r
def poolList (es : List (Nat × CpInfo)) (last : Nat) : List CpInfo := es.foldr (fun e r => gap e.1 (e.2 :: r)) (gap last [])
def pool (es : List (Nat × CpInfo)) (last : Nat) : Array CpInfo := ⟨poolList es last⟩
def fileOf (pool : Array CpInfo) (this : Nat) (attrs : Array Attribute := #[]) (ms : Array MethodInfo := #[]) (fl : Nat := 33) (sup : Nat := 0) (ifs : Array Nat := #[]) (fds : Array FieldInfo := #[]) : ClassFile where
  minorVersion := 0
  majorVersion := 65
  constantPool := pool
  accessFlags := fl
  thisClass := this
  superClass := sup
  interfaces := ifs
  fields := fds
  methods := ms
  attributes := attrs
def plain (name : String) (sup : Option ClassId) : Class where
  name := name
  kind := .ordinary
  loader := none
  accessFlags := 33
  super := sup
  interfaces := #[]
  cf := none
  fields := #[]
  methods := #[]
  instanceTypes := #[]
  staticTypes := #[]
  resolved := #[]
  callSites := []
  init := .initialized
  statics := none
  mirror := none

def pool0 : Array CpInfo := pool [(5, u "<init>"), (0, u "()V"), (1, .class_ 10), (1, u "java/lang/Object")] 113

def k0c0 : Code := { maxStack := 0, maxLocals := 1, code := object_method_1_code, exceptionTable := #[], attributes := #[] }
def k0m0 : Method := { name := "<init>", desc := "()V", sig := { parameters := [], returnType := none }, accessFlags := 1, code := some k0c0 }
/-- java/lang/Object -/
def k0 : Class := { plain "java/lang/Object" none with
  accessFlags := 33
  interfaces := #[]
  cf := some (fileOf pool0 8 #[] #[{ accessFlags := 1, nameIndex := 5, descriptorIndex := 6, attributes := #[] }] 33 0 #[] #[])
  fields := #[]
  methods := #[k0m0]
  instanceTypes := #[]
  staticTypes := #[]
  resolved := Array.replicate 124 none
  statics := none }

def pool1 : Array CpInfo := pool [(2, .class_ 4), (1, u "java/lang/Object"), (0, u "<init>"), (0, u "()V"), (0, .methodref 8 9), (0, .class_ 10), (0, .nameAndType 11 12), (0, u "com/example/emex/emex/explain/Positions"), (0, u "of"), (0, u "([I)Lcom/example/emex/emex/explain/Positions;"), (0, .methodref 8 14), (0, .nameAndType 15 16), (0, u "has"), (0, u "(I)Z"), (0, .methodref 8 18), (0, .nameAndType 19 20), (0, u "size"), (0, u "()I"), (0, .class_ 22), (0, u "com/example/emex/emex/explain/PositionsOfPinLaw"), (2, u "law"), (0, u "(IIIII)Z")] 5

def k1m0 : Method := { name := "<init>", desc := "()V", sig := { parameters := [], returnType := none }, accessFlags := 1, code := none }
def k1c1 : Code := { maxStack := 3, maxLocals := 15, code := code, exceptionTable := #[], attributes := #[] }
def k1m1 : Method := { name := "law", desc := "(IIIII)Z", sig := { parameters := [.int, .int, .int, .int, .int], returnType := some .boolean }, accessFlags := 9, code := some k1c1 }
/-- com/example/emex/emex/explain/PositionsOfPinLaw -/
def k1 : Class := { plain "com/example/emex/emex/explain/PositionsOfPinLaw" (some 0) with
  accessFlags := 49
  interfaces := #[]
  cf := some (fileOf pool1 21 #[] #[{ accessFlags := 1, nameIndex := 5, descriptorIndex := 6, attributes := #[] }, { accessFlags := 9, nameIndex := 25, descriptorIndex := 26, attributes := #[] }] 49 2 #[] #[])
  fields := #[]
  methods := #[k1m0, k1m1]
  instanceTypes := #[]
  staticTypes := #[]
  resolved := Array.replicate 32 none
  statics := none }

def pool2 : Array CpInfo := pool [(1, .methodref 2 3), (0, .class_ 4), (0, .nameAndType 5 6), (0, u "java/lang/Object"), (0, u "<init>"), (0, u "()V"), (0, .methodref 8 9), (0, .class_ 10), (0, .nameAndType 11 12), (0, u "java/util/Arrays"), (0, u "copyOf"), (0, u "([JI)[J"), (0, .fieldref 14 15), (0, .class_ 16), (0, .nameAndType 17 18), (0, u "com/example/emex/emex/explain/Positions"), (0, u "words"), (0, u "[J"), (0, .methodref 20 21), (0, .class_ 22), (0, .nameAndType 23 24), (0, u "java/lang/Long"), (0, u "bitCount"), (0, u "(J)I"), (0, .fieldref 14 26), (0, .nameAndType 27 28), (0, u "size"), (0, u "I"), (2, u "NONE"), (0, u "Lcom/example/emex/emex/explain/Positions;"), (0, .methodref 14 34), (0, .nameAndType 5 35), (0, u "([J)V"), (8, u "has"), (0, u "(I)Z"), (35, u "FEWEST_FIRST"), (0, u "Ljava/util/Comparator;"), (7, u "of"), (0, u "([I)Lcom/example/emex/emex/explain/Positions;"), (2, u "()I")] 38

def k2c0 : Code := { maxStack := 4, maxLocals := 9, code := prog_13_method_1_code, exceptionTable := #[], attributes := #[] }
def k2m0 : Method := { name := "<init>", desc := "([J)V", sig := { parameters := [(.array .long)], returnType := none }, accessFlags := 2, code := some k2c0 }
def k2c1 : Code := { maxStack := 7, maxLocals := 7, code := prog_13_method_3_code, exceptionTable := #[], attributes := #[] }
def k2m1 : Method := { name := "of", desc := "([I)Lcom/example/emex/emex/explain/Positions;", sig := { parameters := [(.array .int)], returnType := some (.object "com/example/emex/emex/explain/Positions") }, accessFlags := 136, code := some k2c1 }
def k2c2 : Code := { maxStack := 1, maxLocals := 1, code := prog_13_method_4_code, exceptionTable := #[], attributes := #[] }
def k2m2 : Method := { name := "size", desc := "()I", sig := { parameters := [], returnType := some .int }, accessFlags := 0, code := some k2c2 }
def k2c3 : Code := { maxStack := 5, maxLocals := 3, code := prog_13_method_11_code, exceptionTable := #[], attributes := #[] }
def k2m3 : Method := { name := "has", desc := "(I)Z", sig := { parameters := [.int], returnType := some .boolean }, accessFlags := 0, code := some k2c3 }
/-- com/example/emex/emex/explain/Positions -/
def k2 : Class := { plain "com/example/emex/emex/explain/Positions" (some 0) with
  accessFlags := 48
  interfaces := #[]
  cf := some (fileOf pool2 14 #[] #[{ accessFlags := 2, nameIndex := 5, descriptorIndex := 35, attributes := #[] }, { accessFlags := 136, nameIndex := 90, descriptorIndex := 91, attributes := #[] }, { accessFlags := 0, nameIndex := 27, descriptorIndex := 94, attributes := #[] }, { accessFlags := 0, nameIndex := 44, descriptorIndex := 45, attributes := #[] }] 48 2 #[] #[{ accessFlags := 24, nameIndex := 81, descriptorIndex := 82, attributes := #[] }, { accessFlags := 26, nameIndex := 31, descriptorIndex := 32, attributes := #[] }, { accessFlags := 18, nameIndex := 17, descriptorIndex := 18, attributes := #[] }, { accessFlags := 18, nameIndex := 27, descriptorIndex := 28, attributes := #[] }])
  fields := #[{ name := "FEWEST_FIRST", type := (.object "java/util/Comparator"), accessFlags := 24, slot := 0, constantValue := 0 }, { name := "NONE", type := (.object "com/example/emex/emex/explain/Positions"), accessFlags := 26, slot := 1, constantValue := 0 }, { name := "words", type := (.array .long), accessFlags := 18, slot := 0, constantValue := 0 }, { name := "size", type := .int, accessFlags := 18, slot := 1, constantValue := 0 }]
  methods := #[k2m0, k2m1, k2m2, k2m3]
  instanceTypes := #[(.array .long), .int]
  staticTypes := #[(.object "java/util/Comparator"), (.object "com/example/emex/emex/explain/Positions")]
  resolved := Array.replicate 133 none
  statics := none }

def pool3 : Array CpInfo := pool [(2, .class_ 4), (1, u "java/lang/Object"), (0, u "<init>"), (0, u "()V"), (7, .class_ 16), (1, u "java/util/Arrays"), (57, .class_ 76), (1, u "java/util/Arrays$NaturalOrder"), (36, .class_ 115), (1, u "java/util/Arrays$LegacyMergeSort"), (1, u "Z"), (32, .methodref 151 152), (0, .class_ 153), (0, .nameAndType 154 155), (0, u "java/lang/System"), (0, u "arraycopy"), (0, u "(Ljava/lang/Object;ILjava/lang/Object;II)V"), (146, u "copyOf"), (1, .methodref 305 306), (0, .class_ 307), (0, .nameAndType 308 309), (0, u "java/lang/Math"), (0, u "min"), (0, u "(II)I"), (65, .class_ 376), (0, u "java/util/Arrays$ArrayList"), (68, u "$assertionsDisabled"), (269, u "MIN_ARRAY_SORT_GRAN"), (0, u "I"), (2, u "INSERTIONSORT_THRESHOLD"), (152, u "([JI)[J"), (102, .class_ 976), (0, u "java/util/Arrays$ArrayItr")] 52

def k3m0 : Method := { name := "<init>", desc := "()V", sig := { parameters := [], returnType := none }, accessFlags := 2, code := none }
def k3c1 : Code := { maxStack := 6, maxLocals := 3, code := jdk_65_method_124_code, exceptionTable := #[], attributes := #[] }
def k3m1 : Method := { name := "copyOf", desc := "([JI)[J", sig := { parameters := [(.array .long), .int], returnType := some (.array .long) }, accessFlags := 9, code := some k3c1 }
/-- java/util/Arrays -/
def k3 : Class := { plain "java/util/Arrays" (some 0) with
  accessFlags := 49
  interfaces := #[]
  cf := some (fileOf pool3 14 #[.nestMembers #[975, 375, 113, 74]] #[{ accessFlags := 2, nameIndex := 5, descriptorIndex := 6, attributes := #[] }, { accessFlags := 9, nameIndex := 302, descriptorIndex := 872, attributes := #[] }] 49 2 #[] #[{ accessFlags := 26, nameIndex := 715, descriptorIndex := 716, attributes := #[] }, { accessFlags := 26, nameIndex := 719, descriptorIndex := 716, attributes := #[] }, { accessFlags := 4120, nameIndex := 445, descriptorIndex := 117, attributes := #[] }])
  fields := #[{ name := "MIN_ARRAY_SORT_GRAN", type := .int, accessFlags := 26, slot := 0, constantValue := 0 }, { name := "INSERTIONSORT_THRESHOLD", type := .int, accessFlags := 26, slot := 1, constantValue := 0 }, { name := "$assertionsDisabled", type := .boolean, accessFlags := 4120, slot := 2, constantValue := 0 }]
  methods := #[k3m0, k3m1]
  instanceTypes := #[]
  staticTypes := #[.int, .int, .boolean]
  resolved := Array.replicate 1029 none
  statics := none }

def pool4 : Array CpInfo := pool [(1, .class_ 2), (0, u "java/lang/Math"), (1, .class_ 6), (1, u "java/lang/Object"), (0, u "<init>"), (0, u "()V"), (89, .class_ 100), (1, u "java/lang/Math$RandomNumberGeneratorHolder"), (71, u "negativeZeroFloatBits"), (0, u "J"), (2, u "negativeZeroDoubleBits"), (24, u "min"), (43, u "$assertionsDisabled"), (0, u "Z"), (88, u "(II)I"), (2, u "twoToTheDoubleScaleDown"), (0, u "D"), (4, u "twoToTheDoubleScaleUp"), (9, u "E"), (3, u "PI"), (2, u "TAU"), (2, u "DEGREES_TO_RADIANS"), (0, u "RADIANS_TO_DEGREES")] 94

def k4m0 : Method := { name := "<init>", desc := "()V", sig := { parameters := [], returnType := none }, accessFlags := 2, code := none }
def k4c1 : Code := { maxStack := 2, maxLocals := 2, code := jdk_29_method_69_code, exceptionTable := #[], attributes := #[] }
def k4m1 : Method := { name := "min", desc := "(II)I", sig := { parameters := [.int, .int], returnType := some .int }, accessFlags := 9, code := some k4c1 }
/-- java/lang/Math -/
def k4 : Class := { plain "java/lang/Math" (some 0) with
  accessFlags := 49
  interfaces := #[]
  cf := some (fileOf pool4 1 #[.nestMembers #[98]] #[{ accessFlags := 2, nameIndex := 7, descriptorIndex := 8, attributes := #[] }, { accessFlags := 9, nameIndex := 201, descriptorIndex := 335, attributes := #[] }] 49 4 #[] #[{ accessFlags := 25, nameIndex := 354, descriptorIndex := 339, attributes := #[] }, { accessFlags := 25, nameIndex := 358, descriptorIndex := 339, attributes := #[] }, { accessFlags := 25, nameIndex := 361, descriptorIndex := 339, attributes := #[] }, { accessFlags := 26, nameIndex := 364, descriptorIndex := 339, attributes := #[] }, { accessFlags := 26, nameIndex := 365, descriptorIndex := 339, attributes := #[] }, { accessFlags := 26, nameIndex := 172, descriptorIndex := 173, attributes := #[] }, { accessFlags := 26, nameIndex := 176, descriptorIndex := 173, attributes := #[] }, { accessFlags := 8, nameIndex := 344, descriptorIndex := 339, attributes := #[] }, { accessFlags := 8, nameIndex := 338, descriptorIndex := 339, attributes := #[] }, { accessFlags := 4120, nameIndex := 245, descriptorIndex := 246, attributes := #[] }])
  fields := #[{ name := "E", type := .double, accessFlags := 25, slot := 0, constantValue := 0 }, { name := "PI", type := .double, accessFlags := 25, slot := 1, constantValue := 0 }, { name := "TAU", type := .double, accessFlags := 25, slot := 2, constantValue := 0 }, { name := "DEGREES_TO_RADIANS", type := .double, accessFlags := 26, slot := 3, constantValue := 0 }, { name := "RADIANS_TO_DEGREES", type := .double, accessFlags := 26, slot := 4, constantValue := 0 }, { name := "negativeZeroFloatBits", type := .long, accessFlags := 26, slot := 5, constantValue := 0 }, { name := "negativeZeroDoubleBits", type := .long, accessFlags := 26, slot := 6, constantValue := 0 }, { name := "twoToTheDoubleScaleUp", type := .double, accessFlags := 8, slot := 7, constantValue := 0 }, { name := "twoToTheDoubleScaleDown", type := .double, accessFlags := 8, slot := 8, constantValue := 0 }, { name := "$assertionsDisabled", type := .boolean, accessFlags := 4120, slot := 9, constantValue := 0 }]
  methods := #[k4m0, k4m1]
  instanceTypes := #[]
  staticTypes := #[.double, .double, .double, .double, .double, .long, .long, .double, .double, .boolean]
  resolved := Array.replicate 460 none
  statics := none }

def pool5 : Array CpInfo := pool [(2, .class_ 4), (1, u "java/lang/Object"), (0, u "<init>"), (0, u "()V"), (1, .class_ 10), (1, u "java/lang/System"), (0, u "allowSecurityManager"), (0, u "I"), (16, u "cons"), (0, u "Ljava/io/Console;"), (77, .class_ 110), (1, u "java/lang/System$CallersHolder"), (43, u "initialErrStream"), (0, u "Ljava/io/PrintStream;"), (19, u "security"), (0, u "Ljava/lang/SecurityManager;"), (31, .class_ 209), (0, u "java/lang/System$1"), (7, u "props"), (0, u "Ljava/util/Properties;"), (2, u "lineSeparator"), (0, u "Ljava/lang/String;"), (96, .class_ 321), (1, u "java/lang/System$LoggerFinder"), (5, .class_ 328), (0, u "java/lang/System$Logger"), (67, u "err"), (2, u "out"), (91, u "notSupportedJnuEncoding"), (15, u "in"), (17, u "initialIn"), (0, u "Ljava/io/InputStream;"), (35, u "bootLayer"), (0, u "Ljava/lang/ModuleLayer;"), (99, .class_ 664), (0, u "java/lang/System$2"), (9, u "NEVER"), (2, u "MAYBE"), (49, u "arraycopy"), (0, u "(Ljava/lang/Object;ILjava/lang/Object;II)V"), (72, .class_ 802), (0, u "java/lang/System$Logger$Level")] 31

def k5m0 : Method := { name := "<init>", desc := "()V", sig := { parameters := [], returnType := none }, accessFlags := 2, code := none }
def k5m1 : Method := { name := "arraycopy", desc := "(Ljava/lang/Object;ILjava/lang/Object;II)V", sig := { parameters := [(.object "java/lang/Object"), .int, (.object "java/lang/Object"), .int, .int], returnType := none }, accessFlags := 265, code := none }
/-- java/lang/System -/
def k5 : Class := { plain "java/lang/System" (some 0) with
  accessFlags := 49
  interfaces := #[]
  cf := some (fileOf pool5 8 #[.nestMembers #[319, 327, 801, 108, 663, 208]] #[{ accessFlags := 2, nameIndex := 5, descriptorIndex := 6, attributes := #[] }, { accessFlags := 265, nameIndex := 727, descriptorIndex := 728, attributes := #[] }] 49 2 #[] #[{ accessFlags := 25, nameIndex := 507, descriptorIndex := 526, attributes := #[] }, { accessFlags := 25, nameIndex := 399, descriptorIndex := 155, attributes := #[] }, { accessFlags := 25, nameIndex := 396, descriptorIndex := 155, attributes := #[] }, { accessFlags := 10, nameIndex := 525, descriptorIndex := 526, attributes := #[] }, { accessFlags := 26, nameIndex := 674, descriptorIndex := 12, attributes := #[] }, { accessFlags := 26, nameIndex := 677, descriptorIndex := 12, attributes := #[] }, { accessFlags := 10, nameIndex := 11, descriptorIndex := 12, attributes := #[] }, { accessFlags := 74, nameIndex := 175, descriptorIndex := 176, attributes := #[] }, { accessFlags := 10, nameIndex := 491, descriptorIndex := 222, attributes := #[] }, { accessFlags := 74, nameIndex := 29, descriptorIndex := 30, attributes := #[] }, { accessFlags := 74, nameIndex := 154, descriptorIndex := 155, attributes := #[] }, { accessFlags := 10, nameIndex := 217, descriptorIndex := 218, attributes := #[] }, { accessFlags := 10, nameIndex := 221, descriptorIndex := 222, attributes := #[] }, { accessFlags := 8, nameIndex := 562, descriptorIndex := 563, attributes := #[] }])
  fields := #[{ name := "in", type := (.object "java/io/InputStream"), accessFlags := 25, slot := 0, constantValue := 0 }, { name := "out", type := (.object "java/io/PrintStream"), accessFlags := 25, slot := 1, constantValue := 0 }, { name := "err", type := (.object "java/io/PrintStream"), accessFlags := 25, slot := 2, constantValue := 0 }, { name := "initialIn", type := (.object "java/io/InputStream"), accessFlags := 10, slot := 3, constantValue := 0 }, { name := "NEVER", type := .int, accessFlags := 26, slot := 4, constantValue := 0 }, { name := "MAYBE", type := .int, accessFlags := 26, slot := 5, constantValue := 0 }, { name := "allowSecurityManager", type := .int, accessFlags := 10, slot := 6, constantValue := 0 }, { name := "security", type := (.object "java/lang/SecurityManager"), accessFlags := 74, slot := 7, constantValue := 0 }, { name := "notSupportedJnuEncoding", type := (.object "java/lang/String"), accessFlags := 10, slot := 8, constantValue := 0 }, { name := "cons", type := (.object "java/io/Console"), accessFlags := 74, slot := 9, constantValue := 0 }, { name := "initialErrStream", type := (.object "java/io/PrintStream"), accessFlags := 74, slot := 10, constantValue := 0 }, { name := "props", type := (.object "java/util/Properties"), accessFlags := 10, slot := 11, constantValue := 0 }, { name := "lineSeparator", type := (.object "java/lang/String"), accessFlags := 10, slot := 12, constantValue := 0 }, { name := "bootLayer", type := (.object "java/lang/ModuleLayer"), accessFlags := 8, slot := 13, constantValue := 0 }]
  methods := #[k5m0, k5m1]
  instanceTypes := #[]
  staticTypes := #[(.object "java/io/InputStream"), (.object "java/io/PrintStream"), (.object "java/io/PrintStream"), (.object "java/io/InputStream"), .int, .int, .int, (.object "java/lang/SecurityManager"), (.object "java/lang/String"), (.object "java/io/Console"), (.object "java/io/PrintStream"), (.object "java/util/Properties"), (.object "java/lang/String"), (.object "java/lang/ModuleLayer")]
  resolved := Array.replicate 834 none
  statics := none }

def pool6 : Array CpInfo := pool [(1, .class_ 2), (0, u "java/io/Serializable"), (0, .class_ 4), (0, u "java/lang/Object")] 2

/-- java/io/Serializable -/
def k6 : Class := { plain "java/io/Serializable" (some 0) with
  accessFlags := 1537
  interfaces := #[]
  cf := some (fileOf pool6 1 #[] #[] 1537 3 #[] #[])
  fields := #[]
  methods := #[]
  instanceTypes := #[]
  staticTypes := #[]
  resolved := Array.replicate 7 none
  statics := none }

def pool7 : Array CpInfo := pool [(2, .class_ 4), (1, u "java/lang/Object"), (0, u "<init>"), (0, u "()V"), (1, .class_ 10), (1, u "java/lang/Number"), (2, .class_ 14), (0, u "java/io/Serializable"), (0, u "serialVersionUID"), (0, u "J")] 20

def k7m0 : Method := { name := "<init>", desc := "()V", sig := { parameters := [], returnType := none }, accessFlags := 1, code := none }
/-- java/lang/Number -/
def k7 : Class := { plain "java/lang/Number" (some 0) with
  accessFlags := 1057
  interfaces := #[6]
  cf := some (fileOf pool7 8 #[] #[{ accessFlags := 1, nameIndex := 5, descriptorIndex := 6, attributes := #[] }] 1057 2 #[13] #[{ accessFlags := 26, nameIndex := 15, descriptorIndex := 16, attributes := #[] }])
  fields := #[{ name := "serialVersionUID", type := .long, accessFlags := 26, slot := 0, constantValue := 0 }]
  methods := #[k7m0]
  instanceTypes := #[]
  staticTypes := #[.long]
  resolved := Array.replicate 37 none
  statics := none }

def pool8 : Array CpInfo := pool [(1, .class_ 2), (0, u "java/lang/Comparable"), (0, .class_ 4), (0, u "java/lang/Object")] 7

/-- java/lang/Comparable -/
def k8 : Class := { plain "java/lang/Comparable" (some 0) with
  accessFlags := 1537
  interfaces := #[]
  cf := some (fileOf pool8 1 #[] #[] 1537 3 #[] #[])
  fields := #[]
  methods := #[]
  instanceTypes := #[]
  staticTypes := #[]
  resolved := Array.replicate 12 none
  statics := none }

def pool9 : Array CpInfo := pool [(1, .class_ 2), (0, u "java/lang/constant/Constable"), (0, .class_ 4), (0, u "java/lang/Object")] 6

/-- java/lang/constant/Constable -/
def k9 : Class := { plain "java/lang/constant/Constable" (some 0) with
  accessFlags := 1537
  interfaces := #[]
  cf := some (fileOf pool9 1 #[] #[] 1537 3 #[] #[])
  fields := #[]
  methods := #[]
  instanceTypes := #[]
  staticTypes := #[]
  resolved := Array.replicate 11 none
  statics := none }

def pool10 : Array CpInfo := pool [(1, .class_ 2), (0, u "java/lang/constant/ConstantDesc"), (0, .class_ 4), (0, u "java/lang/Object")] 32

/-- java/lang/constant/ConstantDesc -/
def k10 : Class := { plain "java/lang/constant/ConstantDesc" (some 0) with
  accessFlags := 1537
  interfaces := #[]
  cf := some (fileOf pool10 1 #[] #[] 1537 3 #[] #[])
  fields := #[]
  methods := #[]
  instanceTypes := #[]
  staticTypes := #[]
  resolved := Array.replicate 37 none
  statics := none }

def pool11 : Array CpInfo := pool [(1, .class_ 2), (0, u "java/lang/Long"), (98, u "(J)I"), (133, .class_ 237), (1, u "java/lang/Long$LongCache"), (33, .class_ 272), (0, u "java/lang/Number"), (2, u "value"), (0, u "J"), (37, .long 6148914691236517205), (1, .long 3689348814741910323), (1, .long 1085102592571150095), (42, u "TYPE"), (0, u "Ljava/lang/Class;"), (0, .class_ 364), (0, u "java/lang/Comparable"), (0, .class_ 366), (0, u "java/lang/constant/Constable"), (0, .class_ 368), (0, u "java/lang/constant/ConstantDesc"), (0, u "MIN_VALUE"), (1, u "MAX_VALUE"), (4, u "SIZE"), (0, u "I"), (1, u "BYTES"), (1, u "serialVersionUID"), (94, u "bitCount")] 47

def k11c0 : Code := { maxStack := 6, maxLocals := 2, code := jdk_35_method_50_code, exceptionTable := #[], attributes := #[] }
def k11m0 : Method := { name := "bitCount", desc := "(J)I", sig := { parameters := [.long], returnType := some .int }, accessFlags := 9, code := some k11c0 }
/-- java/lang/Long -/
def k11 : Class := { plain "java/lang/Long" (some 7) with
  accessFlags := 49
  interfaces := #[8, 9, 10]
  cf := some (fileOf pool11 1 #[.nestMembers #[235]] #[{ accessFlags := 9, nameIndex := 476, descriptorIndex := 101, attributes := #[] }] 49 271 #[363, 365, 367] #[{ accessFlags := 25, nameIndex := 369, descriptorIndex := 276, attributes := #[] }, { accessFlags := 25, nameIndex := 371, descriptorIndex := 276, attributes := #[] }, { accessFlags := 25, nameIndex := 361, descriptorIndex := 362, attributes := #[] }, { accessFlags := 18, nameIndex := 275, descriptorIndex := 276, attributes := #[] }, { accessFlags := 25, nameIndex := 376, descriptorIndex := 377, attributes := #[] }, { accessFlags := 25, nameIndex := 379, descriptorIndex := 377, attributes := #[] }, { accessFlags := 26, nameIndex := 381, descriptorIndex := 276, attributes := #[] }])
  fields := #[{ name := "MIN_VALUE", type := .long, accessFlags := 25, slot := 0, constantValue := 0 }, { name := "MAX_VALUE", type := .long, accessFlags := 25, slot := 1, constantValue := 0 }, { name := "TYPE", type := (.object "java/lang/Class"), accessFlags := 25, slot := 2, constantValue := 0 }, { name := "value", type := .long, accessFlags := 18, slot := 0, constantValue := 0 }, { name := "SIZE", type := .int, accessFlags := 25, slot := 3, constantValue := 0 }, { name := "BYTES", type := .int, accessFlags := 25, slot := 4, constantValue := 0 }, { name := "serialVersionUID", type := .long, accessFlags := 26, slot := 5, constantValue := 0 }]
  methods := #[k11m0]
  instanceTypes := #[.long]
  staticTypes := #[.long, .long, (.object "java/lang/Class"), .int, .int, .long]
  resolved := Array.replicate 524 none
  statics := none }

def pool12 : Array CpInfo := pool [(1, u "java/lang/Cloneable"), (0, .class_ 1), (0, u "java/lang/Object"), (0, .class_ 3)] 3

/-- java/lang/Cloneable -/
def k12 : Class := { plain "java/lang/Cloneable" (some 0) with
  accessFlags := 1537
  interfaces := #[]
  cf := some (fileOf pool12 2 #[] #[] 1537 4 #[] #[])
  fields := #[]
  methods := #[]
  instanceTypes := #[]
  staticTypes := #[]
  resolved := Array.replicate 8 none
  statics := none }

/-- the primitive byte -/
def k13 : Class := { plain "byte" none with kind := .primitive 'B', accessFlags := 0x411 }
/-- [B -/
def k14 : Class := { plain "[B" (some 0) with kind := .array 13 .byte, interfaces := #[12, 6], accessFlags := 1041 }

/-- the primitive int -/
def k15 : Class := { plain "int" none with kind := .primitive 'I', accessFlags := 0x411 }
/-- [I -/
def k16 : Class := { plain "[I" (some 0) with kind := .array 15 .int, interfaces := #[12, 6], accessFlags := 1041 }

/-- the primitive long -/
def k17 : Class := { plain "long" none with kind := .primitive 'J', accessFlags := 0x411 }
/-- [J -/
def k18 : Class := { plain "[J" (some 0) with kind := .array 17 .long, interfaces := #[12, 6], accessFlags := 1041 }

def heap : Heap := #[]
def classes : Array Class := #[k0, k1, k2, k3, k4, k5, k6, k7, k8, k9, k10, k11, k12, k13, k14, k15, k16, k17, k18]
def interned : List (Array UInt16 × Addr) := []
def slotsUsed : Nat := 0
def theMethod : MethodId := ⟨1, 1⟩
def args0 : Array Value := #[.int 5, .int 5, .int 5, .int 5, .int 5]
def aboutOver (below : List Frame) : State where
  vm := { classes := classes, interned := interned.toArray }
  heap := heap
  slotsUsed := slotsUsed
  threads := #[{ frames := .invoking theMethod args0 :: below }]
def below0 : List Frame := [.native { method := ⟨0, 0⟩, args := #[] }]
def about1 : State := aboutOver below0
def p0 : Program := .bare "" "" ""
def e0 : Env := launch0.env 0 0 0
theorem w_frames : about1.frames = Frame.invoking theMethod args0 :: below0 := rfl
set_option maxRecDepth 65536 in
theorem w_args : argsFit about1.vm theMethod args0 = true := by decide +kernel
set_option maxRecDepth 65536 in
theorem w_heap : heapFits about1 = true := by decide +kernel
set_option maxRecDepth 65536 in
theorem w_runnable : about1.curStatus? = some .runnable := by decide +kernel
set_option maxRecDepth 65536 in
theorem w_alone : about1.alone = true := by decide +kernel
set_option maxRecDepth 65536 in
theorem w_named : about1.methodNamed? x = some theMethod := by decide +kernel
set_option maxRecDepth 65536 in
theorem w_hears : about1.hears theMethod below0 = true := by decide +kernel
set_option maxRecDepth 65536 in
theorem w_ripe : about1.ripe theMethod args0 below0 = true := by decide +kernel
theorem w_running : about1.status = .running := rfl
set_option maxRecDepth 65536 in
theorem w_room : about1.hasRoom e0.platform room_1 = true :=
  launch0.hasRoom_least _ room_1 (by decide +kernel) (by decide +kernel) (by decide +kernel) (by decide +kernel) (by decide +kernel) (by decide +kernel)
theorem allAtoms_all (ts : List Jvm.Cond) (a : Array Jvm.Value) (st : Jvm.State) : (allAtoms ts).before a st = ts.all (fun c => c.before a st) := by
  induction ts with
  | nil => rfl
  | cons c t ih =>
    show (Jvm.Cond.and c (allAtoms t)).before a st = _
    rw [Jvm.Cond.before_and, ih, List.all_cons]
def words1 : List Jvm.Cond := Jvm.Cond.code x code maxLocals ret :: tables_1
/-- a 'code' word, met by the world's own term for the bytes: nothing is compared byte by byte -/
theorem code_word {y : MethodName} {bytes : ByteArray} {mx : Nat} {rt : Option FieldType} {a : Array Value} {s : State} {m : MethodId} {meth : Method} {c : Code} (h1 : s.methodNamed? y = some m) (h2 : s.vm.method? m = some meth) (h3 : meth.code = some c) (h4 : c.code = bytes)
    (h5 : (c.maxLocals == mx && c.exceptionTable.isEmpty && decide (c.maxStack ≤ mostOperands) && decide (meth.sig.returnType = rt) && !meth.locks && decide (parseMethodDescriptor y.desc = some meth.sig)) = true) : (Jvm.Cond.code y bytes mx rt).before a s = true := by
  simp only [Bool.and_eq_true, beq_iff_eq, Bool.not_eq_true', decide_eq_true_eq] at h5
  obtain ⟨⟨⟨⟨⟨g1, g2⟩, g3⟩, g4⟩, g5⟩, g6⟩ := h5
  simp [Cond.before, Cond.holds, Cond.value, h1, h2, h3, h4, g1, g2, g3, g4, g5, g6]
def isCode : Jvm.Cond → Bool
  | .code _ _ _ _ => true
  | _ => false
theorem all_split {L : List Jvm.Cond} {P : Jvm.Cond → Bool} (h1 : L.all (fun c => isCode c || P c) = true) (h2 : ∀ c ∈ L.filter isCode, P c = true) : L.all P = true := by
  refine List.all_eq_true.mpr fun c hc => ?_
  have h := List.all_eq_true.mp h1 c hc
  rcases Bool.eq_false_or_eq_true (isCode c) with hi | hi
  · exact h2 c (List.mem_filter.mpr ⟨hc, hi⟩)
  · simpa [hi] using h
set_option maxRecDepth 65536 in
theorem w_c0 : (Jvm.Cond.code x code maxLocals ret).before args0 about1 = true := code_word (m := ⟨1, 1⟩) (meth := k1m1) (c := k1c1) (by decide +kernel) rfl rfl rfl (by decide +kernel)
set_option maxRecDepth 65536 in
theorem w_c1 : (Jvm.Cond.code ({ cls := "com/example/emex/emex/explain/Positions", name := "of", desc := "([I)Lcom/example/emex/emex/explain/Positions;" } : Jvm.MethodName) prog_13_method_3_code (7 : Nat) (Option.some (Jvm.ClassFile.FieldType.object "com/example/emex/emex/explain/Positions"))).before args0 about1 = true := code_word (m := ⟨2, 1⟩) (meth := k2m1) (c := k2c1) (by decide +kernel) rfl rfl rfl (by decide +kernel)
set_option maxRecDepth 65536 in
theorem w_c2 : (Jvm.Cond.code ({ cls := "java/util/Arrays", name := "copyOf", desc := "([JI)[J" } : Jvm.MethodName) jdk_65_method_124_code (3 : Nat) (Option.some (Jvm.ClassFile.FieldType.array Jvm.ClassFile.FieldType.long))).before args0 about1 = true := code_word (m := ⟨3, 1⟩) (meth := k3m1) (c := k3c1) (by decide +kernel) rfl rfl rfl (by decide +kernel)
set_option maxRecDepth 65536 in
theorem w_c3 : (Jvm.Cond.code ({ cls := "java/lang/Math", name := "min", desc := "(II)I" } : Jvm.MethodName) jdk_29_method_69_code (2 : Nat) (Option.some Jvm.ClassFile.FieldType.int)).before args0 about1 = true := code_word (m := ⟨4, 1⟩) (meth := k4m1) (c := k4c1) (by decide +kernel) rfl rfl rfl (by decide +kernel)
set_option maxRecDepth 65536 in
theorem w_c4 : (Jvm.Cond.code ({ cls := "com/example/emex/emex/explain/Positions", name := "<init>", desc := "([J)V" } : Jvm.MethodName) prog_13_method_1_code (9 : Nat) (Option.none : Option Jvm.ClassFile.FieldType)).before args0 about1 = true := code_word (m := ⟨2, 0⟩) (meth := k2m0) (c := k2c0) (by decide +kernel) rfl rfl rfl (by decide +kernel)
set_option maxRecDepth 65536 in
theorem w_c5 : (Jvm.Cond.code ({ cls := "java/lang/Object", name := "<init>", desc := "()V" } : Jvm.MethodName) object_method_1_code (1 : Nat) (Option.none : Option Jvm.ClassFile.FieldType)).before args0 about1 = true := code_word (m := ⟨0, 0⟩) (meth := k0m0) (c := k0c0) (by decide +kernel) rfl rfl rfl (by decide +kernel)
set_option maxRecDepth 65536 in
theorem w_c6 : (Jvm.Cond.code ({ cls := "java/lang/Long", name := "bitCount", desc := "(J)I" } : Jvm.MethodName) jdk_35_method_50_code (2 : Nat) (Option.some Jvm.ClassFile.FieldType.int)).before args0 about1 = true := code_word (m := ⟨11, 0⟩) (meth := k11m0) (c := k11c0) (by decide +kernel) rfl rfl rfl (by decide +kernel)
set_option maxRecDepth 65536 in
theorem w_c7 : (Jvm.Cond.code ({ cls := "com/example/emex/emex/explain/Positions", name := "has", desc := "(I)Z" } : Jvm.MethodName) prog_13_method_11_code (3 : Nat) (Option.some Jvm.ClassFile.FieldType.boolean)).before args0 about1 = true := code_word (m := ⟨2, 3⟩) (meth := k2m3) (c := k2c3) (by decide +kernel) rfl rfl rfl (by decide +kernel)
set_option maxRecDepth 65536 in
theorem w_c8 : (Jvm.Cond.code ({ cls := "com/example/emex/emex/explain/Positions", name := "size", desc := "()I" } : Jvm.MethodName) prog_13_method_4_code (1 : Nat) (Option.some Jvm.ClassFile.FieldType.int)).before args0 about1 = true := code_word (m := ⟨2, 2⟩) (meth := k2m2) (c := k2c2) (by decide +kernel) rfl rfl rfl (by decide +kernel)
def codes1 : List Jvm.Cond := [Jvm.Cond.code x code maxLocals ret, Jvm.Cond.code ({ cls := "com/example/emex/emex/explain/Positions", name := "of", desc := "([I)Lcom/example/emex/emex/explain/Positions;" } : Jvm.MethodName) prog_13_method_3_code (7 : Nat) (Option.some (Jvm.ClassFile.FieldType.object "com/example/emex/emex/explain/Positions")), Jvm.Cond.code ({ cls := "java/util/Arrays", name := "copyOf", desc := "([JI)[J" } : Jvm.MethodName) jdk_65_method_124_code (3 : Nat) (Option.some (Jvm.ClassFile.FieldType.array Jvm.ClassFile.FieldType.long)), Jvm.Cond.code ({ cls := "java/lang/Math", name := "min", desc := "(II)I" } : Jvm.MethodName) jdk_29_method_69_code (2 : Nat) (Option.some Jvm.ClassFile.FieldType.int), Jvm.Cond.code ({ cls := "com/example/emex/emex/explain/Positions", name := "<init>", desc := "([J)V" } : Jvm.MethodName) prog_13_method_1_code (9 : Nat) (Option.none : Option Jvm.ClassFile.FieldType), Jvm.Cond.code ({ cls := "java/lang/Object", name := "<init>", desc := "()V" } : Jvm.MethodName) object_method_1_code (1 : Nat) (Option.none : Option Jvm.ClassFile.FieldType), Jvm.Cond.code ({ cls := "java/lang/Long", name := "bitCount", desc := "(J)I" } : Jvm.MethodName) jdk_35_method_50_code (2 : Nat) (Option.some Jvm.ClassFile.FieldType.int), Jvm.Cond.code ({ cls := "com/example/emex/emex/explain/Positions", name := "has", desc := "(I)Z" } : Jvm.MethodName) prog_13_method_11_code (3 : Nat) (Option.some Jvm.ClassFile.FieldType.boolean), Jvm.Cond.code ({ cls := "com/example/emex/emex/explain/Positions", name := "size", desc := "()I" } : Jvm.MethodName) prog_13_method_4_code (1 : Nat) (Option.some Jvm.ClassFile.FieldType.int)]
set_option maxRecDepth 65536 in
theorem codes_eq : words1.filter isCode = codes1 := rfl
theorem w_codes : ∀ c ∈ words1.filter isCode, c.before args0 about1 = true := by
  rw [codes_eq]
  intro c hc
  simp only [codes1, List.mem_cons, List.not_mem_nil, or_false] at hc
  rcases hc with rfl | rfl | rfl | rfl | rfl | rfl | rfl | rfl | rfl
  · exact w_c0
  · exact w_c1
  · exact w_c2
  · exact w_c3
  · exact w_c4
  · exact w_c5
  · exact w_c6
  · exact w_c7
  · exact w_c8
set_option maxRecDepth 65536 in
theorem w_t1 : (words1.take 24).all (fun c => isCode c || c.before args0 about1) = true := by decide +kernel
set_option maxRecDepth 65536 in
theorem w_t2 : (words1.drop 24).all (fun c => isCode c || c.before args0 about1) = true := by decide +kernel
theorem w_tables : (allAtoms (Jvm.Cond.code x code maxLocals ret :: tables_1)).before args0 about1 = true := by
  rw [allAtoms_all]
  show words1.all (fun c => c.before args0 about1) = true
  refine all_split ?_ w_codes
  rw [← List.take_append_drop 24 words1, List.all_append, w_t1, w_t2]
  rfl
set_option maxRecDepth 65536 in
theorem w_case : (Jvm.Cond.and given_1 narrow_1).before args0 about1 = true := by decide +kernel
theorem w_applies : (headSpec (Jvm.Cond.code x code maxLocals ret :: tables_1) room_1).applies x e0.platform about1 = true :=
  (Spec.applies_iff w_frames).mpr ⟨w_running, w_runnable, w_alone, w_named, w_hears, w_ripe, w_room, w_tables⟩
theorem atStart : AtStart classFile x code maxLocals ret World_1 tables_1 room_1 Calls_1 rest_1 Pre_1 launch0 p0 e0 about1 theMethod args0 below0 :=
  ⟨lists_1, trivial, launch0.admits_env _ _ _, launch0.least_env, fairChoices_fair.cas, fairChoices_fair.clock, w_frames, w_args, w_heap, w_applies, trivial, trivial, w_case⟩
end start1
theorem witness_1 : WitnessClaimed_1 := ⟨start1.p0, start1.e0, start1.about1, start1.theMethod, start1.args0, start1.below0, start1.atStart⟩
end Jvm.Pilot.@@N@@
