import JvmDerived
import JvmDerived.Pilot.@@N@@Statement
import JvmDerived.Pilot.@@N@@Code
set_option linter.unusedVariables false
set_option linter.unusedSimpArgs false

namespace Jvm.RoadKit
open Sem ClassFile Op Lib Jvm.Stand Jvm.Free Jvm.LawKit
section New
variable {p : Program} {l : Launch} {e : Env} {R : Room} {s : State} {m : MethodId} {args : Array Value} {below : List Frame} {meth : Method} {c : Code} {T : State} {locs : List Loc} {cells slots : Nat}
theorem retI (X : Stand p l e R s m args below meth c T locs cells slots) (hx : p.tables.exec = Jvm.exec) {pc : Nat} {Ls : Array Slot} {z : Int32} {rest : List Value} (hret : meth.sig.returnType = some .int) (hd : decode c.code pc = .ok (.ireturn, 1)) {fs : List Frame}
    (hl : ∀ (f : JFrame) (acts : List Action), f.method = m → f.locked = none → f.entered = [] → (doReturn e (T.setTop f) acts (some (.int z))).1 = T.setFrames fs) : Steps p.tables e below (T.setTop (mkF m pc Ls (.int z :: rest))) (T.setFrames fs) := by
  have hm' : T.vm.method? m = some meth := X.method'
  have hn : narrow .int (.int z) = .int z := rfl
  show Steps p.tables e below (T.setTop { method := m, pc := pc, locals := Ls, stack := _ :: rest, locked := none }) _
  jvm_step X.here [X.here.top, hx, hd, hm', hret, hn]
  first | (intro acts; rw [hl _ acts rfl rfl rfl]) | rw [hl _ _ rfl rfl rfl]
  exact Steps.refl _
theorem own_lrem {g : JFrame} {target : State} (X : Stand p l e R s m args below meth c T locs cells slots) (hx : p.tables.exec = Jvm.exec) (hg : g.method = m) {x y : Int64} {rest : List Value} (hd : decode c.code g.pc = .ok (.lrem, 1)) (hs : g.stack = .long y :: .long x :: rest) (hy : y ≠ 0)
    (hr : Steps p.tables e below (T.setTop { g with pc := g.pc + 1, stack := .long (x % y) :: rest }) target) : Steps p.tables e below (T.setTop g) target := by
  have q : x - x / y * y = x % y := lrem_mod x y
  exact XS.lrem X.here hx hg hd hs hy (by rw [q]; exact hr)
end New
end Jvm.RoadKit
namespace Jvm.RoadKit
open Sem ClassFile Op Lib Jvm.Stand Jvm.Free Jvm.LawKit
theorem own_selp {s : State} {args : Array Value} {y z : MethodName} (hz : (Cond.selects z.cls z z).before args s = true) (he : y.cls = z.cls) (hpriv : s.PrivateAt y) (hinst : (Cond.instanceMethod y).before args s = true) (hy : y.cls ≠ "java/lang/invoke/MethodHandle" ∧ y.cls ≠ "java/lang/invoke/VarHandle") : (Cond.selects y.cls y y).before args s = true := by
  obtain ⟨c2, r2, m2, -, -, q3, -, kP, hkP, hkPi⟩ := Cond.selects_spec hz
  exact Stand.selects_self_of_private (by rw [he]; exact findClass_of_methodNamed q3) hkP hkPi hpriv hinst hy
end Jvm.RoadKit
namespace Jvm.Pilot.@@N@@
open Jvm Jvm.ClassFile Sem Op Lib Jvm.Free Jvm.Stand Jvm.LawKit Jvm.RoadKit Bundle Jvm.Pilot.@@N@@.Jvm.D
def own_max (a b : Int64) : Int64 := if a < b then b else a
def own_slot (sh : Int32) (x : Int64) : Int32 := ((((x * (-7046029254386353131 : Int64)).toUInt64 >>> (sh &&& 0x3f).toInt64.toUInt64).toInt64).toInt32)
def own_sN (sh : Int32) (x : Int64) : Nat := (own_slot sh x).toInt.toNat
def own_free (tab : List Nat) (M : Nat) : Nat → Nat → Nat
  | 0, i => i
  | k + 1, i => if tab.getD i 0 = 0 then i else own_free tab M k ((i + 1) % M)
def own_lk (tab : List Nat) (M : Nat) (e : Nat → Bool) : Nat → Nat → Int32
  | 0, _ => (-1 : Int32)
  | k + 1, i => if tab.getD i 0 = 0 then (-1 : Int32) else if e (tab.getD i 0) = true then (Int32.ofNat (tab.getD i 0)) - (1 : Int32) else own_lk tab M e k ((i + 1) % M)
def own_ins (tab : List Nat) (M s v : Nat) : List Nat := tab.set (own_free tab M 8 s) v
def own_tv (tab : List Nat) : List Value := tab.map fun v => Value.int (Int32.ofNat v)
def own_e (cs : List Int64) (x : Int64) (f : Nat) : Bool := decide (cs.getD (f - 1) 0 = x)
theorem own_slotv (sh : Int32) (x : Int64) (k : Nat) (M : Nat) (h : (sh = 63 ∧ M = 2) ∨ (sh = 62 ∧ M = 4) ∨ (sh = 61 ∧ M = 8)) : own_slot sh x = Int32.ofNat (own_sN sh x) ∧ own_sN sh x < M := by
  have key : 0 ≤ (own_slot sh x).toInt ∧ (own_slot sh x).toInt < M := by
    unfold own_slot
    have d := c_l2i (((x * (-7046029254386353131 : Int64)).toUInt64 >>> (sh &&& 0x3f).toInt64.toUInt64).toInt64)
    have r := rng32 ((((x * (-7046029254386353131 : Int64)).toUInt64 >>> (sh &&& 0x3f).toInt64.toUInt64).toInt64).toInt32)
    rcases h with ⟨rfl, rfl⟩ | ⟨rfl, rfl⟩ | ⟨rfl, rfl⟩
    · have a := c_lushr (x * (-7046029254386353131 : Int64)) 63 63 (by decide) (by decide)
      simp only [show ((2 ^ 63 : Nat) : Int) = 9223372036854775808 from rfl] at a
      omega
    · have a := c_lushr (x * (-7046029254386353131 : Int64)) 62 62 (by decide) (by decide)
      simp only [show ((2 ^ 62 : Nat) : Int) = 4611686018427387904 from rfl] at a
      omega
    · have a := c_lushr (x * (-7046029254386353131 : Int64)) 61 61 (by decide) (by decide)
      simp only [show ((2 ^ 61 : Nat) : Int) = 2305843009213693952 from rfl] at a
      omega
  have hM : M ≤ 8 := by omega
  unfold own_sN
  refine ⟨?_, by omega⟩
  rw [← Int32.toInt_inj, show (Int32.ofNat _).toInt = _ from len_toInt (by omega)]
  omega
theorem own_i (i : Nat) (h : i < 16) : (Int32.ofNat i).toInt = i := len_toInt (by omega)
theorem own_clamp (i : Nat) (h : i < 16) : (Int32.ofNat i).toNatClampNeg = i := by
  simp only [Int32.toNatClampNeg, own_i i h]; rfl
theorem own_in (i M : Nat) (h : i < M) (hM : M ≤ 8) : ¬ Int32.ofNat i < 0 ∧ Int32.ofNat i < Int32.ofNat M := by
  simp only [Int32.lt_iff_toInt_lt, own_i i (by omega), own_i M (by omega), Int32.reduceToInt]; omega
theorem own_next : ∀ M : Nat, (M = 2 ∨ M = 4 ∨ M = 8) → ∀ i : Nat, i < M → (((Int32.ofNat i) + (1 : Int32)) &&& ((Int32.ofNat M) - (1 : Int32))) = Int32.ofNat ((i + 1) % M) := by
  intro M h
  rcases h with rfl | rfl | rfl <;> decide
theorem own_ltM (M i : Nat) (hM : M = 2 ∨ M = 4 ∨ M = 8) : i % M < M := Nat.mod_lt _ (by omega)
theorem own_pre (f : Nat) (h : 0 < f) (h3 : f ≤ 3) : (Int32.ofNat f) - (1 : Int32) = Int32.ofNat (f - 1) := by
  match f, h, h3 with
  | 1, _, _ => rfl
  | 2, _, _ => rfl
  | 3, _, _ => rfl
theorem own_zero (v : Nat) (h : v ≤ 3) : (Int32.ofNat v = (0 : Int32)) ↔ v = 0 := by
  rw [← Int32.toInt_inj, own_i v (by omega), show (0 : Int32).toInt = 0 from rfl]; omega
theorem own_tvat (tab : List Nat) (M i : Nat) (hl : tab.length = M) (h : i < M) (hM : M ≤ 8) (d : Value) : (own_tv tab).getD (Int32.ofNat i).toNatClampNeg d = .int (Int32.ofNat (tab.getD i 0)) := by
  rw [own_clamp i (by omega), List.getD_eq_getElem?_getD, List.getD_eq_getElem?_getD]
  simp [own_tv, hl, h]
theorem own_csat (cs : List Int64) (i : Nat) (h : i < cs.length) (h3 : cs.length ≤ 3) (d : Value) : (cs.map Value.long).getD (Int32.ofNat i).toNatClampNeg d = .long (cs.getD i 0) := by
  rw [own_clamp i (by omega), List.getD_eq_getElem?_getD, List.getD_eq_getElem?_getD]
  simp [h]
theorem own_tvset (tab : List Nat) (i v : Nat) : (own_tv tab).set i (.int (Int32.ofNat v)) = own_tv (tab.set i v) := by
  simp [own_tv, List.map_set]
theorem own_four (a : Int32) : (a &&& (3 : Int32)) = (0 : Int32) ∨ (a &&& (3 : Int32)) = (1 : Int32) ∨ (a &&& (3 : Int32)) = (2 : Int32) ∨ (a &&& (3 : Int32)) = (3 : Int32) := by
  have h1 := c_mask a 3 2 (by decide) (by decide)
  simp only [show ((2 ^ 2 : Nat) : Int) = 4 from rfl] at h1
  simp only [← Int32.toInt_inj, Int32.reduceToInt]
  omega
def own_rf (n : Int32) (a b c x : Int64) : Int32 := if (0 : Int32) < n ∧ x = a then 0 else if (1 : Int32) < n ∧ x = b then 1 else if (2 : Int32) < n ∧ x = c then 2 else -1
theorem own_lkc (tab : List Nat) (M : Nat) (e e' : Nat → Bool) (n : Nat) (hv : ∀ i, tab.getD i 0 ≤ n) (he : ∀ f, 0 < f → f ≤ n → e f = e' f) : ∀ k i, own_lk tab M e k i = own_lk tab M e' k i := by
  intro k
  induction k with
  | zero => intro i; rfl
  | succ k ih =>
    intro i
    simp only [own_lk]
    by_cases z : tab.getD i 0 = 0
    · rw [if_pos z, if_pos z]
    · rw [if_neg z, if_neg z, he _ (Nat.pos_of_ne_zero z) (hv i), ih]
def own_t1 (s0 : Nat) : List Nat := own_ins (List.replicate 2 0) 2 s0 1
def own_t2 (s0 s1 : Nat) : List Nat := own_ins (own_ins (List.replicate 4 0) 4 s0 1) 4 s1 2
def own_t3 (s0 s1 s2 : Nat) : List Nat := own_ins (own_ins (own_ins (List.replicate 8 0) 8 s0 1) 8 s1 2) 8 s2 3
theorem own_gd (t : List Nat) (n M : Nat) (hl : t.length = M) (h : ∀ i, i < M → t.getD i 0 ≤ n) : ∀ i, t.getD i 0 ≤ n := by
  intro i
  by_cases k : i < M
  · exact h i k
  · rw [List.getD_eq_getElem?_getD, List.getElem?_eq_none (by omega)]; exact Nat.zero_le _
/-- what a table must say: its length, its entries, that every search in it ends -/
def own_ok (t : List Nat) (M n : Nat) : Prop := t.length = M ∧ (∀ i, t.getD i 0 ≤ n) ∧ ∀ s, s < M → t.getD (own_free t M 8 s) 0 = 0 ∧ own_free t M 8 s < M
theorem own_okz (M : Nat) (h : M = 2 ∨ M = 4 ∨ M = 8) : own_ok (List.replicate M 0) M 0 := by
  rcases h with rfl | rfl | rfl
  · exact ⟨rfl, own_gd _ 0 2 rfl (by decide +kernel), by decide +kernel⟩
  · exact ⟨rfl, own_gd _ 0 4 rfl (by decide +kernel), by decide +kernel⟩
  · exact ⟨rfl, own_gd _ 0 8 rfl (by decide +kernel), by decide +kernel⟩
theorem own_mk (t : List Nat) (M n : Nat) (hl : t.length = M) (h1 : ∀ i, i < M → t.getD i 0 ≤ n) (h2 : ∀ s, s < M → t.getD (own_free t M 8 s) 0 = 0 ∧ own_free t M 8 s < M) : own_ok t M n := ⟨hl, own_gd t n M hl h1, h2⟩
theorem own_c1 : ∀ s0 : Nat, s0 < 2 → (own_t1 s0).length = 2 ∧ (∀ i, i < 2 → (own_t1 s0).getD i 0 ≤ 1) ∧ (∀ s, s < 2 → (own_t1 s0).getD (own_free (own_t1 s0) 2 8 s) 0 = 0 ∧ own_free (own_t1 s0) 2 8 s < 2) := by decide +kernel
theorem own_c2a : ∀ s0 : Nat, s0 < 4 → (own_ins (List.replicate 4 0) 4 s0 1).length = 4 ∧ (∀ i, i < 4 → (own_ins (List.replicate 4 0) 4 s0 1).getD i 0 ≤ 1) ∧ (∀ s, s < 4 → (own_ins (List.replicate 4 0) 4 s0 1).getD (own_free (own_ins (List.replicate 4 0) 4 s0 1) 4 8 s) 0 = 0 ∧ own_free (own_ins (List.replicate 4 0) 4 s0 1) 4 8 s < 4) := by decide +kernel
theorem own_c2 : ∀ s0 : Nat, s0 < 4 → ∀ s1 : Nat, s1 < 4 → (own_t2 s0 s1).length = 4 ∧ (∀ i, i < 4 → (own_t2 s0 s1).getD i 0 ≤ 2) ∧ (∀ s, s < 4 → (own_t2 s0 s1).getD (own_free (own_t2 s0 s1) 4 8 s) 0 = 0 ∧ own_free (own_t2 s0 s1) 4 8 s < 4) := by decide +kernel
theorem own_c3a : ∀ s0 : Nat, s0 < 8 → (own_ins (List.replicate 8 0) 8 s0 1).length = 8 ∧ (∀ i, i < 8 → (own_ins (List.replicate 8 0) 8 s0 1).getD i 0 ≤ 1) ∧ (∀ s, s < 8 → (own_ins (List.replicate 8 0) 8 s0 1).getD (own_free (own_ins (List.replicate 8 0) 8 s0 1) 8 8 s) 0 = 0 ∧ own_free (own_ins (List.replicate 8 0) 8 s0 1) 8 8 s < 8) := by decide +kernel
theorem own_c3b : ∀ s0 : Nat, s0 < 8 → ∀ s1 : Nat, s1 < 8 → (own_ins (own_ins (List.replicate 8 0) 8 s0 1) 8 s1 2).length = 8 ∧ (∀ i, i < 8 → (own_ins (own_ins (List.replicate 8 0) 8 s0 1) 8 s1 2).getD i 0 ≤ 2) ∧ (∀ s, s < 8 → (own_ins (own_ins (List.replicate 8 0) 8 s0 1) 8 s1 2).getD (own_free (own_ins (own_ins (List.replicate 8 0) 8 s0 1) 8 s1 2) 8 8 s) 0 = 0 ∧ own_free (own_ins (own_ins (List.replicate 8 0) 8 s0 1) 8 s1 2) 8 8 s < 8) := by decide +kernel
theorem own_c3 : ∀ s0 : Nat, s0 < 8 → ∀ s1 : Nat, s1 < 8 → ∀ s2 : Nat, s2 < 8 → (own_t3 s0 s1 s2).length = 8 ∧ (∀ i, i < 8 → (own_t3 s0 s1 s2).getD i 0 ≤ 3) ∧ (∀ s, s < 8 → (own_t3 s0 s1 s2).getD (own_free (own_t3 s0 s1 s2) 8 8 s) 0 = 0 ∧ own_free (own_t3 s0 s1 s2) 8 8 s < 8) := by decide +kernel
theorem own_l0 : ∀ s : Nat, s < 2 → own_lk (List.replicate 2 0) 2 (fun _ => false) 8 s = -1 := by decide +kernel
theorem own_l1 : ∀ s0 : Nat, s0 < 2 → own_lk (own_t1 s0) 2 (fun f => f == 1) 8 s0 = 0 ∧ ∀ s : Nat, s < 2 → own_lk (own_t1 s0) 2 (fun _ => false) 8 s = -1 := by decide +kernel
theorem own_l2 : ∀ s0 : Nat, s0 < 4 → ∀ s1 : Nat, s1 < 4 → own_lk (own_t2 s0 s1) 4 (fun f => f == 1) 8 s0 = 0 ∧ own_lk (own_t2 s0 s1) 4 (fun f => f == 2) 8 s1 = 1 ∧ ∀ s : Nat, s < 4 → own_lk (own_t2 s0 s1) 4 (fun _ => false) 8 s = -1 := by decide +kernel
theorem own_l3 : ∀ s0 : Nat, s0 < 8 → ∀ s1 : Nat, s1 < 8 → ∀ s2 : Nat, s2 < 8 → own_lk (own_t3 s0 s1 s2) 8 (fun f => f == 1) 8 s0 = 0 ∧ own_lk (own_t3 s0 s1 s2) 8 (fun f => f == 2) 8 s1 = 1 ∧ own_lk (own_t3 s0 s1 s2) 8 (fun f => f == 3) 8 s2 = 2 ∧ ∀ s : Nat, s < 8 → own_lk (own_t3 s0 s1 s2) 8 (fun _ => false) 8 s = -1 := by decide +kernel
theorem own_k0 (a b c x : Int64) : own_lk (List.replicate 2 0) 2 (own_e [] x) 8 (own_sN 63 x) = own_rf (0 : Int32) a b c x := by
  rw [own_lkc _ _ _ (fun _ => false) 0 (own_okz 2 (Or.inl rfl)).2.1 (fun f h1 h2 => by omega), own_l0 _ (own_slotv 63 x 0 2 (by decide)).2]
  unfold own_rf; rw [if_neg (by simp), if_neg (by simp), if_neg (by simp)]
theorem own_k1 (a b c x : Int64) : own_lk (own_t1 (own_sN 63 a)) 2 (own_e [a] x) 8 (own_sN 63 x) = own_rf (1 : Int32) a b c x := by
  have h0 := (own_slotv 63 a 0 2 (by decide)).2
  have hs := (own_slotv 63 x 0 2 (by decide)).2
  obtain ⟨k1, k2, -⟩ := own_c1 _ h0
  by_cases e : x = a
  · subst e
    rw [own_lkc _ _ _ (fun f => f == 1) 1 (own_gd _ 1 2 k1 k2) (fun f g1 g2 => by
      obtain rfl : f = 1 := by omega
      simp [own_e]), (own_l1 _ h0).1]
    unfold own_rf; rw [if_pos ⟨by decide, rfl⟩]
  · rw [own_lkc _ _ _ (fun _ => false) 1 (own_gd _ 1 2 k1 k2) (fun f g1 g2 => by
      obtain rfl : f = 1 := by omega
      simp [own_e]; exact fun q => e q.symm), (own_l1 _ h0).2 _ hs]
    unfold own_rf; rw [if_neg (fun q => e q.2), if_neg (by simp), if_neg (by simp)]
theorem own_k2 (a b c x : Int64) (hab : ¬ a = b) : own_lk (own_t2 (own_sN 62 a) (own_sN 62 b)) 4 (own_e [a, b] x) 8 (own_sN 62 x) = own_rf (2 : Int32) a b c x := by
  have h0 := (own_slotv 62 a 0 4 (by decide)).2
  have h1 := (own_slotv 62 b 0 4 (by decide)).2
  have hs := (own_slotv 62 x 0 4 (by decide)).2
  obtain ⟨k1, k2, -⟩ := own_c2 _ h0 _ h1
  obtain ⟨l1, l2, l3⟩ := own_l2 _ h0 _ h1
  have gd := own_gd _ 2 4 k1 k2
  by_cases e : x = a
  · subst e
    rw [own_lkc _ _ _ (fun f => f == 1) 2 gd (fun f g1 g2 => by
      obtain rfl | rfl : f = 1 ∨ f = 2 := by omega
      · simp [own_e]
      · simp [own_e]; exact fun q => hab q.symm), l1]
    unfold own_rf; rw [if_pos ⟨by decide, rfl⟩]
  · by_cases e2 : x = b
    · subst e2
      rw [own_lkc _ _ _ (fun f => f == 2) 2 gd (fun f g1 g2 => by
        obtain rfl | rfl : f = 1 ∨ f = 2 := by omega
        · simp [own_e]; exact hab
        · simp [own_e]), l2]
      unfold own_rf; rw [if_neg (fun q => e q.2), if_pos ⟨by decide, rfl⟩]
    · rw [own_lkc _ _ _ (fun _ => false) 2 gd (fun f g1 g2 => by
        obtain rfl | rfl : f = 1 ∨ f = 2 := by omega
        · simp [own_e]; exact fun q => e q.symm
        · simp [own_e]; exact fun q => e2 q.symm), l3 _ hs]
      unfold own_rf; rw [if_neg (fun q => e q.2), if_neg (fun q => e2 q.2), if_neg (by simp)]
theorem own_k3 (a b c x : Int64) (hab : ¬ a = b) (hac : ¬ a = c) (hbc : ¬ b = c) : own_lk (own_t3 (own_sN 61 a) (own_sN 61 b) (own_sN 61 c)) 8 (own_e [a, b, c] x) 8 (own_sN 61 x) = own_rf (3 : Int32) a b c x := by
  have h0 := (own_slotv 61 a 0 8 (by decide)).2
  have h1 := (own_slotv 61 b 0 8 (by decide)).2
  have h2 := (own_slotv 61 c 0 8 (by decide)).2
  have hs := (own_slotv 61 x 0 8 (by decide)).2
  obtain ⟨k1, k2, -⟩ := own_c3 _ h0 _ h1 _ h2
  obtain ⟨l1, l2, l3, l4⟩ := own_l3 _ h0 _ h1 _ h2
  have gd := own_gd _ 3 8 k1 k2
  by_cases e : x = a
  · subst e
    rw [own_lkc _ _ _ (fun f => f == 1) 3 gd (fun f g1 g2 => by
      obtain rfl | rfl | rfl : f = 1 ∨ f = 2 ∨ f = 3 := by omega
      · simp [own_e]
      · simp [own_e]; exact fun q => hab q.symm
      · simp [own_e]; exact fun q => hac q.symm), l1]
    unfold own_rf; rw [if_pos ⟨by decide, rfl⟩]
  · by_cases e2 : x = b
    · subst e2
      rw [own_lkc _ _ _ (fun f => f == 2) 3 gd (fun f g1 g2 => by
        obtain rfl | rfl | rfl : f = 1 ∨ f = 2 ∨ f = 3 := by omega
        · simp [own_e]; exact hab
        · simp [own_e]
        · simp [own_e]; exact fun q => hbc q.symm), l2]
      unfold own_rf; rw [if_neg (fun q => e q.2), if_pos ⟨by decide, rfl⟩]
    · by_cases e3 : x = c
      · subst e3
        rw [own_lkc _ _ _ (fun f => f == 3) 3 gd (fun f g1 g2 => by
          obtain rfl | rfl | rfl : f = 1 ∨ f = 2 ∨ f = 3 := by omega
          · simp [own_e]; exact hac
          · simp [own_e]; exact hbc
          · simp [own_e]), l3]
        unfold own_rf; rw [if_neg (fun q => e q.2), if_neg (fun q => e2 q.2), if_pos ⟨by decide, rfl⟩]
      · rw [own_lkc _ _ _ (fun _ => false) 3 gd (fun f g1 g2 => by
          obtain rfl | rfl | rfl : f = 1 ∨ f = 2 ∨ f = 3 := by omega
          · simp [own_e]; exact fun q => e q.symm
          · simp [own_e]; exact fun q => e2 q.symm
          · simp [own_e]; exact fun q => e3 q.symm), l4 _ hs]
        unfold own_rf; rw [if_neg (fun q => e q.2), if_neg (fun q => e2 q.2), if_neg (fun q => e3 q.2)]
theorem own_st4 {z0 z1 z3 : Value} {s4 : Slot} {v : Int32} (h : One s4) : storeLocals #[.val z0, .val z1, .second, .val z3, s4] 4 (.int v) = some #[.val z0, .val z1, .second, .val z3, .val (.int v)] := by
  rcases h with rfl | ⟨w, rfl, hw⟩
  · rfl
  · cases w <;> first | rfl | (simp [Value.category] at hw)
theorem pd_0 : parseMethodDescriptor "(I)I" = some ⟨[.int], some .int⟩ := by decide +kernel
theorem pd_1 : parseMethodDescriptor "(JJ)J" = some ⟨[.long, .long], some .long⟩ := by decide +kernel
theorem pd_2 : parseMethodDescriptor "(J)I" = some ⟨[.long], some .int⟩ := by decide +kernel
theorem pd_3 : parseMethodDescriptor "([J)V" = some ⟨[(.array .long)], none⟩ := by decide +kernel
theorem pd_4 : parseMethodDescriptor "(JJJIJ)I" = some ⟨[.long, .long, .long, .int, .long], some .int⟩ := by decide +kernel
theorem d3_0 : decode jdk_29_method_66_code 0 = .ok (.lload_n 0, 1) := by decide +kernel
theorem d3_1 : decode jdk_29_method_66_code 1 = .ok (.lload_n 2, 1) := by decide +kernel
theorem d3_2 : decode jdk_29_method_66_code 2 = .ok (.lcmp, 1) := by decide +kernel
theorem d3_3 : decode jdk_29_method_66_code 3 = .ok (.ifCond .lt 7, 3) := by decide +kernel
theorem d3_6 : decode jdk_29_method_66_code 6 = .ok (.lload_n 0, 1) := by decide +kernel
theorem d3_7 : decode jdk_29_method_66_code 7 = .ok (.goto 4, 3) := by decide +kernel
theorem d3_10 : decode jdk_29_method_66_code 10 = .ok (.lload_n 2, 1) := by decide +kernel
theorem d3_11 : decode jdk_29_method_66_code 11 = .ok (.lreturn, 1) := by decide +kernel
theorem ef_3 (m : MethodId) (x0 : Int64) (x1 : Int64) : entryFrame m #[(.long x0), (.long x1)] 4 = mkF m 0 #[.val (.long x0), .second, .val (.long x1), .second] [] := by first | (simp [entryFrame, mkF, argsToLocals, Value.category]; done) | rfl
def Q3 (Z : State) (q0 : Int64) (q1 : Int64) (h0 : Heap) (n0 : Nat) (v : Option Value) (h : Heap) (L : List Loc) : Prop := v = some (.long (own_max q0 q1)) ∧ Fr n0 L ∧ h = h0
set_option maxRecDepth 65536 in
set_option maxHeartbeats 40000000 in
theorem rm3 (l : Launch) (Z : State) (a0 : Array Value) (hw : ∀ d ∈ tables_1, d.before a0 Z = true) (ws : List Jvm.Cond) (q0 : Int64) (q1 : Int64)  (h0 : Heap) (n0 : Nat) (Z0 : n0 ≤ h0.size) :
    MetFree l (⟨"java/lang/Math", "max", "(JJ)J"⟩ : MethodName) (head1 (Jvm.Cond.code (⟨"java/lang/Math", "max", "(JJ)J"⟩ : MethodName) jdk_29_method_66_code 4 (some .long) :: ws) ({ frames := 0, cells := 0, slots := 0, locals := 0 } : Room)) (fun a U => a = #[(.long q0), (.long q1)] ∧ Z.Warmed39 U.vm ∧ U.heap = h0) (fun _ _ _ _ _ => True) (fun _ U o U' => ∃ v L, o = .returned v ∧ Q3 Z q0 q1 h0 n0 v U'.heap L ∧ FrameEnd U o U' L ({ frames := 0, cells := 0, slots := 0, locals := 0 } : Room).cells ({ frames := 0, cells := 0, slots := 0, locals := 0 } : Room).slots) := by
  refine MetFree.of_bodySF (Jvm.Free.JP.mathPlain rfl (by decide +kernel)) hisR ?_
  intro p e s m args below meth c s₁ Bd hml0 hP hK
  obtain ⟨rfl, hZ, hh⟩ := hP
  have hx := Bd.exec
  have hby := Bd.bytes
  have hml : c.maxLocals = 4 := hml0
  have hown : s.vm.findClass "java/lang/Math" = some m.cls := findClass_of_methodNamed Bd.named
  have hnm := (name_of_methodNamed Bd.named Bd.method).1
  have X0 : Stand p l e ({ frames := 0, cells := 0, slots := 0, locals := 0 } : Room) s m #[(.long q0), (.long q1)] below meth c s₁ [] 0 0 := Stand.of_body Bd
  have e0 : s₁.heap = h0 := by rw [← hh, Bd.state]; rfl
  have N0 := Fr.nil n0
  have pre0 : ∀ t, Steps p.tables e below (s₁.setTop (mkF m 0 #[.val (.long q0), .second, .val (.long q1), .second] [])) t → Steps p.tables e below (s₁.setTop (entryFrame m #[(.long q0), (.long q1)] 4)) t := fun t k => castTop (ef_3 m q0 q1) k
  have c1 : ∀ t, Steps p.tables e below (s₁.setTop (mkF m 3 #[.val (.long q0), .second, .val (.long q1), .second] [(.int (lcmpW q0 q1))])) t → Steps p.tables e below (s₁.setTop (mkF m 0 #[.val (.long q0), .second, .val (.long q1), .second] [])) t := by
    intro t kt
    show Steps p.tables e below (s₁.setTop (mkF m 0 #[.val (.long q0), .second, .val (.long q1), .second] [])) _
    refine XS.lloadN X0.here hx rfl (hb hby d3_0) rfl ?_
    show Steps p.tables e below (s₁.setTop (mkF m 1 #[.val (.long q0), .second, .val (.long q1), .second] [(.long q0)])) _
    refine XS.lloadN X0.here hx rfl (hb hby d3_1) rfl ?_
    show Steps p.tables e below (s₁.setTop (mkF m 2 #[.val (.long q0), .second, .val (.long q1), .second] [(.long q1), (.long q0)])) _
    refine XS.lcmp X0.here hx rfl (hb hby d3_2) rfl ?_
    exact kt
  by_cases hc3 : q0 < q1
  · -- it is
    have c2 : ∀ t, Steps p.tables e below (s₁.setTop (mkF m 11 #[.val (.long q0), .second, .val (.long q1), .second] [(.long q1)])) t → Steps p.tables e below (s₁.setTop (mkF m 3 #[.val (.long q0), .second, .val (.long q1), .second] [(.int (lcmpW q0 q1))])) t := by
      intro t kt
      show Steps p.tables e below (s₁.setTop (mkF m 3 #[.val (.long q0), .second, .val (.long q1), .second] [(.int (lcmpW q0 q1))])) _
      refine XS.ifYes X0.here hx rfl (pc0 := 3) (pc' := 10) rfl (hb hby d3_3) rfl ((if0 _ _).trans (tlt ((lw_lt _ _).mpr hc3)).1) (by decide) (by decide) ?_
      show Steps p.tables e below (s₁.setTop (mkF m 10 #[.val (.long q0), .second, .val (.long q1), .second] [])) _
      refine XS.lloadN X0.here hx rfl (hb hby d3_10) rfl ?_
      exact kt
    obtain ⟨fs, hr, hrun, hended, hW, hsame⟩ := X0.leave (v := some (.long q1)) (fun h => by rw [Bd.returns] at h; cases h)
    refine ⟨_, _, pre0 _ (c1 _ (c2 _ (?_))), hrun, hended, _, _, rfl, ?_, ⟨_, rfl⟩, hW, hsame.mono (by decide) (by decide)⟩
    · show Steps p.tables e below (s₁.setTop (mkF m 11 #[.val (.long q0), .second, .val (.long q1), .second] [(.long q1)])) _
      jvm_step X0.here [X0.here.top, hx, (hb hby d3_11), X0.method', Bd.returns, narrow]
      first | (intro acts; rw [hr _ acts rfl rfl rfl]) | rw [hr _ _ rfl rfl rfl]
      exact Steps.refl _
    · show Q3 Z q0 q1 h0 n0 _ s₁.heap _
      rw [e0]
      exact ⟨congrArg (fun z => some (Value.long z)) (show q1 = (own_max q0 q1) from by unfold own_max; simp only [hc3, if_true, if_false]), N0, rfl⟩
  · -- it isn't
    have c4 : ∀ t, Steps p.tables e below (s₁.setTop (mkF m 11 #[.val (.long q0), .second, .val (.long q1), .second] [(.long q0)])) t → Steps p.tables e below (s₁.setTop (mkF m 3 #[.val (.long q0), .second, .val (.long q1), .second] [(.int (lcmpW q0 q1))])) t := by
      intro t kt
      show Steps p.tables e below (s₁.setTop (mkF m 3 #[.val (.long q0), .second, .val (.long q1), .second] [(.int (lcmpW q0 q1))])) _
      refine XS.ifNo X0.here hx rfl (hb hby d3_3) rfl ((if0 _ _).trans (flt (fun q => hc3 ((lw_lt _ _).mp q))).1) ?_
      show Steps p.tables e below (s₁.setTop (mkF m 6 #[.val (.long q0), .second, .val (.long q1), .second] [])) _
      refine XS.lloadN X0.here hx rfl (hb hby d3_6) rfl ?_
      show Steps p.tables e below (s₁.setTop (mkF m 7 #[.val (.long q0), .second, .val (.long q1), .second] [(.long q0)])) _
      refine XS.goto X0.here hx rfl (pc0 := 7) (pc' := 11) rfl (hb hby d3_7) (by decide) (by decide) ?_
      exact kt
    obtain ⟨fs, hr, hrun, hended, hW, hsame⟩ := X0.leave (v := some (.long q0)) (fun h => by rw [Bd.returns] at h; cases h)
    refine ⟨_, _, pre0 _ (c1 _ (c4 _ (?_))), hrun, hended, _, _, rfl, ?_, ⟨_, rfl⟩, hW, hsame.mono (by decide) (by decide)⟩
    · show Steps p.tables e below (s₁.setTop (mkF m 11 #[.val (.long q0), .second, .val (.long q1), .second] [(.long q0)])) _
      jvm_step X0.here [X0.here.top, hx, (hb hby d3_11), X0.method', Bd.returns, narrow]
      first | (intro acts; rw [hr _ acts rfl rfl rfl]) | rw [hr _ _ rfl rfl rfl]
      exact Steps.refl _
    · show Q3 Z q0 q1 h0 n0 _ s₁.heap _
      rw [e0]
      exact ⟨congrArg (fun z => some (Value.long z)) (show q0 = (own_max q0 q1) from by unfold own_max; simp only [hc3, if_true, if_false]), N0, rfl⟩
theorem d8_0 : decode method_2_code 0 = .ok (.iload 6, 2) := by decide +kernel
theorem d8_2 : decode method_2_code 2 = .ok (.ifCond .le 12, 3) := by decide +kernel
theorem d8_5 : decode method_2_code 5 = .ok (.lload 7, 2) := by decide +kernel
theorem d8_7 : decode method_2_code 7 = .ok (.lload_n 0, 1) := by decide +kernel
theorem d8_8 : decode method_2_code 8 = .ok (.lcmp, 1) := by decide +kernel
theorem d8_9 : decode method_2_code 9 = .ok (.ifCond .ne 5, 3) := by decide +kernel
theorem d8_12 : decode method_2_code 12 = .ok (.iconst 0, 1) := by decide +kernel
theorem d8_13 : decode method_2_code 13 = .ok (.ireturn, 1) := by decide +kernel
theorem d8_14 : decode method_2_code 14 = .ok (.iload 6, 2) := by decide +kernel
theorem d8_16 : decode method_2_code 16 = .ok (.iconst 1, 1) := by decide +kernel
theorem d8_17 : decode method_2_code 17 = .ok (.if_icmp .le 12, 3) := by decide +kernel
theorem d8_20 : decode method_2_code 20 = .ok (.lload 7, 2) := by decide +kernel
theorem d8_22 : decode method_2_code 22 = .ok (.lload_n 2, 1) := by decide +kernel
theorem d8_23 : decode method_2_code 23 = .ok (.lcmp, 1) := by decide +kernel
theorem d8_24 : decode method_2_code 24 = .ok (.ifCond .ne 5, 3) := by decide +kernel
theorem d8_27 : decode method_2_code 27 = .ok (.iconst 1, 1) := by decide +kernel
theorem d8_28 : decode method_2_code 28 = .ok (.ireturn, 1) := by decide +kernel
theorem d8_29 : decode method_2_code 29 = .ok (.iload 6, 2) := by decide +kernel
theorem d8_31 : decode method_2_code 31 = .ok (.iconst 2, 1) := by decide +kernel
theorem d8_32 : decode method_2_code 32 = .ok (.if_icmp .le 13, 3) := by decide +kernel
theorem d8_35 : decode method_2_code 35 = .ok (.lload 7, 2) := by decide +kernel
theorem d8_37 : decode method_2_code 37 = .ok (.lload 4, 2) := by decide +kernel
theorem d8_39 : decode method_2_code 39 = .ok (.lcmp, 1) := by decide +kernel
theorem d8_40 : decode method_2_code 40 = .ok (.ifCond .ne 5, 3) := by decide +kernel
theorem d8_43 : decode method_2_code 43 = .ok (.iconst 2, 1) := by decide +kernel
theorem d8_44 : decode method_2_code 44 = .ok (.ireturn, 1) := by decide +kernel
theorem d8_45 : decode method_2_code 45 = .ok (.iconst (-1), 1) := by decide +kernel
theorem d8_46 : decode method_2_code 46 = .ok (.ireturn, 1) := by decide +kernel
theorem pn_8 : plainName "com/example/mapstone/mapstone/engine/ConceptIndexPlacePinLaw" = true := by first | (simp [plainName, overriddenIn]; done) | decide +kernel
theorem ef_8 (m : MethodId) (x0 : Int64) (x1 : Int64) (x2 : Int64) (x3 : Int32) (x4 : Int64) : entryFrame m #[(.long x0), (.long x1), (.long x2), (.int x3), (.long x4)] 9 = mkF m 0 #[.val (.long x0), .second, .val (.long x1), .second, .val (.long x2), .second, .val (.int x3), .val (.long x4), .second] [] := by first | (simp [entryFrame, mkF, argsToLocals, Value.category]; done) | rfl
def Q8 (Z : State) (q0 : Int64) (q1 : Int64) (q2 : Int64) (p3 : Int32) (q4 : Int64) (h0 : Heap) (n0 : Nat) (v : Option Value) (h : Heap) (L : List Loc) : Prop := v = some (.int (own_rf p3 q0 q1 q2 q4)) ∧ Fr n0 L ∧ h = h0
set_option maxRecDepth 65536 in
set_option maxHeartbeats 40000000 in
theorem rm8 (l : Launch) (Z : State) (a0 : Array Value) (hw : ∀ d ∈ tables_1, d.before a0 Z = true) (ws : List Jvm.Cond) (q0 : Int64) (q1 : Int64) (q2 : Int64) (p3 : Int32) (q4 : Int64)  (h0 : Heap) (n0 : Nat) (Z0 : n0 ≤ h0.size) :
    MetFree l (⟨"com/example/mapstone/mapstone/engine/ConceptIndexPlacePinLaw", "ref", "(JJJIJ)I"⟩ : MethodName) (head1 (Jvm.Cond.code (⟨"com/example/mapstone/mapstone/engine/ConceptIndexPlacePinLaw", "ref", "(JJJIJ)I"⟩ : MethodName) method_2_code 9 (some .int) :: ws) ({ frames := 0, cells := 0, slots := 0, locals := 0 } : Room)) (fun a U => a = #[(.long q0), (.long q1), (.long q2), (.int p3), (.long q4)] ∧ Z.Warmed39 U.vm ∧ U.heap = h0) (fun _ _ _ _ _ => True) (fun _ U o U' => ∃ v L, o = .returned v ∧ Q8 Z q0 q1 q2 p3 q4 h0 n0 v U'.heap L ∧ FrameEnd U o U' L ({ frames := 0, cells := 0, slots := 0, locals := 0 } : Room).cells ({ frames := 0, cells := 0, slots := 0, locals := 0 } : Room).slots) := by
  refine MetFree.of_bodySF (plainFor_of_name pn_8) hisR ?_
  intro p e s m args below meth c s₁ Bd hml0 hP hK
  obtain ⟨rfl, hZ, hh⟩ := hP
  have hx := Bd.exec
  have hby := Bd.bytes
  have hml : c.maxLocals = 9 := hml0
  have hown : s.vm.findClass "com/example/mapstone/mapstone/engine/ConceptIndexPlacePinLaw" = some m.cls := findClass_of_methodNamed Bd.named
  have hnm := (name_of_methodNamed Bd.named Bd.method).1
  have X0 : Stand p l e ({ frames := 0, cells := 0, slots := 0, locals := 0 } : Room) s m #[(.long q0), (.long q1), (.long q2), (.int p3), (.long q4)] below meth c s₁ [] 0 0 := Stand.of_body Bd
  have e0 : s₁.heap = h0 := by rw [← hh, Bd.state]; rfl
  have N0 := Fr.nil n0
  have pre0 : ∀ t, Steps p.tables e below (s₁.setTop (mkF m 0 #[.val (.long q0), .second, .val (.long q1), .second, .val (.long q2), .second, .val (.int p3), .val (.long q4), .second] [])) t → Steps p.tables e below (s₁.setTop (entryFrame m #[(.long q0), (.long q1), (.long q2), (.int p3), (.long q4)] 9)) t := fun t k => castTop (ef_8 m q0 q1 q2 p3 q4) k
  have c1 : ∀ t, Steps p.tables e below (s₁.setTop (mkF m 2 #[.val (.long q0), .second, .val (.long q1), .second, .val (.long q2), .second, .val (.int p3), .val (.long q4), .second] [(.int p3)])) t → Steps p.tables e below (s₁.setTop (mkF m 0 #[.val (.long q0), .second, .val (.long q1), .second, .val (.long q2), .second, .val (.int p3), .val (.long q4), .second] [])) t := by
    intro t kt
    show Steps p.tables e below (s₁.setTop (mkF m 0 #[.val (.long q0), .second, .val (.long q1), .second, .val (.long q2), .second, .val (.int p3), .val (.long q4), .second] [])) _
    refine XS.iload X0.here hx rfl (hb hby d8_0) rfl ?_
    exact kt
  by_cases hc2 : (0 : Int32) < p3
  · -- it is
    have c2 : ∀ t, Steps p.tables e below (s₁.setTop (mkF m 9 #[.val (.long q0), .second, .val (.long q1), .second, .val (.long q2), .second, .val (.int p3), .val (.long q4), .second] [(.int (lcmpW q4 q0))])) t → Steps p.tables e below (s₁.setTop (mkF m 2 #[.val (.long q0), .second, .val (.long q1), .second, .val (.long q2), .second, .val (.int p3), .val (.long q4), .second] [(.int p3)])) t := by
      intro t kt
      show Steps p.tables e below (s₁.setTop (mkF m 2 #[.val (.long q0), .second, .val (.long q1), .second, .val (.long q2), .second, .val (.int p3), .val (.long q4), .second] [(.int p3)])) _
      refine XS.ifNo X0.here hx rfl (hb hby d8_2) rfl ((if0 _ _).trans (tlt hc2).2.2.2) ?_
      show Steps p.tables e below (s₁.setTop (mkF m 5 #[.val (.long q0), .second, .val (.long q1), .second, .val (.long q2), .second, .val (.int p3), .val (.long q4), .second] [])) _
      refine XS.lload X0.here hx rfl (hb hby d8_5) rfl ?_
      show Steps p.tables e below (s₁.setTop (mkF m 7 #[.val (.long q0), .second, .val (.long q1), .second, .val (.long q2), .second, .val (.int p3), .val (.long q4), .second] [(.long q4)])) _
      refine XS.lloadN X0.here hx rfl (hb hby d8_7) rfl ?_
      show Steps p.tables e below (s₁.setTop (mkF m 8 #[.val (.long q0), .second, .val (.long q1), .second, .val (.long q2), .second, .val (.int p3), .val (.long q4), .second] [(.long q0), (.long q4)])) _
      refine XS.lcmp X0.here hx rfl (hb hby d8_8) rfl ?_
      exact kt
    by_cases hc9 : q4 = q0
    · -- it is
      have c3 : ∀ t, Steps p.tables e below (s₁.setTop (mkF m 13 #[.val (.long q0), .second, .val (.long q1), .second, .val (.long q2), .second, .val (.int p3), .val (.long q4), .second] [(.int (0 : Int32))])) t → Steps p.tables e below (s₁.setTop (mkF m 9 #[.val (.long q0), .second, .val (.long q1), .second, .val (.long q2), .second, .val (.int p3), .val (.long q4), .second] [(.int (lcmpW q4 q0))])) t := by
        intro t kt
        show Steps p.tables e below (s₁.setTop (mkF m 9 #[.val (.long q0), .second, .val (.long q1), .second, .val (.long q2), .second, .val (.int p3), .val (.long q4), .second] [(.int (lcmpW q4 q0))])) _
        refine XS.ifNo X0.here hx rfl (hb hby d8_9) rfl ((if0 _ _).trans (teq ((lw_eq _ _).mpr hc9)).2) ?_
        show Steps p.tables e below (s₁.setTop (mkF m 12 #[.val (.long q0), .second, .val (.long q1), .second, .val (.long q2), .second, .val (.int p3), .val (.long q4), .second] [])) _
        refine XS.iconst X0.here hx rfl (hb hby d8_12) ?_
        exact kt
      obtain ⟨fs, hr, hrun, hended, hW, hsame⟩ := X0.leave (v := some (.int (0 : Int32))) (fun h => by rw [Bd.returns] at h; cases h)
      refine ⟨_, _, pre0 _ (c1 _ (c2 _ (c3 _ (?_)))), hrun, hended, _, _, rfl, ?_, ⟨_, rfl⟩, hW, hsame.mono (by decide) (by decide)⟩
      · show Steps p.tables e below (s₁.setTop (mkF m 13 #[.val (.long q0), .second, .val (.long q1), .second, .val (.long q2), .second, .val (.int p3), .val (.long q4), .second] [(.int (0 : Int32))])) _
        exact retI X0 hx Bd.returns (hb hby d8_13) hr
      · show Q8 Z q0 q1 q2 p3 q4 h0 n0 _ s₁.heap _
        rw [e0]
        exact ⟨congrArg (fun z => some (Value.int z)) (show (0 : Int32) = (own_rf p3 q0 q1 q2 q4) from by unfold own_rf; rw [if_pos ⟨hc2, hc9⟩]), N0, rfl⟩
    · -- it isn't
      have c5 : ∀ t, Steps p.tables e below (s₁.setTop (mkF m 17 #[.val (.long q0), .second, .val (.long q1), .second, .val (.long q2), .second, .val (.int p3), .val (.long q4), .second] [(.int (1 : Int32)), (.int p3)])) t → Steps p.tables e below (s₁.setTop (mkF m 9 #[.val (.long q0), .second, .val (.long q1), .second, .val (.long q2), .second, .val (.int p3), .val (.long q4), .second] [(.int (lcmpW q4 q0))])) t := by
        intro t kt
        show Steps p.tables e below (s₁.setTop (mkF m 9 #[.val (.long q0), .second, .val (.long q1), .second, .val (.long q2), .second, .val (.int p3), .val (.long q4), .second] [(.int (lcmpW q4 q0))])) _
        refine XS.ifYes X0.here hx rfl (pc0 := 9) (pc' := 14) rfl (hb hby d8_9) rfl ((if0 _ _).trans (feq (fun q => hc9 ((lw_eq _ _).mp q))).2) (by decide) (by decide) ?_
        show Steps p.tables e below (s₁.setTop (mkF m 14 #[.val (.long q0), .second, .val (.long q1), .second, .val (.long q2), .second, .val (.int p3), .val (.long q4), .second] [])) _
        refine XS.iload X0.here hx rfl (hb hby d8_14) rfl ?_
        show Steps p.tables e below (s₁.setTop (mkF m 16 #[.val (.long q0), .second, .val (.long q1), .second, .val (.long q2), .second, .val (.int p3), .val (.long q4), .second] [(.int p3)])) _
        refine XS.iconst X0.here hx rfl (hb hby d8_16) ?_
        exact kt
      by_cases hc17 : (1 : Int32) < p3
      · -- it is
        have c6 : ∀ t, Steps p.tables e below (s₁.setTop (mkF m 24 #[.val (.long q0), .second, .val (.long q1), .second, .val (.long q2), .second, .val (.int p3), .val (.long q4), .second] [(.int (lcmpW q4 q1))])) t → Steps p.tables e below (s₁.setTop (mkF m 17 #[.val (.long q0), .second, .val (.long q1), .second, .val (.long q2), .second, .val (.int p3), .val (.long q4), .second] [(.int (1 : Int32)), (.int p3)])) t := by
          intro t kt
          show Steps p.tables e below (s₁.setTop (mkF m 17 #[.val (.long q0), .second, .val (.long q1), .second, .val (.long q2), .second, .val (.int p3), .val (.long q4), .second] [(.int (1 : Int32)), (.int p3)])) _
          refine XS.icmpNo X0.here hx rfl (hb hby d8_17) rfl (tlt hc17).2.2.2 ?_
          show Steps p.tables e below (s₁.setTop (mkF m 20 #[.val (.long q0), .second, .val (.long q1), .second, .val (.long q2), .second, .val (.int p3), .val (.long q4), .second] [])) _
          refine XS.lload X0.here hx rfl (hb hby d8_20) rfl ?_
          show Steps p.tables e below (s₁.setTop (mkF m 22 #[.val (.long q0), .second, .val (.long q1), .second, .val (.long q2), .second, .val (.int p3), .val (.long q4), .second] [(.long q4)])) _
          refine XS.lloadN X0.here hx rfl (hb hby d8_22) rfl ?_
          show Steps p.tables e below (s₁.setTop (mkF m 23 #[.val (.long q0), .second, .val (.long q1), .second, .val (.long q2), .second, .val (.int p3), .val (.long q4), .second] [(.long q1), (.long q4)])) _
          refine XS.lcmp X0.here hx rfl (hb hby d8_23) rfl ?_
          exact kt
        by_cases hc24 : q4 = q1
        · -- it is
          have c7 : ∀ t, Steps p.tables e below (s₁.setTop (mkF m 28 #[.val (.long q0), .second, .val (.long q1), .second, .val (.long q2), .second, .val (.int p3), .val (.long q4), .second] [(.int (1 : Int32))])) t → Steps p.tables e below (s₁.setTop (mkF m 24 #[.val (.long q0), .second, .val (.long q1), .second, .val (.long q2), .second, .val (.int p3), .val (.long q4), .second] [(.int (lcmpW q4 q1))])) t := by
            intro t kt
            show Steps p.tables e below (s₁.setTop (mkF m 24 #[.val (.long q0), .second, .val (.long q1), .second, .val (.long q2), .second, .val (.int p3), .val (.long q4), .second] [(.int (lcmpW q4 q1))])) _
            refine XS.ifNo X0.here hx rfl (hb hby d8_24) rfl ((if0 _ _).trans (teq ((lw_eq _ _).mpr hc24)).2) ?_
            show Steps p.tables e below (s₁.setTop (mkF m 27 #[.val (.long q0), .second, .val (.long q1), .second, .val (.long q2), .second, .val (.int p3), .val (.long q4), .second] [])) _
            refine XS.iconst X0.here hx rfl (hb hby d8_27) ?_
            exact kt
          obtain ⟨fs, hr, hrun, hended, hW, hsame⟩ := X0.leave (v := some (.int (1 : Int32))) (fun h => by rw [Bd.returns] at h; cases h)
          refine ⟨_, _, pre0 _ (c1 _ (c2 _ (c5 _ (c6 _ (c7 _ (?_)))))), hrun, hended, _, _, rfl, ?_, ⟨_, rfl⟩, hW, hsame.mono (by decide) (by decide)⟩
          · show Steps p.tables e below (s₁.setTop (mkF m 28 #[.val (.long q0), .second, .val (.long q1), .second, .val (.long q2), .second, .val (.int p3), .val (.long q4), .second] [(.int (1 : Int32))])) _
            exact retI X0 hx Bd.returns (hb hby d8_28) hr
          · show Q8 Z q0 q1 q2 p3 q4 h0 n0 _ s₁.heap _
            rw [e0]
            exact ⟨congrArg (fun z => some (Value.int z)) (show (1 : Int32) = (own_rf p3 q0 q1 q2 q4) from by unfold own_rf; rw [if_neg (fun k => hc9 k.2), if_pos ⟨hc17, hc24⟩]), N0, rfl⟩
        · -- it isn't
          have c9 : ∀ t, Steps p.tables e below (s₁.setTop (mkF m 32 #[.val (.long q0), .second, .val (.long q1), .second, .val (.long q2), .second, .val (.int p3), .val (.long q4), .second] [(.int (2 : Int32)), (.int p3)])) t → Steps p.tables e below (s₁.setTop (mkF m 24 #[.val (.long q0), .second, .val (.long q1), .second, .val (.long q2), .second, .val (.int p3), .val (.long q4), .second] [(.int (lcmpW q4 q1))])) t := by
            intro t kt
            show Steps p.tables e below (s₁.setTop (mkF m 24 #[.val (.long q0), .second, .val (.long q1), .second, .val (.long q2), .second, .val (.int p3), .val (.long q4), .second] [(.int (lcmpW q4 q1))])) _
            refine XS.ifYes X0.here hx rfl (pc0 := 24) (pc' := 29) rfl (hb hby d8_24) rfl ((if0 _ _).trans (feq (fun q => hc24 ((lw_eq _ _).mp q))).2) (by decide) (by decide) ?_
            show Steps p.tables e below (s₁.setTop (mkF m 29 #[.val (.long q0), .second, .val (.long q1), .second, .val (.long q2), .second, .val (.int p3), .val (.long q4), .second] [])) _
            refine XS.iload X0.here hx rfl (hb hby d8_29) rfl ?_
            show Steps p.tables e below (s₁.setTop (mkF m 31 #[.val (.long q0), .second, .val (.long q1), .second, .val (.long q2), .second, .val (.int p3), .val (.long q4), .second] [(.int p3)])) _
            refine XS.iconst X0.here hx rfl (hb hby d8_31) ?_
            exact kt
          by_cases hc32 : (2 : Int32) < p3
          · -- it is
            have c10 : ∀ t, Steps p.tables e below (s₁.setTop (mkF m 40 #[.val (.long q0), .second, .val (.long q1), .second, .val (.long q2), .second, .val (.int p3), .val (.long q4), .second] [(.int (lcmpW q4 q2))])) t → Steps p.tables e below (s₁.setTop (mkF m 32 #[.val (.long q0), .second, .val (.long q1), .second, .val (.long q2), .second, .val (.int p3), .val (.long q4), .second] [(.int (2 : Int32)), (.int p3)])) t := by
              intro t kt
              show Steps p.tables e below (s₁.setTop (mkF m 32 #[.val (.long q0), .second, .val (.long q1), .second, .val (.long q2), .second, .val (.int p3), .val (.long q4), .second] [(.int (2 : Int32)), (.int p3)])) _
              refine XS.icmpNo X0.here hx rfl (hb hby d8_32) rfl (tlt hc32).2.2.2 ?_
              show Steps p.tables e below (s₁.setTop (mkF m 35 #[.val (.long q0), .second, .val (.long q1), .second, .val (.long q2), .second, .val (.int p3), .val (.long q4), .second] [])) _
              refine XS.lload X0.here hx rfl (hb hby d8_35) rfl ?_
              show Steps p.tables e below (s₁.setTop (mkF m 37 #[.val (.long q0), .second, .val (.long q1), .second, .val (.long q2), .second, .val (.int p3), .val (.long q4), .second] [(.long q4)])) _
              refine XS.lload X0.here hx rfl (hb hby d8_37) rfl ?_
              show Steps p.tables e below (s₁.setTop (mkF m 39 #[.val (.long q0), .second, .val (.long q1), .second, .val (.long q2), .second, .val (.int p3), .val (.long q4), .second] [(.long q2), (.long q4)])) _
              refine XS.lcmp X0.here hx rfl (hb hby d8_39) rfl ?_
              exact kt
            by_cases hc40 : q4 = q2
            · -- it is
              have c11 : ∀ t, Steps p.tables e below (s₁.setTop (mkF m 44 #[.val (.long q0), .second, .val (.long q1), .second, .val (.long q2), .second, .val (.int p3), .val (.long q4), .second] [(.int (2 : Int32))])) t → Steps p.tables e below (s₁.setTop (mkF m 40 #[.val (.long q0), .second, .val (.long q1), .second, .val (.long q2), .second, .val (.int p3), .val (.long q4), .second] [(.int (lcmpW q4 q2))])) t := by
                intro t kt
                show Steps p.tables e below (s₁.setTop (mkF m 40 #[.val (.long q0), .second, .val (.long q1), .second, .val (.long q2), .second, .val (.int p3), .val (.long q4), .second] [(.int (lcmpW q4 q2))])) _
                refine XS.ifNo X0.here hx rfl (hb hby d8_40) rfl ((if0 _ _).trans (teq ((lw_eq _ _).mpr hc40)).2) ?_
                show Steps p.tables e below (s₁.setTop (mkF m 43 #[.val (.long q0), .second, .val (.long q1), .second, .val (.long q2), .second, .val (.int p3), .val (.long q4), .second] [])) _
                refine XS.iconst X0.here hx rfl (hb hby d8_43) ?_
                exact kt
              obtain ⟨fs, hr, hrun, hended, hW, hsame⟩ := X0.leave (v := some (.int (2 : Int32))) (fun h => by rw [Bd.returns] at h; cases h)
              refine ⟨_, _, pre0 _ (c1 _ (c2 _ (c5 _ (c6 _ (c9 _ (c10 _ (c11 _ (?_)))))))), hrun, hended, _, _, rfl, ?_, ⟨_, rfl⟩, hW, hsame.mono (by decide) (by decide)⟩
              · show Steps p.tables e below (s₁.setTop (mkF m 44 #[.val (.long q0), .second, .val (.long q1), .second, .val (.long q2), .second, .val (.int p3), .val (.long q4), .second] [(.int (2 : Int32))])) _
                exact retI X0 hx Bd.returns (hb hby d8_44) hr
              · show Q8 Z q0 q1 q2 p3 q4 h0 n0 _ s₁.heap _
                rw [e0]
                exact ⟨congrArg (fun z => some (Value.int z)) (show (2 : Int32) = (own_rf p3 q0 q1 q2 q4) from by unfold own_rf; rw [if_neg (fun k => hc9 k.2), if_neg (fun k => hc24 k.2), if_pos ⟨hc32, hc40⟩]), N0, rfl⟩
            · -- it isn't
              have c13 : ∀ t, Steps p.tables e below (s₁.setTop (mkF m 46 #[.val (.long q0), .second, .val (.long q1), .second, .val (.long q2), .second, .val (.int p3), .val (.long q4), .second] [(.int (-1 : Int32))])) t → Steps p.tables e below (s₁.setTop (mkF m 40 #[.val (.long q0), .second, .val (.long q1), .second, .val (.long q2), .second, .val (.int p3), .val (.long q4), .second] [(.int (lcmpW q4 q2))])) t := by
                intro t kt
                show Steps p.tables e below (s₁.setTop (mkF m 40 #[.val (.long q0), .second, .val (.long q1), .second, .val (.long q2), .second, .val (.int p3), .val (.long q4), .second] [(.int (lcmpW q4 q2))])) _
                refine XS.ifYes X0.here hx rfl (pc0 := 40) (pc' := 45) rfl (hb hby d8_40) rfl ((if0 _ _).trans (feq (fun q => hc40 ((lw_eq _ _).mp q))).2) (by decide) (by decide) ?_
                show Steps p.tables e below (s₁.setTop (mkF m 45 #[.val (.long q0), .second, .val (.long q1), .second, .val (.long q2), .second, .val (.int p3), .val (.long q4), .second] [])) _
                refine XS.iconst X0.here hx rfl (hb hby d8_45) ?_
                exact kt
              obtain ⟨fs, hr, hrun, hended, hW, hsame⟩ := X0.leave (v := some (.int (-1 : Int32))) (fun h => by rw [Bd.returns] at h; cases h)
              refine ⟨_, _, pre0 _ (c1 _ (c2 _ (c5 _ (c6 _ (c9 _ (c10 _ (c13 _ (?_)))))))), hrun, hended, _, _, rfl, ?_, ⟨_, rfl⟩, hW, hsame.mono (by decide) (by decide)⟩
              · show Steps p.tables e below (s₁.setTop (mkF m 46 #[.val (.long q0), .second, .val (.long q1), .second, .val (.long q2), .second, .val (.int p3), .val (.long q4), .second] [(.int (-1 : Int32))])) _
                exact retI X0 hx Bd.returns (hb hby d8_46) hr
              · show Q8 Z q0 q1 q2 p3 q4 h0 n0 _ s₁.heap _
                rw [e0]
                exact ⟨congrArg (fun z => some (Value.int z)) (show (-1 : Int32) = (own_rf p3 q0 q1 q2 q4) from by unfold own_rf; rw [if_neg (fun k => hc9 k.2), if_neg (fun k => hc24 k.2), if_neg (fun k => hc40 k.2)]), N0, rfl⟩
          · -- it isn't
            have c15 : ∀ t, Steps p.tables e below (s₁.setTop (mkF m 46 #[.val (.long q0), .second, .val (.long q1), .second, .val (.long q2), .second, .val (.int p3), .val (.long q4), .second] [(.int (-1 : Int32))])) t → Steps p.tables e below (s₁.setTop (mkF m 32 #[.val (.long q0), .second, .val (.long q1), .second, .val (.long q2), .second, .val (.int p3), .val (.long q4), .second] [(.int (2 : Int32)), (.int p3)])) t := by
              intro t kt
              show Steps p.tables e below (s₁.setTop (mkF m 32 #[.val (.long q0), .second, .val (.long q1), .second, .val (.long q2), .second, .val (.int p3), .val (.long q4), .second] [(.int (2 : Int32)), (.int p3)])) _
              refine XS.icmpYes X0.here hx rfl (pc0 := 32) (pc' := 45) rfl (hb hby d8_32) rfl (flt hc32).2.2.2 (by decide) (by decide) ?_
              show Steps p.tables e below (s₁.setTop (mkF m 45 #[.val (.long q0), .second, .val (.long q1), .second, .val (.long q2), .second, .val (.int p3), .val (.long q4), .second] [])) _
              refine XS.iconst X0.here hx rfl (hb hby d8_45) ?_
              exact kt
            obtain ⟨fs, hr, hrun, hended, hW, hsame⟩ := X0.leave (v := some (.int (-1 : Int32))) (fun h => by rw [Bd.returns] at h; cases h)
            refine ⟨_, _, pre0 _ (c1 _ (c2 _ (c5 _ (c6 _ (c9 _ (c15 _ (?_))))))), hrun, hended, _, _, rfl, ?_, ⟨_, rfl⟩, hW, hsame.mono (by decide) (by decide)⟩
            · show Steps p.tables e below (s₁.setTop (mkF m 46 #[.val (.long q0), .second, .val (.long q1), .second, .val (.long q2), .second, .val (.int p3), .val (.long q4), .second] [(.int (-1 : Int32))])) _
              exact retI X0 hx Bd.returns (hb hby d8_46) hr
            · show Q8 Z q0 q1 q2 p3 q4 h0 n0 _ s₁.heap _
              rw [e0]
              exact ⟨congrArg (fun z => some (Value.int z)) (show (-1 : Int32) = (own_rf p3 q0 q1 q2 q4) from by unfold own_rf; rw [if_neg (fun k => hc9 k.2), if_neg (fun k => hc24 k.2), if_neg (fun k => hc32 k.1)]), N0, rfl⟩
      · -- it isn't
        have c17 : ∀ t, Steps p.tables e below (s₁.setTop (mkF m 32 #[.val (.long q0), .second, .val (.long q1), .second, .val (.long q2), .second, .val (.int p3), .val (.long q4), .second] [(.int (2 : Int32)), (.int p3)])) t → Steps p.tables e below (s₁.setTop (mkF m 17 #[.val (.long q0), .second, .val (.long q1), .second, .val (.long q2), .second, .val (.int p3), .val (.long q4), .second] [(.int (1 : Int32)), (.int p3)])) t := by
          intro t kt
          show Steps p.tables e below (s₁.setTop (mkF m 17 #[.val (.long q0), .second, .val (.long q1), .second, .val (.long q2), .second, .val (.int p3), .val (.long q4), .second] [(.int (1 : Int32)), (.int p3)])) _
          refine XS.icmpYes X0.here hx rfl (pc0 := 17) (pc' := 29) rfl (hb hby d8_17) rfl (flt hc17).2.2.2 (by decide) (by decide) ?_
          show Steps p.tables e below (s₁.setTop (mkF m 29 #[.val (.long q0), .second, .val (.long q1), .second, .val (.long q2), .second, .val (.int p3), .val (.long q4), .second] [])) _
          refine XS.iload X0.here hx rfl (hb hby d8_29) rfl ?_
          show Steps p.tables e below (s₁.setTop (mkF m 31 #[.val (.long q0), .second, .val (.long q1), .second, .val (.long q2), .second, .val (.int p3), .val (.long q4), .second] [(.int p3)])) _
          refine XS.iconst X0.here hx rfl (hb hby d8_31) ?_
          exact kt
        by_cases hc32 : (2 : Int32) < p3
        · -- it is
          have c18 : ∀ t, Steps p.tables e below (s₁.setTop (mkF m 40 #[.val (.long q0), .second, .val (.long q1), .second, .val (.long q2), .second, .val (.int p3), .val (.long q4), .second] [(.int (lcmpW q4 q2))])) t → Steps p.tables e below (s₁.setTop (mkF m 32 #[.val (.long q0), .second, .val (.long q1), .second, .val (.long q2), .second, .val (.int p3), .val (.long q4), .second] [(.int (2 : Int32)), (.int p3)])) t := by
            intro t kt
            show Steps p.tables e below (s₁.setTop (mkF m 32 #[.val (.long q0), .second, .val (.long q1), .second, .val (.long q2), .second, .val (.int p3), .val (.long q4), .second] [(.int (2 : Int32)), (.int p3)])) _
            refine XS.icmpNo X0.here hx rfl (hb hby d8_32) rfl (tlt hc32).2.2.2 ?_
            show Steps p.tables e below (s₁.setTop (mkF m 35 #[.val (.long q0), .second, .val (.long q1), .second, .val (.long q2), .second, .val (.int p3), .val (.long q4), .second] [])) _
            refine XS.lload X0.here hx rfl (hb hby d8_35) rfl ?_
            show Steps p.tables e below (s₁.setTop (mkF m 37 #[.val (.long q0), .second, .val (.long q1), .second, .val (.long q2), .second, .val (.int p3), .val (.long q4), .second] [(.long q4)])) _
            refine XS.lload X0.here hx rfl (hb hby d8_37) rfl ?_
            show Steps p.tables e below (s₁.setTop (mkF m 39 #[.val (.long q0), .second, .val (.long q1), .second, .val (.long q2), .second, .val (.int p3), .val (.long q4), .second] [(.long q2), (.long q4)])) _
            refine XS.lcmp X0.here hx rfl (hb hby d8_39) rfl ?_
            exact kt
          by_cases hc40 : q4 = q2
          · -- it is
            have c19 : ∀ t, Steps p.tables e below (s₁.setTop (mkF m 44 #[.val (.long q0), .second, .val (.long q1), .second, .val (.long q2), .second, .val (.int p3), .val (.long q4), .second] [(.int (2 : Int32))])) t → Steps p.tables e below (s₁.setTop (mkF m 40 #[.val (.long q0), .second, .val (.long q1), .second, .val (.long q2), .second, .val (.int p3), .val (.long q4), .second] [(.int (lcmpW q4 q2))])) t := by
              intro t kt
              show Steps p.tables e below (s₁.setTop (mkF m 40 #[.val (.long q0), .second, .val (.long q1), .second, .val (.long q2), .second, .val (.int p3), .val (.long q4), .second] [(.int (lcmpW q4 q2))])) _
              refine XS.ifNo X0.here hx rfl (hb hby d8_40) rfl ((if0 _ _).trans (teq ((lw_eq _ _).mpr hc40)).2) ?_
              show Steps p.tables e below (s₁.setTop (mkF m 43 #[.val (.long q0), .second, .val (.long q1), .second, .val (.long q2), .second, .val (.int p3), .val (.long q4), .second] [])) _
              refine XS.iconst X0.here hx rfl (hb hby d8_43) ?_
              exact kt
            obtain ⟨fs, hr, hrun, hended, hW, hsame⟩ := X0.leave (v := some (.int (2 : Int32))) (fun h => by rw [Bd.returns] at h; cases h)
            refine ⟨_, _, pre0 _ (c1 _ (c2 _ (c5 _ (c17 _ (c18 _ (c19 _ (?_))))))), hrun, hended, _, _, rfl, ?_, ⟨_, rfl⟩, hW, hsame.mono (by decide) (by decide)⟩
            · show Steps p.tables e below (s₁.setTop (mkF m 44 #[.val (.long q0), .second, .val (.long q1), .second, .val (.long q2), .second, .val (.int p3), .val (.long q4), .second] [(.int (2 : Int32))])) _
              exact retI X0 hx Bd.returns (hb hby d8_44) hr
            · show Q8 Z q0 q1 q2 p3 q4 h0 n0 _ s₁.heap _
              rw [e0]
              exact ⟨congrArg (fun z => some (Value.int z)) (show (2 : Int32) = (own_rf p3 q0 q1 q2 q4) from by unfold own_rf; rw [if_neg (fun k => hc9 k.2), if_neg (fun k => hc17 k.1), if_pos ⟨hc32, hc40⟩]), N0, rfl⟩
          · -- it isn't
            have c21 : ∀ t, Steps p.tables e below (s₁.setTop (mkF m 46 #[.val (.long q0), .second, .val (.long q1), .second, .val (.long q2), .second, .val (.int p3), .val (.long q4), .second] [(.int (-1 : Int32))])) t → Steps p.tables e below (s₁.setTop (mkF m 40 #[.val (.long q0), .second, .val (.long q1), .second, .val (.long q2), .second, .val (.int p3), .val (.long q4), .second] [(.int (lcmpW q4 q2))])) t := by
              intro t kt
              show Steps p.tables e below (s₁.setTop (mkF m 40 #[.val (.long q0), .second, .val (.long q1), .second, .val (.long q2), .second, .val (.int p3), .val (.long q4), .second] [(.int (lcmpW q4 q2))])) _
              refine XS.ifYes X0.here hx rfl (pc0 := 40) (pc' := 45) rfl (hb hby d8_40) rfl ((if0 _ _).trans (feq (fun q => hc40 ((lw_eq _ _).mp q))).2) (by decide) (by decide) ?_
              show Steps p.tables e below (s₁.setTop (mkF m 45 #[.val (.long q0), .second, .val (.long q1), .second, .val (.long q2), .second, .val (.int p3), .val (.long q4), .second] [])) _
              refine XS.iconst X0.here hx rfl (hb hby d8_45) ?_
              exact kt
            obtain ⟨fs, hr, hrun, hended, hW, hsame⟩ := X0.leave (v := some (.int (-1 : Int32))) (fun h => by rw [Bd.returns] at h; cases h)
            refine ⟨_, _, pre0 _ (c1 _ (c2 _ (c5 _ (c17 _ (c18 _ (c21 _ (?_))))))), hrun, hended, _, _, rfl, ?_, ⟨_, rfl⟩, hW, hsame.mono (by decide) (by decide)⟩
            · show Steps p.tables e below (s₁.setTop (mkF m 46 #[.val (.long q0), .second, .val (.long q1), .second, .val (.long q2), .second, .val (.int p3), .val (.long q4), .second] [(.int (-1 : Int32))])) _
              exact retI X0 hx Bd.returns (hb hby d8_46) hr
            · show Q8 Z q0 q1 q2 p3 q4 h0 n0 _ s₁.heap _
              rw [e0]
              exact ⟨congrArg (fun z => some (Value.int z)) (show (-1 : Int32) = (own_rf p3 q0 q1 q2 q4) from by unfold own_rf; rw [if_neg (fun k => hc9 k.2), if_neg (fun k => hc17 k.1), if_neg (fun k => hc40 k.2)]), N0, rfl⟩
        · -- it isn't
          have c23 : ∀ t, Steps p.tables e below (s₁.setTop (mkF m 46 #[.val (.long q0), .second, .val (.long q1), .second, .val (.long q2), .second, .val (.int p3), .val (.long q4), .second] [(.int (-1 : Int32))])) t → Steps p.tables e below (s₁.setTop (mkF m 32 #[.val (.long q0), .second, .val (.long q1), .second, .val (.long q2), .second, .val (.int p3), .val (.long q4), .second] [(.int (2 : Int32)), (.int p3)])) t := by
            intro t kt
            show Steps p.tables e below (s₁.setTop (mkF m 32 #[.val (.long q0), .second, .val (.long q1), .second, .val (.long q2), .second, .val (.int p3), .val (.long q4), .second] [(.int (2 : Int32)), (.int p3)])) _
            refine XS.icmpYes X0.here hx rfl (pc0 := 32) (pc' := 45) rfl (hb hby d8_32) rfl (flt hc32).2.2.2 (by decide) (by decide) ?_
            show Steps p.tables e below (s₁.setTop (mkF m 45 #[.val (.long q0), .second, .val (.long q1), .second, .val (.long q2), .second, .val (.int p3), .val (.long q4), .second] [])) _
            refine XS.iconst X0.here hx rfl (hb hby d8_45) ?_
            exact kt
          obtain ⟨fs, hr, hrun, hended, hW, hsame⟩ := X0.leave (v := some (.int (-1 : Int32))) (fun h => by rw [Bd.returns] at h; cases h)
          refine ⟨_, _, pre0 _ (c1 _ (c2 _ (c5 _ (c17 _ (c23 _ (?_)))))), hrun, hended, _, _, rfl, ?_, ⟨_, rfl⟩, hW, hsame.mono (by decide) (by decide)⟩
          · show Steps p.tables e below (s₁.setTop (mkF m 46 #[.val (.long q0), .second, .val (.long q1), .second, .val (.long q2), .second, .val (.int p3), .val (.long q4), .second] [(.int (-1 : Int32))])) _
            exact retI X0 hx Bd.returns (hb hby d8_46) hr
          · show Q8 Z q0 q1 q2 p3 q4 h0 n0 _ s₁.heap _
            rw [e0]
            exact ⟨congrArg (fun z => some (Value.int z)) (show (-1 : Int32) = (own_rf p3 q0 q1 q2 q4) from by unfold own_rf; rw [if_neg (fun k => hc9 k.2), if_neg (fun k => hc17 k.1), if_neg (fun k => hc32 k.1)]), N0, rfl⟩
  · -- it isn't
    have c25 : ∀ t, Steps p.tables e below (s₁.setTop (mkF m 17 #[.val (.long q0), .second, .val (.long q1), .second, .val (.long q2), .second, .val (.int p3), .val (.long q4), .second] [(.int (1 : Int32)), (.int p3)])) t → Steps p.tables e below (s₁.setTop (mkF m 2 #[.val (.long q0), .second, .val (.long q1), .second, .val (.long q2), .second, .val (.int p3), .val (.long q4), .second] [(.int p3)])) t := by
      intro t kt
      show Steps p.tables e below (s₁.setTop (mkF m 2 #[.val (.long q0), .second, .val (.long q1), .second, .val (.long q2), .second, .val (.int p3), .val (.long q4), .second] [(.int p3)])) _
      refine XS.ifYes X0.here hx rfl (pc0 := 2) (pc' := 14) rfl (hb hby d8_2) rfl ((if0 _ _).trans (flt hc2).2.2.2) (by decide) (by decide) ?_
      show Steps p.tables e below (s₁.setTop (mkF m 14 #[.val (.long q0), .second, .val (.long q1), .second, .val (.long q2), .second, .val (.int p3), .val (.long q4), .second] [])) _
      refine XS.iload X0.here hx rfl (hb hby d8_14) rfl ?_
      show Steps p.tables e below (s₁.setTop (mkF m 16 #[.val (.long q0), .second, .val (.long q1), .second, .val (.long q2), .second, .val (.int p3), .val (.long q4), .second] [(.int p3)])) _
      refine XS.iconst X0.here hx rfl (hb hby d8_16) ?_
      exact kt
    by_cases hc17 : (1 : Int32) < p3
    · -- it is
      have c26 : ∀ t, Steps p.tables e below (s₁.setTop (mkF m 24 #[.val (.long q0), .second, .val (.long q1), .second, .val (.long q2), .second, .val (.int p3), .val (.long q4), .second] [(.int (lcmpW q4 q1))])) t → Steps p.tables e below (s₁.setTop (mkF m 17 #[.val (.long q0), .second, .val (.long q1), .second, .val (.long q2), .second, .val (.int p3), .val (.long q4), .second] [(.int (1 : Int32)), (.int p3)])) t := by
        intro t kt
        show Steps p.tables e below (s₁.setTop (mkF m 17 #[.val (.long q0), .second, .val (.long q1), .second, .val (.long q2), .second, .val (.int p3), .val (.long q4), .second] [(.int (1 : Int32)), (.int p3)])) _
        refine XS.icmpNo X0.here hx rfl (hb hby d8_17) rfl (tlt hc17).2.2.2 ?_
        show Steps p.tables e below (s₁.setTop (mkF m 20 #[.val (.long q0), .second, .val (.long q1), .second, .val (.long q2), .second, .val (.int p3), .val (.long q4), .second] [])) _
        refine XS.lload X0.here hx rfl (hb hby d8_20) rfl ?_
        show Steps p.tables e below (s₁.setTop (mkF m 22 #[.val (.long q0), .second, .val (.long q1), .second, .val (.long q2), .second, .val (.int p3), .val (.long q4), .second] [(.long q4)])) _
        refine XS.lloadN X0.here hx rfl (hb hby d8_22) rfl ?_
        show Steps p.tables e below (s₁.setTop (mkF m 23 #[.val (.long q0), .second, .val (.long q1), .second, .val (.long q2), .second, .val (.int p3), .val (.long q4), .second] [(.long q1), (.long q4)])) _
        refine XS.lcmp X0.here hx rfl (hb hby d8_23) rfl ?_
        exact kt
      by_cases hc24 : q4 = q1
      · -- it is
        have c27 : ∀ t, Steps p.tables e below (s₁.setTop (mkF m 28 #[.val (.long q0), .second, .val (.long q1), .second, .val (.long q2), .second, .val (.int p3), .val (.long q4), .second] [(.int (1 : Int32))])) t → Steps p.tables e below (s₁.setTop (mkF m 24 #[.val (.long q0), .second, .val (.long q1), .second, .val (.long q2), .second, .val (.int p3), .val (.long q4), .second] [(.int (lcmpW q4 q1))])) t := by
          intro t kt
          show Steps p.tables e below (s₁.setTop (mkF m 24 #[.val (.long q0), .second, .val (.long q1), .second, .val (.long q2), .second, .val (.int p3), .val (.long q4), .second] [(.int (lcmpW q4 q1))])) _
          refine XS.ifNo X0.here hx rfl (hb hby d8_24) rfl ((if0 _ _).trans (teq ((lw_eq _ _).mpr hc24)).2) ?_
          show Steps p.tables e below (s₁.setTop (mkF m 27 #[.val (.long q0), .second, .val (.long q1), .second, .val (.long q2), .second, .val (.int p3), .val (.long q4), .second] [])) _
          refine XS.iconst X0.here hx rfl (hb hby d8_27) ?_
          exact kt
        obtain ⟨fs, hr, hrun, hended, hW, hsame⟩ := X0.leave (v := some (.int (1 : Int32))) (fun h => by rw [Bd.returns] at h; cases h)
        refine ⟨_, _, pre0 _ (c1 _ (c25 _ (c26 _ (c27 _ (?_))))), hrun, hended, _, _, rfl, ?_, ⟨_, rfl⟩, hW, hsame.mono (by decide) (by decide)⟩
        · show Steps p.tables e below (s₁.setTop (mkF m 28 #[.val (.long q0), .second, .val (.long q1), .second, .val (.long q2), .second, .val (.int p3), .val (.long q4), .second] [(.int (1 : Int32))])) _
          exact retI X0 hx Bd.returns (hb hby d8_28) hr
        · show Q8 Z q0 q1 q2 p3 q4 h0 n0 _ s₁.heap _
          rw [e0]
          exact ⟨congrArg (fun z => some (Value.int z)) (show (1 : Int32) = (own_rf p3 q0 q1 q2 q4) from by unfold own_rf; rw [if_neg (fun k => hc2 k.1), if_pos ⟨hc17, hc24⟩]), N0, rfl⟩
      · -- it isn't
        have c29 : ∀ t, Steps p.tables e below (s₁.setTop (mkF m 32 #[.val (.long q0), .second, .val (.long q1), .second, .val (.long q2), .second, .val (.int p3), .val (.long q4), .second] [(.int (2 : Int32)), (.int p3)])) t → Steps p.tables e below (s₁.setTop (mkF m 24 #[.val (.long q0), .second, .val (.long q1), .second, .val (.long q2), .second, .val (.int p3), .val (.long q4), .second] [(.int (lcmpW q4 q1))])) t := by
          intro t kt
          show Steps p.tables e below (s₁.setTop (mkF m 24 #[.val (.long q0), .second, .val (.long q1), .second, .val (.long q2), .second, .val (.int p3), .val (.long q4), .second] [(.int (lcmpW q4 q1))])) _
          refine XS.ifYes X0.here hx rfl (pc0 := 24) (pc' := 29) rfl (hb hby d8_24) rfl ((if0 _ _).trans (feq (fun q => hc24 ((lw_eq _ _).mp q))).2) (by decide) (by decide) ?_
          show Steps p.tables e below (s₁.setTop (mkF m 29 #[.val (.long q0), .second, .val (.long q1), .second, .val (.long q2), .second, .val (.int p3), .val (.long q4), .second] [])) _
          refine XS.iload X0.here hx rfl (hb hby d8_29) rfl ?_
          show Steps p.tables e below (s₁.setTop (mkF m 31 #[.val (.long q0), .second, .val (.long q1), .second, .val (.long q2), .second, .val (.int p3), .val (.long q4), .second] [(.int p3)])) _
          refine XS.iconst X0.here hx rfl (hb hby d8_31) ?_
          exact kt
        by_cases hc32 : (2 : Int32) < p3
        · -- it is
          have c30 : ∀ t, Steps p.tables e below (s₁.setTop (mkF m 40 #[.val (.long q0), .second, .val (.long q1), .second, .val (.long q2), .second, .val (.int p3), .val (.long q4), .second] [(.int (lcmpW q4 q2))])) t → Steps p.tables e below (s₁.setTop (mkF m 32 #[.val (.long q0), .second, .val (.long q1), .second, .val (.long q2), .second, .val (.int p3), .val (.long q4), .second] [(.int (2 : Int32)), (.int p3)])) t := by
            intro t kt
            show Steps p.tables e below (s₁.setTop (mkF m 32 #[.val (.long q0), .second, .val (.long q1), .second, .val (.long q2), .second, .val (.int p3), .val (.long q4), .second] [(.int (2 : Int32)), (.int p3)])) _
            refine XS.icmpNo X0.here hx rfl (hb hby d8_32) rfl (tlt hc32).2.2.2 ?_
            show Steps p.tables e below (s₁.setTop (mkF m 35 #[.val (.long q0), .second, .val (.long q1), .second, .val (.long q2), .second, .val (.int p3), .val (.long q4), .second] [])) _
            refine XS.lload X0.here hx rfl (hb hby d8_35) rfl ?_
            show Steps p.tables e below (s₁.setTop (mkF m 37 #[.val (.long q0), .second, .val (.long q1), .second, .val (.long q2), .second, .val (.int p3), .val (.long q4), .second] [(.long q4)])) _
            refine XS.lload X0.here hx rfl (hb hby d8_37) rfl ?_
            show Steps p.tables e below (s₁.setTop (mkF m 39 #[.val (.long q0), .second, .val (.long q1), .second, .val (.long q2), .second, .val (.int p3), .val (.long q4), .second] [(.long q2), (.long q4)])) _
            refine XS.lcmp X0.here hx rfl (hb hby d8_39) rfl ?_
            exact kt
          by_cases hc40 : q4 = q2
          · -- it is
            have c31 : ∀ t, Steps p.tables e below (s₁.setTop (mkF m 44 #[.val (.long q0), .second, .val (.long q1), .second, .val (.long q2), .second, .val (.int p3), .val (.long q4), .second] [(.int (2 : Int32))])) t → Steps p.tables e below (s₁.setTop (mkF m 40 #[.val (.long q0), .second, .val (.long q1), .second, .val (.long q2), .second, .val (.int p3), .val (.long q4), .second] [(.int (lcmpW q4 q2))])) t := by
              intro t kt
              show Steps p.tables e below (s₁.setTop (mkF m 40 #[.val (.long q0), .second, .val (.long q1), .second, .val (.long q2), .second, .val (.int p3), .val (.long q4), .second] [(.int (lcmpW q4 q2))])) _
              refine XS.ifNo X0.here hx rfl (hb hby d8_40) rfl ((if0 _ _).trans (teq ((lw_eq _ _).mpr hc40)).2) ?_
              show Steps p.tables e below (s₁.setTop (mkF m 43 #[.val (.long q0), .second, .val (.long q1), .second, .val (.long q2), .second, .val (.int p3), .val (.long q4), .second] [])) _
              refine XS.iconst X0.here hx rfl (hb hby d8_43) ?_
              exact kt
            obtain ⟨fs, hr, hrun, hended, hW, hsame⟩ := X0.leave (v := some (.int (2 : Int32))) (fun h => by rw [Bd.returns] at h; cases h)
            refine ⟨_, _, pre0 _ (c1 _ (c25 _ (c26 _ (c29 _ (c30 _ (c31 _ (?_))))))), hrun, hended, _, _, rfl, ?_, ⟨_, rfl⟩, hW, hsame.mono (by decide) (by decide)⟩
            · show Steps p.tables e below (s₁.setTop (mkF m 44 #[.val (.long q0), .second, .val (.long q1), .second, .val (.long q2), .second, .val (.int p3), .val (.long q4), .second] [(.int (2 : Int32))])) _
              exact retI X0 hx Bd.returns (hb hby d8_44) hr
            · show Q8 Z q0 q1 q2 p3 q4 h0 n0 _ s₁.heap _
              rw [e0]
              exact ⟨congrArg (fun z => some (Value.int z)) (show (2 : Int32) = (own_rf p3 q0 q1 q2 q4) from by unfold own_rf; rw [if_neg (fun k => hc2 k.1), if_neg (fun k => hc24 k.2), if_pos ⟨hc32, hc40⟩]), N0, rfl⟩
          · -- it isn't
            have c33 : ∀ t, Steps p.tables e below (s₁.setTop (mkF m 46 #[.val (.long q0), .second, .val (.long q1), .second, .val (.long q2), .second, .val (.int p3), .val (.long q4), .second] [(.int (-1 : Int32))])) t → Steps p.tables e below (s₁.setTop (mkF m 40 #[.val (.long q0), .second, .val (.long q1), .second, .val (.long q2), .second, .val (.int p3), .val (.long q4), .second] [(.int (lcmpW q4 q2))])) t := by
              intro t kt
              show Steps p.tables e below (s₁.setTop (mkF m 40 #[.val (.long q0), .second, .val (.long q1), .second, .val (.long q2), .second, .val (.int p3), .val (.long q4), .second] [(.int (lcmpW q4 q2))])) _
              refine XS.ifYes X0.here hx rfl (pc0 := 40) (pc' := 45) rfl (hb hby d8_40) rfl ((if0 _ _).trans (feq (fun q => hc40 ((lw_eq _ _).mp q))).2) (by decide) (by decide) ?_
              show Steps p.tables e below (s₁.setTop (mkF m 45 #[.val (.long q0), .second, .val (.long q1), .second, .val (.long q2), .second, .val (.int p3), .val (.long q4), .second] [])) _
              refine XS.iconst X0.here hx rfl (hb hby d8_45) ?_
              exact kt
            obtain ⟨fs, hr, hrun, hended, hW, hsame⟩ := X0.leave (v := some (.int (-1 : Int32))) (fun h => by rw [Bd.returns] at h; cases h)
            refine ⟨_, _, pre0 _ (c1 _ (c25 _ (c26 _ (c29 _ (c30 _ (c33 _ (?_))))))), hrun, hended, _, _, rfl, ?_, ⟨_, rfl⟩, hW, hsame.mono (by decide) (by decide)⟩
            · show Steps p.tables e below (s₁.setTop (mkF m 46 #[.val (.long q0), .second, .val (.long q1), .second, .val (.long q2), .second, .val (.int p3), .val (.long q4), .second] [(.int (-1 : Int32))])) _
              exact retI X0 hx Bd.returns (hb hby d8_46) hr
            · show Q8 Z q0 q1 q2 p3 q4 h0 n0 _ s₁.heap _
              rw [e0]
              exact ⟨congrArg (fun z => some (Value.int z)) (show (-1 : Int32) = (own_rf p3 q0 q1 q2 q4) from by unfold own_rf; rw [if_neg (fun k => hc2 k.1), if_neg (fun k => hc24 k.2), if_neg (fun k => hc40 k.2)]), N0, rfl⟩
        · -- it isn't
          have c35 : ∀ t, Steps p.tables e below (s₁.setTop (mkF m 46 #[.val (.long q0), .second, .val (.long q1), .second, .val (.long q2), .second, .val (.int p3), .val (.long q4), .second] [(.int (-1 : Int32))])) t → Steps p.tables e below (s₁.setTop (mkF m 32 #[.val (.long q0), .second, .val (.long q1), .second, .val (.long q2), .second, .val (.int p3), .val (.long q4), .second] [(.int (2 : Int32)), (.int p3)])) t := by
            intro t kt
            show Steps p.tables e below (s₁.setTop (mkF m 32 #[.val (.long q0), .second, .val (.long q1), .second, .val (.long q2), .second, .val (.int p3), .val (.long q4), .second] [(.int (2 : Int32)), (.int p3)])) _
            refine XS.icmpYes X0.here hx rfl (pc0 := 32) (pc' := 45) rfl (hb hby d8_32) rfl (flt hc32).2.2.2 (by decide) (by decide) ?_
            show Steps p.tables e below (s₁.setTop (mkF m 45 #[.val (.long q0), .second, .val (.long q1), .second, .val (.long q2), .second, .val (.int p3), .val (.long q4), .second] [])) _
            refine XS.iconst X0.here hx rfl (hb hby d8_45) ?_
            exact kt
          obtain ⟨fs, hr, hrun, hended, hW, hsame⟩ := X0.leave (v := some (.int (-1 : Int32))) (fun h => by rw [Bd.returns] at h; cases h)
          refine ⟨_, _, pre0 _ (c1 _ (c25 _ (c26 _ (c29 _ (c35 _ (?_)))))), hrun, hended, _, _, rfl, ?_, ⟨_, rfl⟩, hW, hsame.mono (by decide) (by decide)⟩
          · show Steps p.tables e below (s₁.setTop (mkF m 46 #[.val (.long q0), .second, .val (.long q1), .second, .val (.long q2), .second, .val (.int p3), .val (.long q4), .second] [(.int (-1 : Int32))])) _
            exact retI X0 hx Bd.returns (hb hby d8_46) hr
          · show Q8 Z q0 q1 q2 p3 q4 h0 n0 _ s₁.heap _
            rw [e0]
            exact ⟨congrArg (fun z => some (Value.int z)) (show (-1 : Int32) = (own_rf p3 q0 q1 q2 q4) from by unfold own_rf; rw [if_neg (fun k => hc2 k.1), if_neg (fun k => hc24 k.2), if_neg (fun k => hc32 k.1)]), N0, rfl⟩
    · -- it isn't
      have c37 : ∀ t, Steps p.tables e below (s₁.setTop (mkF m 32 #[.val (.long q0), .second, .val (.long q1), .second, .val (.long q2), .second, .val (.int p3), .val (.long q4), .second] [(.int (2 : Int32)), (.int p3)])) t → Steps p.tables e below (s₁.setTop (mkF m 17 #[.val (.long q0), .second, .val (.long q1), .second, .val (.long q2), .second, .val (.int p3), .val (.long q4), .second] [(.int (1 : Int32)), (.int p3)])) t := by
        intro t kt
        show Steps p.tables e below (s₁.setTop (mkF m 17 #[.val (.long q0), .second, .val (.long q1), .second, .val (.long q2), .second, .val (.int p3), .val (.long q4), .second] [(.int (1 : Int32)), (.int p3)])) _
        refine XS.icmpYes X0.here hx rfl (pc0 := 17) (pc' := 29) rfl (hb hby d8_17) rfl (flt hc17).2.2.2 (by decide) (by decide) ?_
        show Steps p.tables e below (s₁.setTop (mkF m 29 #[.val (.long q0), .second, .val (.long q1), .second, .val (.long q2), .second, .val (.int p3), .val (.long q4), .second] [])) _
        refine XS.iload X0.here hx rfl (hb hby d8_29) rfl ?_
        show Steps p.tables e below (s₁.setTop (mkF m 31 #[.val (.long q0), .second, .val (.long q1), .second, .val (.long q2), .second, .val (.int p3), .val (.long q4), .second] [(.int p3)])) _
        refine XS.iconst X0.here hx rfl (hb hby d8_31) ?_
        exact kt
      by_cases hc32 : (2 : Int32) < p3
      · -- it is
        have c38 : ∀ t, Steps p.tables e below (s₁.setTop (mkF m 40 #[.val (.long q0), .second, .val (.long q1), .second, .val (.long q2), .second, .val (.int p3), .val (.long q4), .second] [(.int (lcmpW q4 q2))])) t → Steps p.tables e below (s₁.setTop (mkF m 32 #[.val (.long q0), .second, .val (.long q1), .second, .val (.long q2), .second, .val (.int p3), .val (.long q4), .second] [(.int (2 : Int32)), (.int p3)])) t := by
          intro t kt
          show Steps p.tables e below (s₁.setTop (mkF m 32 #[.val (.long q0), .second, .val (.long q1), .second, .val (.long q2), .second, .val (.int p3), .val (.long q4), .second] [(.int (2 : Int32)), (.int p3)])) _
          refine XS.icmpNo X0.here hx rfl (hb hby d8_32) rfl (tlt hc32).2.2.2 ?_
          show Steps p.tables e below (s₁.setTop (mkF m 35 #[.val (.long q0), .second, .val (.long q1), .second, .val (.long q2), .second, .val (.int p3), .val (.long q4), .second] [])) _
          refine XS.lload X0.here hx rfl (hb hby d8_35) rfl ?_
          show Steps p.tables e below (s₁.setTop (mkF m 37 #[.val (.long q0), .second, .val (.long q1), .second, .val (.long q2), .second, .val (.int p3), .val (.long q4), .second] [(.long q4)])) _
          refine XS.lload X0.here hx rfl (hb hby d8_37) rfl ?_
          show Steps p.tables e below (s₁.setTop (mkF m 39 #[.val (.long q0), .second, .val (.long q1), .second, .val (.long q2), .second, .val (.int p3), .val (.long q4), .second] [(.long q2), (.long q4)])) _
          refine XS.lcmp X0.here hx rfl (hb hby d8_39) rfl ?_
          exact kt
        by_cases hc40 : q4 = q2
        · -- it is
          have c39 : ∀ t, Steps p.tables e below (s₁.setTop (mkF m 44 #[.val (.long q0), .second, .val (.long q1), .second, .val (.long q2), .second, .val (.int p3), .val (.long q4), .second] [(.int (2 : Int32))])) t → Steps p.tables e below (s₁.setTop (mkF m 40 #[.val (.long q0), .second, .val (.long q1), .second, .val (.long q2), .second, .val (.int p3), .val (.long q4), .second] [(.int (lcmpW q4 q2))])) t := by
            intro t kt
            show Steps p.tables e below (s₁.setTop (mkF m 40 #[.val (.long q0), .second, .val (.long q1), .second, .val (.long q2), .second, .val (.int p3), .val (.long q4), .second] [(.int (lcmpW q4 q2))])) _
            refine XS.ifNo X0.here hx rfl (hb hby d8_40) rfl ((if0 _ _).trans (teq ((lw_eq _ _).mpr hc40)).2) ?_
            show Steps p.tables e below (s₁.setTop (mkF m 43 #[.val (.long q0), .second, .val (.long q1), .second, .val (.long q2), .second, .val (.int p3), .val (.long q4), .second] [])) _
            refine XS.iconst X0.here hx rfl (hb hby d8_43) ?_
            exact kt
          obtain ⟨fs, hr, hrun, hended, hW, hsame⟩ := X0.leave (v := some (.int (2 : Int32))) (fun h => by rw [Bd.returns] at h; cases h)
          refine ⟨_, _, pre0 _ (c1 _ (c25 _ (c37 _ (c38 _ (c39 _ (?_)))))), hrun, hended, _, _, rfl, ?_, ⟨_, rfl⟩, hW, hsame.mono (by decide) (by decide)⟩
          · show Steps p.tables e below (s₁.setTop (mkF m 44 #[.val (.long q0), .second, .val (.long q1), .second, .val (.long q2), .second, .val (.int p3), .val (.long q4), .second] [(.int (2 : Int32))])) _
            exact retI X0 hx Bd.returns (hb hby d8_44) hr
          · show Q8 Z q0 q1 q2 p3 q4 h0 n0 _ s₁.heap _
            rw [e0]
            exact ⟨congrArg (fun z => some (Value.int z)) (show (2 : Int32) = (own_rf p3 q0 q1 q2 q4) from by unfold own_rf; rw [if_neg (fun k => hc2 k.1), if_neg (fun k => hc17 k.1), if_pos ⟨hc32, hc40⟩]), N0, rfl⟩
        · -- it isn't
          have c41 : ∀ t, Steps p.tables e below (s₁.setTop (mkF m 46 #[.val (.long q0), .second, .val (.long q1), .second, .val (.long q2), .second, .val (.int p3), .val (.long q4), .second] [(.int (-1 : Int32))])) t → Steps p.tables e below (s₁.setTop (mkF m 40 #[.val (.long q0), .second, .val (.long q1), .second, .val (.long q2), .second, .val (.int p3), .val (.long q4), .second] [(.int (lcmpW q4 q2))])) t := by
            intro t kt
            show Steps p.tables e below (s₁.setTop (mkF m 40 #[.val (.long q0), .second, .val (.long q1), .second, .val (.long q2), .second, .val (.int p3), .val (.long q4), .second] [(.int (lcmpW q4 q2))])) _
            refine XS.ifYes X0.here hx rfl (pc0 := 40) (pc' := 45) rfl (hb hby d8_40) rfl ((if0 _ _).trans (feq (fun q => hc40 ((lw_eq _ _).mp q))).2) (by decide) (by decide) ?_
            show Steps p.tables e below (s₁.setTop (mkF m 45 #[.val (.long q0), .second, .val (.long q1), .second, .val (.long q2), .second, .val (.int p3), .val (.long q4), .second] [])) _
            refine XS.iconst X0.here hx rfl (hb hby d8_45) ?_
            exact kt
          obtain ⟨fs, hr, hrun, hended, hW, hsame⟩ := X0.leave (v := some (.int (-1 : Int32))) (fun h => by rw [Bd.returns] at h; cases h)
          refine ⟨_, _, pre0 _ (c1 _ (c25 _ (c37 _ (c38 _ (c41 _ (?_)))))), hrun, hended, _, _, rfl, ?_, ⟨_, rfl⟩, hW, hsame.mono (by decide) (by decide)⟩
          · show Steps p.tables e below (s₁.setTop (mkF m 46 #[.val (.long q0), .second, .val (.long q1), .second, .val (.long q2), .second, .val (.int p3), .val (.long q4), .second] [(.int (-1 : Int32))])) _
            exact retI X0 hx Bd.returns (hb hby d8_46) hr
          · show Q8 Z q0 q1 q2 p3 q4 h0 n0 _ s₁.heap _
            rw [e0]
            exact ⟨congrArg (fun z => some (Value.int z)) (show (-1 : Int32) = (own_rf p3 q0 q1 q2 q4) from by unfold own_rf; rw [if_neg (fun k => hc2 k.1), if_neg (fun k => hc17 k.1), if_neg (fun k => hc40 k.2)]), N0, rfl⟩
      · -- it isn't
        have c43 : ∀ t, Steps p.tables e below (s₁.setTop (mkF m 46 #[.val (.long q0), .second, .val (.long q1), .second, .val (.long q2), .second, .val (.int p3), .val (.long q4), .second] [(.int (-1 : Int32))])) t → Steps p.tables e below (s₁.setTop (mkF m 32 #[.val (.long q0), .second, .val (.long q1), .second, .val (.long q2), .second, .val (.int p3), .val (.long q4), .second] [(.int (2 : Int32)), (.int p3)])) t := by
          intro t kt
          show Steps p.tables e below (s₁.setTop (mkF m 32 #[.val (.long q0), .second, .val (.long q1), .second, .val (.long q2), .second, .val (.int p3), .val (.long q4), .second] [(.int (2 : Int32)), (.int p3)])) _
          refine XS.icmpYes X0.here hx rfl (pc0 := 32) (pc' := 45) rfl (hb hby d8_32) rfl (flt hc32).2.2.2 (by decide) (by decide) ?_
          show Steps p.tables e below (s₁.setTop (mkF m 45 #[.val (.long q0), .second, .val (.long q1), .second, .val (.long q2), .second, .val (.int p3), .val (.long q4), .second] [])) _
          refine XS.iconst X0.here hx rfl (hb hby d8_45) ?_
          exact kt
        obtain ⟨fs, hr, hrun, hended, hW, hsame⟩ := X0.leave (v := some (.int (-1 : Int32))) (fun h => by rw [Bd.returns] at h; cases h)
        refine ⟨_, _, pre0 _ (c1 _ (c25 _ (c37 _ (c43 _ (?_))))), hrun, hended, _, _, rfl, ?_, ⟨_, rfl⟩, hW, hsame.mono (by decide) (by decide)⟩
        · show Steps p.tables e below (s₁.setTop (mkF m 46 #[.val (.long q0), .second, .val (.long q1), .second, .val (.long q2), .second, .val (.int p3), .val (.long q4), .second] [(.int (-1 : Int32))])) _
          exact retI X0 hx Bd.returns (hb hby d8_46) hr
        · show Q8 Z q0 q1 q2 p3 q4 h0 n0 _ s₁.heap _
          rw [e0]
          exact ⟨congrArg (fun z => some (Value.int z)) (show (-1 : Int32) = (own_rf p3 q0 q1 q2 q4) from by unfold own_rf; rw [if_neg (fun k => hc2 k.1), if_neg (fun k => hc17 k.1), if_neg (fun k => hc32 k.1)]), N0, rfl⟩
theorem d6_0 : decode prog_18_method_4_code 0 = .ok (.lload_n 1, 1) := by decide +kernel
theorem d6_1 : decode prog_18_method_4_code 1 = .ok (.ldc2_w 38, 3) := by decide +kernel
theorem d6_4 : decode prog_18_method_4_code 4 = .ok (.lmul, 1) := by decide +kernel
theorem d6_5 : decode prog_18_method_4_code 5 = .ok (.aload_n 0, 1) := by decide +kernel
theorem d6_6 : decode prog_18_method_4_code 6 = .ok (.getfield 31, 3) := by decide +kernel
theorem d6_9 : decode prog_18_method_4_code 9 = .ok (.lushr, 1) := by decide +kernel
theorem d6_10 : decode prog_18_method_4_code 10 = .ok (.l2i, 1) := by decide +kernel
theorem d6_11 : decode prog_18_method_4_code 11 = .ok (.ireturn, 1) := by decide +kernel
theorem pn_6 : plainName "com/example/mapstone/mapstone/engine/ConceptIndex" = true := by first | (simp [plainName, overriddenIn]; done) | decide +kernel
theorem ef_6 (m : MethodId) (x0 : Addr) (x1 : Int64) : entryFrame m #[(.ref x0), (.long x1)] 3 = mkF m 0 #[.val (.ref x0), .val (.long x1), .second] [] := by first | (simp [entryFrame, mkF, argsToLocals, Value.category]; done) | rfl
def Q6 (Z : State) (r0 : Addr) (q1 : Int64) (sh : Int32) (h0 : Heap) (n0 : Nat) (v : Option Value) (h : Heap) (L : List Loc) : Prop := v = some (.int (own_slot sh q1)) ∧ Fr n0 L ∧ h = h0
set_option maxRecDepth 65536 in
set_option maxHeartbeats 40000000 in
theorem rm6 (l : Launch) (Z : State) (a0 : Array Value) (hw : ∀ d ∈ tables_1, d.before a0 Z = true) (ws : List Jvm.Cond) (r0 : Addr) (q1 : Int64) (sh : Int32) (h0 : Heap) (n0 : Nat) (Z0 : n0 ≤ h0.size) (F_sh : Fld Z h0 r0 "com/example/mapstone/mapstone/engine/ConceptIndex" "shift" "I" (.int sh)) :
    MetFree l (⟨"com/example/mapstone/mapstone/engine/ConceptIndex", "slot", "(J)I"⟩ : MethodName) (head1 (Jvm.Cond.code (⟨"com/example/mapstone/mapstone/engine/ConceptIndex", "slot", "(J)I"⟩ : MethodName) prog_18_method_4_code 3 (some .int) :: ws) ({ frames := 0, cells := 0, slots := 0, locals := 0 } : Room)) (fun a U => a = #[(.ref r0), (.long q1)] ∧ Z.Warmed39 U.vm ∧ U.heap = h0) (fun _ _ _ _ _ => True) (fun _ U o U' => ∃ v L, o = .returned v ∧ Q6 Z r0 q1 sh h0 n0 v U'.heap L ∧ FrameEnd U o U' L ({ frames := 0, cells := 0, slots := 0, locals := 0 } : Room).cells ({ frames := 0, cells := 0, slots := 0, locals := 0 } : Room).slots) := by
  refine MetFree.of_bodySF (plainFor_of_name pn_6) hisR ?_
  intro p e s m args below meth c s₁ Bd hml0 hP hK
  obtain ⟨rfl, hZ, hh⟩ := hP
  have hx := Bd.exec
  have hby := Bd.bytes
  have hml : c.maxLocals = 3 := hml0
  have hown : s.vm.findClass "com/example/mapstone/mapstone/engine/ConceptIndex" = some m.cls := findClass_of_methodNamed Bd.named
  have hnm := (name_of_methodNamed Bd.named Bd.method).1
  have X0 : Stand p l e ({ frames := 0, cells := 0, slots := 0, locals := 0 } : Room) s m #[(.ref r0), (.long q1)] below meth c s₁ [] 0 0 := Stand.of_body Bd
  have e0 : s₁.heap = h0 := by rw [← hh, Bd.state]; rfl
  have N0 := Fr.nil n0
  have pre0 : ∀ t, Steps p.tables e below (s₁.setTop (mkF m 0 #[.val (.ref r0), .val (.long q1), .second] [])) t → Steps p.tables e below (s₁.setTop (entryFrame m #[(.ref r0), (.long q1)] 3)) t := fun t k => castTop (ef_6 m r0 q1) k
  have c2 : ∀ t, Steps p.tables e below (s₁.setTop (mkF m 6 #[.val (.ref r0), .val (.long q1), .second] [(.ref r0), (.long (q1 * (-7046029254386353131 : Int64)))])) t → Steps p.tables e below (s₁.setTop (mkF m 0 #[.val (.ref r0), .val (.long q1), .second] [])) t := by
    intro t kt
    show Steps p.tables e below (s₁.setTop (mkF m 0 #[.val (.ref r0), .val (.long q1), .second] [])) _
    refine XS.lloadN X0.here hx rfl (hb hby d6_0) rfl ?_
    show Steps p.tables e below (s₁.setTop (mkF m 1 #[.val (.ref r0), .val (.long q1), .second] [(.long q1)])) _
    refine X0.ldc2Long hx hown (mvT hZ (hw _ (List.mem_of_getElem? (i := 35) rfl))) (g := (mkF m 1 #[.val (.ref r0), .val (.long q1), .second] [(.long q1)])) rfl (hb hby d6_1) _ ?_
    show Steps p.tables e below (s₁.setTop (mkF m 4 #[.val (.ref r0), .val (.long q1), .second] [(.long (-7046029254386353131 : Int64)), (.long q1)])) _
    refine XS.lmul X0.here hx rfl (hb hby d6_4) rfl ?_
    show Steps p.tables e below (s₁.setTop (mkF m 5 #[.val (.ref r0), .val (.long q1), .second] [(.long (q1 * (-7046029254386353131 : Int64)))])) _
    refine XS.aloadN X0.here hx rfl (hb hby d6_5) rfl rfl ?_
    exact kt
  obtain ⟨T1, X1, e1, st1⟩ := getF X0 hx hZ hown (host := "") (Or.inl (hw _ (List.mem_of_getElem? (i := 29) rfl))) Via.refl e0 F_sh (g := (mkF m 6 #[.val (.ref r0), .val (.long q1), .second] [(.ref r0), (.long (q1 * (-7046029254386353131 : Int64)))])) rfl rfl (hb hby d6_6)
  have c3 : ∀ t, Steps p.tables e below (T1.setTop (mkF m 11 #[.val (.ref r0), .val (.long q1), .second] [(.int ((((q1 * (-7046029254386353131 : Int64)).toUInt64 >>> (sh &&& 0x3f).toInt64.toUInt64).toInt64).toInt32))])) t → Steps p.tables e below (T1.setTop (mkF m 9 #[.val (.ref r0), .val (.long q1), .second] [(.int sh), (.long (q1 * (-7046029254386353131 : Int64)))])) t := by
    intro t kt
    show Steps p.tables e below (T1.setTop (mkF m 9 #[.val (.ref r0), .val (.long q1), .second] [(.int sh), (.long (q1 * (-7046029254386353131 : Int64)))])) _
    refine XS.lushr X1.here hx rfl (hb hby d6_9) rfl ?_
    show Steps p.tables e below (T1.setTop (mkF m 10 #[.val (.ref r0), .val (.long q1), .second] [(.long (((q1 * (-7046029254386353131 : Int64)).toUInt64 >>> (sh &&& 0x3f).toInt64.toUInt64).toInt64))])) _
    refine XS.l2i X1.here hx rfl (hb hby d6_10) rfl ?_
    exact kt
  obtain ⟨fs, hr, hrun, hended, hW, hsame⟩ := X1.leave (v := some (.int ((((q1 * (-7046029254386353131 : Int64)).toUInt64 >>> (sh &&& 0x3f).toInt64.toUInt64).toInt64).toInt32))) (fun h => by rw [Bd.returns] at h; cases h)
  refine ⟨_, _, pre0 _ (c2 _ (st1 _ (c3 _ (?_)))), hrun, hended, _, _, rfl, ?_, ⟨_, rfl⟩, hW, hsame.mono (by decide) (by decide)⟩
  · show Steps p.tables e below (T1.setTop (mkF m 11 #[.val (.ref r0), .val (.long q1), .second] [(.int ((((q1 * (-7046029254386353131 : Int64)).toUInt64 >>> (sh &&& 0x3f).toInt64.toUInt64).toInt64).toInt32))])) _
    exact retI X1 hx Bd.returns (hb hby d6_11) hr
  · show Q6 Z r0 q1 sh h0 n0 _ T1.heap _
    rw [e1]
    exact ⟨congrArg (fun z => some (Value.int z)) (show ((((q1 * (-7046029254386353131 : Int64)).toUInt64 >>> (sh &&& 0x3f).toInt64.toUInt64).toInt64).toInt32) = (own_slot sh q1) from by rfl), N0, rfl⟩
theorem d5_0 : decode jdk_33_method_47_code 0 = .ok (.iload_n 0, 1) := by decide +kernel
theorem d5_1 : decode jdk_33_method_47_code 1 = .ok (.ifCond .gt 14, 3) := by decide +kernel
theorem d5_15 : decode jdk_33_method_47_code 15 = .ok (.bipush 31, 2) := by decide +kernel
theorem d5_17 : decode jdk_33_method_47_code 17 = .ok (.istore_n 1, 1) := by decide +kernel
theorem d5_18 : decode jdk_33_method_47_code 18 = .ok (.iload_n 0, 1) := by decide +kernel
theorem d5_19 : decode jdk_33_method_47_code 19 = .ok (.ldc_w 264, 3) := by decide +kernel
theorem d5_22 : decode jdk_33_method_47_code 22 = .ok (.if_icmp .lt 11, 3) := by decide +kernel
theorem d5_33 : decode jdk_33_method_47_code 33 = .ok (.iload_n 0, 1) := by decide +kernel
theorem d5_34 : decode jdk_33_method_47_code 34 = .ok (.sipush 256, 3) := by decide +kernel
theorem d5_37 : decode jdk_33_method_47_code 37 = .ok (.if_icmp .lt 11, 3) := by decide +kernel
theorem d5_48 : decode jdk_33_method_47_code 48 = .ok (.iload_n 0, 1) := by decide +kernel
theorem d5_49 : decode jdk_33_method_47_code 49 = .ok (.bipush 16, 2) := by decide +kernel
theorem d5_51 : decode jdk_33_method_47_code 51 = .ok (.if_icmp .lt 10, 3) := by decide +kernel
theorem d5_61 : decode jdk_33_method_47_code 61 = .ok (.iload_n 0, 1) := by decide +kernel
theorem d5_62 : decode jdk_33_method_47_code 62 = .ok (.iconst 4, 1) := by decide +kernel
theorem d5_63 : decode jdk_33_method_47_code 63 = .ok (.if_icmp .lt 10, 3) := by decide +kernel
theorem d5_73 : decode jdk_33_method_47_code 73 = .ok (.iload_n 1, 1) := by decide +kernel
theorem d5_74 : decode jdk_33_method_47_code 74 = .ok (.iload_n 0, 1) := by decide +kernel
theorem d5_75 : decode jdk_33_method_47_code 75 = .ok (.iconst 1, 1) := by decide +kernel
theorem d5_76 : decode jdk_33_method_47_code 76 = .ok (.iushr, 1) := by decide +kernel
theorem d5_77 : decode jdk_33_method_47_code 77 = .ok (.isub, 1) := by decide +kernel
theorem d5_78 : decode jdk_33_method_47_code 78 = .ok (.ireturn, 1) := by decide +kernel
theorem pn_5 : plainName "java/lang/Integer" = true := by first | (simp [plainName, overriddenIn]; done) | decide +kernel
theorem ef_5 (m : MethodId) (x0 : Int32) : entryFrame m #[(.int x0)] 2 = mkF m 0 #[.val (.int x0), .unset] [] := by first | (simp [entryFrame, mkF, argsToLocals, Value.category]; done) | rfl
def Q5_1 (Z : State)  (h0 : Heap) (n0 : Nat) (v : Option Value) (h : Heap) (L : List Loc) : Prop := v = some (.int (31 : Int32)) ∧ Fr n0 L ∧ h = h0
set_option maxRecDepth 65536 in
set_option maxHeartbeats 40000000 in
theorem rm5_1 (l : Launch) (Z : State) (a0 : Array Value) (hw : ∀ d ∈ tables_1, d.before a0 Z = true) (ws : List Jvm.Cond)   (h0 : Heap) (n0 : Nat) (Z0 : n0 ≤ h0.size) :
    MetFree l (⟨"java/lang/Integer", "numberOfLeadingZeros", "(I)I"⟩ : MethodName) (head1 (Jvm.Cond.code (⟨"java/lang/Integer", "numberOfLeadingZeros", "(I)I"⟩ : MethodName) jdk_33_method_47_code 2 (some .int) :: ws) ({ frames := 0, cells := 0, slots := 0, locals := 0 } : Room)) (fun a U => a = #[(.int (1 : Int32))] ∧ Z.Warmed39 U.vm ∧ U.heap = h0) (fun _ _ _ _ _ => True) (fun _ U o U' => ∃ v L, o = .returned v ∧ Q5_1 Z  h0 n0 v U'.heap L ∧ FrameEnd U o U' L ({ frames := 0, cells := 0, slots := 0, locals := 0 } : Room).cells ({ frames := 0, cells := 0, slots := 0, locals := 0 } : Room).slots) := by
  refine MetFree.of_bodySF (plainFor_of_name pn_5) hisR ?_
  intro p e s m args below meth c s₁ Bd hml0 hP hK
  obtain ⟨rfl, hZ, hh⟩ := hP
  have hx := Bd.exec
  have hby := Bd.bytes
  have hml : c.maxLocals = 2 := hml0
  have hown : s.vm.findClass "java/lang/Integer" = some m.cls := findClass_of_methodNamed Bd.named
  have hnm := (name_of_methodNamed Bd.named Bd.method).1
  have X0 : Stand p l e ({ frames := 0, cells := 0, slots := 0, locals := 0 } : Room) s m #[(.int (1 : Int32))] below meth c s₁ [] 0 0 := Stand.of_body Bd
  have e0 : s₁.heap = h0 := by rw [← hh, Bd.state]; rfl
  have N0 := Fr.nil n0
  have pre0 : ∀ t, Steps p.tables e below (s₁.setTop (mkF m 0 #[.val (.int (1 : Int32)), .unset] [])) t → Steps p.tables e below (s₁.setTop (entryFrame m #[(.int (1 : Int32))] 2)) t := fun t k => castTop (ef_5 m (1 : Int32)) k
  have c1 : ∀ t, Steps p.tables e below (s₁.setTop (mkF m 78 #[.val (.int (1 : Int32)), .val (.int (31 : Int32))] [(.int ((31 : Int32) - (((1 : Int32).toUInt32 >>> ((1 : Int32) &&& 31).toUInt32).toInt32)))])) t → Steps p.tables e below (s₁.setTop (mkF m 0 #[.val (.int (1 : Int32)), .unset] [])) t := by
    intro t kt
    show Steps p.tables e below (s₁.setTop (mkF m 0 #[.val (.int (1 : Int32)), .unset] [])) _
    refine XS.iloadN X0.here hx rfl (hb hby d5_0) rfl ?_
    show Steps p.tables e below (s₁.setTop (mkF m 1 #[.val (.int (1 : Int32)), .unset] [(.int (1 : Int32))])) _
    refine XS.ifYes X0.here hx rfl (pc0 := 1) (pc' := 15) rfl (hb hby d5_1) rfl ((if0 _ _).trans (tlt (by decide : (0 : Int32) < (1 : Int32))).2.2.1) (by decide) (by decide) ?_
    show Steps p.tables e below (s₁.setTop (mkF m 15 #[.val (.int (1 : Int32)), .unset] [])) _
    refine XS.bipush X0.here hx rfl (hb hby d5_15) ?_
    show Steps p.tables e below (s₁.setTop (mkF m 17 #[.val (.int (1 : Int32)), .unset] [(.int (31 : Int32))])) _
    refine XS.istoreN X0.here hx rfl (hb hby d5_17) rfl (l' := #[.val (.int (1 : Int32)), .val (.int (31 : Int32))]) rfl ?_
    show Steps p.tables e below (s₁.setTop (mkF m 18 #[.val (.int (1 : Int32)), .val (.int (31 : Int32))] [])) _
    refine XS.iloadN X0.here hx rfl (hb hby d5_18) rfl ?_
    show Steps p.tables e below (s₁.setTop (mkF m 19 #[.val (.int (1 : Int32)), .val (.int (31 : Int32))] [(.int (1 : Int32))])) _
    refine X0.ldcwInt hx hown (mvT hZ (hw _ (List.mem_of_getElem? (i := 25) rfl))) (g := (mkF m 19 #[.val (.int (1 : Int32)), .val (.int (31 : Int32))] [(.int (1 : Int32))])) rfl (hb hby d5_19) _ ?_
    show Steps p.tables e below (s₁.setTop (mkF m 22 #[.val (.int (1 : Int32)), .val (.int (31 : Int32))] [(.int (65536 : Int32)), (.int (1 : Int32))])) _
    refine XS.icmpYes X0.here hx rfl (pc0 := 22) (pc' := 33) rfl (hb hby d5_22) rfl (tlt (by decide : (1 : Int32) < (65536 : Int32))).1 (by decide) (by decide) ?_
    show Steps p.tables e below (s₁.setTop (mkF m 33 #[.val (.int (1 : Int32)), .val (.int (31 : Int32))] [])) _
    refine XS.iloadN X0.here hx rfl (hb hby d5_33) rfl ?_
    show Steps p.tables e below (s₁.setTop (mkF m 34 #[.val (.int (1 : Int32)), .val (.int (31 : Int32))] [(.int (1 : Int32))])) _
    refine XS.sipush X0.here hx rfl (hb hby d5_34) ?_
    show Steps p.tables e below (s₁.setTop (mkF m 37 #[.val (.int (1 : Int32)), .val (.int (31 : Int32))] [(.int (256 : Int32)), (.int (1 : Int32))])) _
    refine XS.icmpYes X0.here hx rfl (pc0 := 37) (pc' := 48) rfl (hb hby d5_37) rfl (tlt (by decide : (1 : Int32) < (256 : Int32))).1 (by decide) (by decide) ?_
    show Steps p.tables e below (s₁.setTop (mkF m 48 #[.val (.int (1 : Int32)), .val (.int (31 : Int32))] [])) _
    refine XS.iloadN X0.here hx rfl (hb hby d5_48) rfl ?_
    show Steps p.tables e below (s₁.setTop (mkF m 49 #[.val (.int (1 : Int32)), .val (.int (31 : Int32))] [(.int (1 : Int32))])) _
    refine XS.bipush X0.here hx rfl (hb hby d5_49) ?_
    show Steps p.tables e below (s₁.setTop (mkF m 51 #[.val (.int (1 : Int32)), .val (.int (31 : Int32))] [(.int (16 : Int32)), (.int (1 : Int32))])) _
    refine XS.icmpYes X0.here hx rfl (pc0 := 51) (pc' := 61) rfl (hb hby d5_51) rfl (tlt (by decide : (1 : Int32) < (16 : Int32))).1 (by decide) (by decide) ?_
    show Steps p.tables e below (s₁.setTop (mkF m 61 #[.val (.int (1 : Int32)), .val (.int (31 : Int32))] [])) _
    refine XS.iloadN X0.here hx rfl (hb hby d5_61) rfl ?_
    show Steps p.tables e below (s₁.setTop (mkF m 62 #[.val (.int (1 : Int32)), .val (.int (31 : Int32))] [(.int (1 : Int32))])) _
    refine XS.iconst X0.here hx rfl (hb hby d5_62) ?_
    show Steps p.tables e below (s₁.setTop (mkF m 63 #[.val (.int (1 : Int32)), .val (.int (31 : Int32))] [(.int (4 : Int32)), (.int (1 : Int32))])) _
    refine XS.icmpYes X0.here hx rfl (pc0 := 63) (pc' := 73) rfl (hb hby d5_63) rfl (tlt (by decide : (1 : Int32) < (4 : Int32))).1 (by decide) (by decide) ?_
    show Steps p.tables e below (s₁.setTop (mkF m 73 #[.val (.int (1 : Int32)), .val (.int (31 : Int32))] [])) _
    refine XS.iloadN X0.here hx rfl (hb hby d5_73) rfl ?_
    show Steps p.tables e below (s₁.setTop (mkF m 74 #[.val (.int (1 : Int32)), .val (.int (31 : Int32))] [(.int (31 : Int32))])) _
    refine XS.iloadN X0.here hx rfl (hb hby d5_74) rfl ?_
    show Steps p.tables e below (s₁.setTop (mkF m 75 #[.val (.int (1 : Int32)), .val (.int (31 : Int32))] [(.int (1 : Int32)), (.int (31 : Int32))])) _
    refine XS.iconst X0.here hx rfl (hb hby d5_75) ?_
    show Steps p.tables e below (s₁.setTop (mkF m 76 #[.val (.int (1 : Int32)), .val (.int (31 : Int32))] [(.int (1 : Int32)), (.int (1 : Int32)), (.int (31 : Int32))])) _
    refine XS.iushr X0.here hx rfl (hb hby d5_76) rfl ?_
    show Steps p.tables e below (s₁.setTop (mkF m 77 #[.val (.int (1 : Int32)), .val (.int (31 : Int32))] [(.int (((1 : Int32).toUInt32 >>> ((1 : Int32) &&& 31).toUInt32).toInt32)), (.int (31 : Int32))])) _
    refine XS.isub X0.here hx rfl (hb hby d5_77) rfl ?_
    exact kt
  obtain ⟨fs, hr, hrun, hended, hW, hsame⟩ := X0.leave (v := some (.int ((31 : Int32) - (((1 : Int32).toUInt32 >>> ((1 : Int32) &&& 31).toUInt32).toInt32)))) (fun h => by rw [Bd.returns] at h; cases h)
  refine ⟨_, _, pre0 _ (c1 _ (?_)), hrun, hended, _, _, rfl, ?_, ⟨_, rfl⟩, hW, hsame.mono (by decide) (by decide)⟩
  · show Steps p.tables e below (s₁.setTop (mkF m 78 #[.val (.int (1 : Int32)), .val (.int (31 : Int32))] [(.int ((31 : Int32) - (((1 : Int32).toUInt32 >>> ((1 : Int32) &&& 31).toUInt32).toInt32)))])) _
    exact retI X0 hx Bd.returns (hb hby d5_78) hr
  · show Q5_1 Z  h0 n0 _ s₁.heap _
    rw [e0]
    exact ⟨congrArg (fun z => some (Value.int z)) (show ((31 : Int32) - (((1 : Int32).toUInt32 >>> ((1 : Int32) &&& 31).toUInt32).toInt32)) = (31 : Int32) from by decide), N0, rfl⟩
def Q5_3 (Z : State)  (h0 : Heap) (n0 : Nat) (v : Option Value) (h : Heap) (L : List Loc) : Prop := v = some (.int (30 : Int32)) ∧ Fr n0 L ∧ h = h0
set_option maxRecDepth 65536 in
set_option maxHeartbeats 40000000 in
theorem rm5_3 (l : Launch) (Z : State) (a0 : Array Value) (hw : ∀ d ∈ tables_1, d.before a0 Z = true) (ws : List Jvm.Cond)   (h0 : Heap) (n0 : Nat) (Z0 : n0 ≤ h0.size) :
    MetFree l (⟨"java/lang/Integer", "numberOfLeadingZeros", "(I)I"⟩ : MethodName) (head1 (Jvm.Cond.code (⟨"java/lang/Integer", "numberOfLeadingZeros", "(I)I"⟩ : MethodName) jdk_33_method_47_code 2 (some .int) :: ws) ({ frames := 0, cells := 0, slots := 0, locals := 0 } : Room)) (fun a U => a = #[(.int (3 : Int32))] ∧ Z.Warmed39 U.vm ∧ U.heap = h0) (fun _ _ _ _ _ => True) (fun _ U o U' => ∃ v L, o = .returned v ∧ Q5_3 Z  h0 n0 v U'.heap L ∧ FrameEnd U o U' L ({ frames := 0, cells := 0, slots := 0, locals := 0 } : Room).cells ({ frames := 0, cells := 0, slots := 0, locals := 0 } : Room).slots) := by
  refine MetFree.of_bodySF (plainFor_of_name pn_5) hisR ?_
  intro p e s m args below meth c s₁ Bd hml0 hP hK
  obtain ⟨rfl, hZ, hh⟩ := hP
  have hx := Bd.exec
  have hby := Bd.bytes
  have hml : c.maxLocals = 2 := hml0
  have hown : s.vm.findClass "java/lang/Integer" = some m.cls := findClass_of_methodNamed Bd.named
  have hnm := (name_of_methodNamed Bd.named Bd.method).1
  have X0 : Stand p l e ({ frames := 0, cells := 0, slots := 0, locals := 0 } : Room) s m #[(.int (3 : Int32))] below meth c s₁ [] 0 0 := Stand.of_body Bd
  have e0 : s₁.heap = h0 := by rw [← hh, Bd.state]; rfl
  have N0 := Fr.nil n0
  have pre0 : ∀ t, Steps p.tables e below (s₁.setTop (mkF m 0 #[.val (.int (3 : Int32)), .unset] [])) t → Steps p.tables e below (s₁.setTop (entryFrame m #[(.int (3 : Int32))] 2)) t := fun t k => castTop (ef_5 m (3 : Int32)) k
  have c1 : ∀ t, Steps p.tables e below (s₁.setTop (mkF m 78 #[.val (.int (3 : Int32)), .val (.int (31 : Int32))] [(.int ((31 : Int32) - (((3 : Int32).toUInt32 >>> ((1 : Int32) &&& 31).toUInt32).toInt32)))])) t → Steps p.tables e below (s₁.setTop (mkF m 0 #[.val (.int (3 : Int32)), .unset] [])) t := by
    intro t kt
    show Steps p.tables e below (s₁.setTop (mkF m 0 #[.val (.int (3 : Int32)), .unset] [])) _
    refine XS.iloadN X0.here hx rfl (hb hby d5_0) rfl ?_
    show Steps p.tables e below (s₁.setTop (mkF m 1 #[.val (.int (3 : Int32)), .unset] [(.int (3 : Int32))])) _
    refine XS.ifYes X0.here hx rfl (pc0 := 1) (pc' := 15) rfl (hb hby d5_1) rfl ((if0 _ _).trans (tlt (by decide : (0 : Int32) < (3 : Int32))).2.2.1) (by decide) (by decide) ?_
    show Steps p.tables e below (s₁.setTop (mkF m 15 #[.val (.int (3 : Int32)), .unset] [])) _
    refine XS.bipush X0.here hx rfl (hb hby d5_15) ?_
    show Steps p.tables e below (s₁.setTop (mkF m 17 #[.val (.int (3 : Int32)), .unset] [(.int (31 : Int32))])) _
    refine XS.istoreN X0.here hx rfl (hb hby d5_17) rfl (l' := #[.val (.int (3 : Int32)), .val (.int (31 : Int32))]) rfl ?_
    show Steps p.tables e below (s₁.setTop (mkF m 18 #[.val (.int (3 : Int32)), .val (.int (31 : Int32))] [])) _
    refine XS.iloadN X0.here hx rfl (hb hby d5_18) rfl ?_
    show Steps p.tables e below (s₁.setTop (mkF m 19 #[.val (.int (3 : Int32)), .val (.int (31 : Int32))] [(.int (3 : Int32))])) _
    refine X0.ldcwInt hx hown (mvT hZ (hw _ (List.mem_of_getElem? (i := 25) rfl))) (g := (mkF m 19 #[.val (.int (3 : Int32)), .val (.int (31 : Int32))] [(.int (3 : Int32))])) rfl (hb hby d5_19) _ ?_
    show Steps p.tables e below (s₁.setTop (mkF m 22 #[.val (.int (3 : Int32)), .val (.int (31 : Int32))] [(.int (65536 : Int32)), (.int (3 : Int32))])) _
    refine XS.icmpYes X0.here hx rfl (pc0 := 22) (pc' := 33) rfl (hb hby d5_22) rfl (tlt (by decide : (3 : Int32) < (65536 : Int32))).1 (by decide) (by decide) ?_
    show Steps p.tables e below (s₁.setTop (mkF m 33 #[.val (.int (3 : Int32)), .val (.int (31 : Int32))] [])) _
    refine XS.iloadN X0.here hx rfl (hb hby d5_33) rfl ?_
    show Steps p.tables e below (s₁.setTop (mkF m 34 #[.val (.int (3 : Int32)), .val (.int (31 : Int32))] [(.int (3 : Int32))])) _
    refine XS.sipush X0.here hx rfl (hb hby d5_34) ?_
    show Steps p.tables e below (s₁.setTop (mkF m 37 #[.val (.int (3 : Int32)), .val (.int (31 : Int32))] [(.int (256 : Int32)), (.int (3 : Int32))])) _
    refine XS.icmpYes X0.here hx rfl (pc0 := 37) (pc' := 48) rfl (hb hby d5_37) rfl (tlt (by decide : (3 : Int32) < (256 : Int32))).1 (by decide) (by decide) ?_
    show Steps p.tables e below (s₁.setTop (mkF m 48 #[.val (.int (3 : Int32)), .val (.int (31 : Int32))] [])) _
    refine XS.iloadN X0.here hx rfl (hb hby d5_48) rfl ?_
    show Steps p.tables e below (s₁.setTop (mkF m 49 #[.val (.int (3 : Int32)), .val (.int (31 : Int32))] [(.int (3 : Int32))])) _
    refine XS.bipush X0.here hx rfl (hb hby d5_49) ?_
    show Steps p.tables e below (s₁.setTop (mkF m 51 #[.val (.int (3 : Int32)), .val (.int (31 : Int32))] [(.int (16 : Int32)), (.int (3 : Int32))])) _
    refine XS.icmpYes X0.here hx rfl (pc0 := 51) (pc' := 61) rfl (hb hby d5_51) rfl (tlt (by decide : (3 : Int32) < (16 : Int32))).1 (by decide) (by decide) ?_
    show Steps p.tables e below (s₁.setTop (mkF m 61 #[.val (.int (3 : Int32)), .val (.int (31 : Int32))] [])) _
    refine XS.iloadN X0.here hx rfl (hb hby d5_61) rfl ?_
    show Steps p.tables e below (s₁.setTop (mkF m 62 #[.val (.int (3 : Int32)), .val (.int (31 : Int32))] [(.int (3 : Int32))])) _
    refine XS.iconst X0.here hx rfl (hb hby d5_62) ?_
    show Steps p.tables e below (s₁.setTop (mkF m 63 #[.val (.int (3 : Int32)), .val (.int (31 : Int32))] [(.int (4 : Int32)), (.int (3 : Int32))])) _
    refine XS.icmpYes X0.here hx rfl (pc0 := 63) (pc' := 73) rfl (hb hby d5_63) rfl (tlt (by decide : (3 : Int32) < (4 : Int32))).1 (by decide) (by decide) ?_
    show Steps p.tables e below (s₁.setTop (mkF m 73 #[.val (.int (3 : Int32)), .val (.int (31 : Int32))] [])) _
    refine XS.iloadN X0.here hx rfl (hb hby d5_73) rfl ?_
    show Steps p.tables e below (s₁.setTop (mkF m 74 #[.val (.int (3 : Int32)), .val (.int (31 : Int32))] [(.int (31 : Int32))])) _
    refine XS.iloadN X0.here hx rfl (hb hby d5_74) rfl ?_
    show Steps p.tables e below (s₁.setTop (mkF m 75 #[.val (.int (3 : Int32)), .val (.int (31 : Int32))] [(.int (3 : Int32)), (.int (31 : Int32))])) _
    refine XS.iconst X0.here hx rfl (hb hby d5_75) ?_
    show Steps p.tables e below (s₁.setTop (mkF m 76 #[.val (.int (3 : Int32)), .val (.int (31 : Int32))] [(.int (1 : Int32)), (.int (3 : Int32)), (.int (31 : Int32))])) _
    refine XS.iushr X0.here hx rfl (hb hby d5_76) rfl ?_
    show Steps p.tables e below (s₁.setTop (mkF m 77 #[.val (.int (3 : Int32)), .val (.int (31 : Int32))] [(.int (((3 : Int32).toUInt32 >>> ((1 : Int32) &&& 31).toUInt32).toInt32)), (.int (31 : Int32))])) _
    refine XS.isub X0.here hx rfl (hb hby d5_77) rfl ?_
    exact kt
  obtain ⟨fs, hr, hrun, hended, hW, hsame⟩ := X0.leave (v := some (.int ((31 : Int32) - (((3 : Int32).toUInt32 >>> ((1 : Int32) &&& 31).toUInt32).toInt32)))) (fun h => by rw [Bd.returns] at h; cases h)
  refine ⟨_, _, pre0 _ (c1 _ (?_)), hrun, hended, _, _, rfl, ?_, ⟨_, rfl⟩, hW, hsame.mono (by decide) (by decide)⟩
  · show Steps p.tables e below (s₁.setTop (mkF m 78 #[.val (.int (3 : Int32)), .val (.int (31 : Int32))] [(.int ((31 : Int32) - (((3 : Int32).toUInt32 >>> ((1 : Int32) &&& 31).toUInt32).toInt32)))])) _
    exact retI X0 hx Bd.returns (hb hby d5_78) hr
  · show Q5_3 Z  h0 n0 _ s₁.heap _
    rw [e0]
    exact ⟨congrArg (fun z => some (Value.int z)) (show ((31 : Int32) - (((3 : Int32).toUInt32 >>> ((1 : Int32) &&& 31).toUInt32).toInt32)) = (30 : Int32) from by decide), N0, rfl⟩
theorem d5_66 : decode jdk_33_method_47_code 66 = .ok (.iinc 1 (-2), 3) := by decide +kernel
theorem d5_69 : decode jdk_33_method_47_code 69 = .ok (.iload_n 0, 1) := by decide +kernel
theorem d5_70 : decode jdk_33_method_47_code 70 = .ok (.iconst 2, 1) := by decide +kernel
theorem d5_71 : decode jdk_33_method_47_code 71 = .ok (.iushr, 1) := by decide +kernel
theorem d5_72 : decode jdk_33_method_47_code 72 = .ok (.istore_n 0, 1) := by decide +kernel
def Q5_5 (Z : State)  (h0 : Heap) (n0 : Nat) (v : Option Value) (h : Heap) (L : List Loc) : Prop := v = some (.int (29 : Int32)) ∧ Fr n0 L ∧ h = h0
set_option maxRecDepth 65536 in
set_option maxHeartbeats 40000000 in
theorem rm5_5 (l : Launch) (Z : State) (a0 : Array Value) (hw : ∀ d ∈ tables_1, d.before a0 Z = true) (ws : List Jvm.Cond)   (h0 : Heap) (n0 : Nat) (Z0 : n0 ≤ h0.size) :
    MetFree l (⟨"java/lang/Integer", "numberOfLeadingZeros", "(I)I"⟩ : MethodName) (head1 (Jvm.Cond.code (⟨"java/lang/Integer", "numberOfLeadingZeros", "(I)I"⟩ : MethodName) jdk_33_method_47_code 2 (some .int) :: ws) ({ frames := 0, cells := 0, slots := 0, locals := 0 } : Room)) (fun a U => a = #[(.int (5 : Int32))] ∧ Z.Warmed39 U.vm ∧ U.heap = h0) (fun _ _ _ _ _ => True) (fun _ U o U' => ∃ v L, o = .returned v ∧ Q5_5 Z  h0 n0 v U'.heap L ∧ FrameEnd U o U' L ({ frames := 0, cells := 0, slots := 0, locals := 0 } : Room).cells ({ frames := 0, cells := 0, slots := 0, locals := 0 } : Room).slots) := by
  refine MetFree.of_bodySF (plainFor_of_name pn_5) hisR ?_
  intro p e s m args below meth c s₁ Bd hml0 hP hK
  obtain ⟨rfl, hZ, hh⟩ := hP
  have hx := Bd.exec
  have hby := Bd.bytes
  have hml : c.maxLocals = 2 := hml0
  have hown : s.vm.findClass "java/lang/Integer" = some m.cls := findClass_of_methodNamed Bd.named
  have hnm := (name_of_methodNamed Bd.named Bd.method).1
  have X0 : Stand p l e ({ frames := 0, cells := 0, slots := 0, locals := 0 } : Room) s m #[(.int (5 : Int32))] below meth c s₁ [] 0 0 := Stand.of_body Bd
  have e0 : s₁.heap = h0 := by rw [← hh, Bd.state]; rfl
  have N0 := Fr.nil n0
  have pre0 : ∀ t, Steps p.tables e below (s₁.setTop (mkF m 0 #[.val (.int (5 : Int32)), .unset] [])) t → Steps p.tables e below (s₁.setTop (entryFrame m #[(.int (5 : Int32))] 2)) t := fun t k => castTop (ef_5 m (5 : Int32)) k
  have c1 : ∀ t, Steps p.tables e below (s₁.setTop (mkF m 78 #[.val (.int (((5 : Int32).toUInt32 >>> ((2 : Int32) &&& 31).toUInt32).toInt32)), .val (.int ((31 : Int32) + (-2 : Int32)))] [(.int (((31 : Int32) + (-2 : Int32)) - (((((5 : Int32).toUInt32 >>> ((2 : Int32) &&& 31).toUInt32).toInt32).toUInt32 >>> ((1 : Int32) &&& 31).toUInt32).toInt32)))])) t → Steps p.tables e below (s₁.setTop (mkF m 0 #[.val (.int (5 : Int32)), .unset] [])) t := by
    intro t kt
    show Steps p.tables e below (s₁.setTop (mkF m 0 #[.val (.int (5 : Int32)), .unset] [])) _
    refine XS.iloadN X0.here hx rfl (hb hby d5_0) rfl ?_
    show Steps p.tables e below (s₁.setTop (mkF m 1 #[.val (.int (5 : Int32)), .unset] [(.int (5 : Int32))])) _
    refine XS.ifYes X0.here hx rfl (pc0 := 1) (pc' := 15) rfl (hb hby d5_1) rfl ((if0 _ _).trans (tlt (by decide : (0 : Int32) < (5 : Int32))).2.2.1) (by decide) (by decide) ?_
    show Steps p.tables e below (s₁.setTop (mkF m 15 #[.val (.int (5 : Int32)), .unset] [])) _
    refine XS.bipush X0.here hx rfl (hb hby d5_15) ?_
    show Steps p.tables e below (s₁.setTop (mkF m 17 #[.val (.int (5 : Int32)), .unset] [(.int (31 : Int32))])) _
    refine XS.istoreN X0.here hx rfl (hb hby d5_17) rfl (l' := #[.val (.int (5 : Int32)), .val (.int (31 : Int32))]) rfl ?_
    show Steps p.tables e below (s₁.setTop (mkF m 18 #[.val (.int (5 : Int32)), .val (.int (31 : Int32))] [])) _
    refine XS.iloadN X0.here hx rfl (hb hby d5_18) rfl ?_
    show Steps p.tables e below (s₁.setTop (mkF m 19 #[.val (.int (5 : Int32)), .val (.int (31 : Int32))] [(.int (5 : Int32))])) _
    refine X0.ldcwInt hx hown (mvT hZ (hw _ (List.mem_of_getElem? (i := 25) rfl))) (g := (mkF m 19 #[.val (.int (5 : Int32)), .val (.int (31 : Int32))] [(.int (5 : Int32))])) rfl (hb hby d5_19) _ ?_
    show Steps p.tables e below (s₁.setTop (mkF m 22 #[.val (.int (5 : Int32)), .val (.int (31 : Int32))] [(.int (65536 : Int32)), (.int (5 : Int32))])) _
    refine XS.icmpYes X0.here hx rfl (pc0 := 22) (pc' := 33) rfl (hb hby d5_22) rfl (tlt (by decide : (5 : Int32) < (65536 : Int32))).1 (by decide) (by decide) ?_
    show Steps p.tables e below (s₁.setTop (mkF m 33 #[.val (.int (5 : Int32)), .val (.int (31 : Int32))] [])) _
    refine XS.iloadN X0.here hx rfl (hb hby d5_33) rfl ?_
    show Steps p.tables e below (s₁.setTop (mkF m 34 #[.val (.int (5 : Int32)), .val (.int (31 : Int32))] [(.int (5 : Int32))])) _
    refine XS.sipush X0.here hx rfl (hb hby d5_34) ?_
    show Steps p.tables e below (s₁.setTop (mkF m 37 #[.val (.int (5 : Int32)), .val (.int (31 : Int32))] [(.int (256 : Int32)), (.int (5 : Int32))])) _
    refine XS.icmpYes X0.here hx rfl (pc0 := 37) (pc' := 48) rfl (hb hby d5_37) rfl (tlt (by decide : (5 : Int32) < (256 : Int32))).1 (by decide) (by decide) ?_
    show Steps p.tables e below (s₁.setTop (mkF m 48 #[.val (.int (5 : Int32)), .val (.int (31 : Int32))] [])) _
    refine XS.iloadN X0.here hx rfl (hb hby d5_48) rfl ?_
    show Steps p.tables e below (s₁.setTop (mkF m 49 #[.val (.int (5 : Int32)), .val (.int (31 : Int32))] [(.int (5 : Int32))])) _
    refine XS.bipush X0.here hx rfl (hb hby d5_49) ?_
    show Steps p.tables e below (s₁.setTop (mkF m 51 #[.val (.int (5 : Int32)), .val (.int (31 : Int32))] [(.int (16 : Int32)), (.int (5 : Int32))])) _
    refine XS.icmpYes X0.here hx rfl (pc0 := 51) (pc' := 61) rfl (hb hby d5_51) rfl (tlt (by decide : (5 : Int32) < (16 : Int32))).1 (by decide) (by decide) ?_
    show Steps p.tables e below (s₁.setTop (mkF m 61 #[.val (.int (5 : Int32)), .val (.int (31 : Int32))] [])) _
    refine XS.iloadN X0.here hx rfl (hb hby d5_61) rfl ?_
    show Steps p.tables e below (s₁.setTop (mkF m 62 #[.val (.int (5 : Int32)), .val (.int (31 : Int32))] [(.int (5 : Int32))])) _
    refine XS.iconst X0.here hx rfl (hb hby d5_62) ?_
    show Steps p.tables e below (s₁.setTop (mkF m 63 #[.val (.int (5 : Int32)), .val (.int (31 : Int32))] [(.int (4 : Int32)), (.int (5 : Int32))])) _
    refine XS.icmpNo X0.here hx rfl (hb hby d5_63) rfl (flt (by decide : ¬ ((5 : Int32) < (4 : Int32)))).1 ?_
    show Steps p.tables e below (s₁.setTop (mkF m 66 #[.val (.int (5 : Int32)), .val (.int (31 : Int32))] [])) _
    refine XS.iinc X0.here hx rfl (hb hby d5_66) rfl (l' := #[.val (.int (5 : Int32)), .val (.int ((31 : Int32) + (-2 : Int32)))]) rfl ?_
    show Steps p.tables e below (s₁.setTop (mkF m 69 #[.val (.int (5 : Int32)), .val (.int ((31 : Int32) + (-2 : Int32)))] [])) _
    refine XS.iloadN X0.here hx rfl (hb hby d5_69) rfl ?_
    show Steps p.tables e below (s₁.setTop (mkF m 70 #[.val (.int (5 : Int32)), .val (.int ((31 : Int32) + (-2 : Int32)))] [(.int (5 : Int32))])) _
    refine XS.iconst X0.here hx rfl (hb hby d5_70) ?_
    show Steps p.tables e below (s₁.setTop (mkF m 71 #[.val (.int (5 : Int32)), .val (.int ((31 : Int32) + (-2 : Int32)))] [(.int (2 : Int32)), (.int (5 : Int32))])) _
    refine XS.iushr X0.here hx rfl (hb hby d5_71) rfl ?_
    show Steps p.tables e below (s₁.setTop (mkF m 72 #[.val (.int (5 : Int32)), .val (.int ((31 : Int32) + (-2 : Int32)))] [(.int (((5 : Int32).toUInt32 >>> ((2 : Int32) &&& 31).toUInt32).toInt32))])) _
    refine XS.istoreN X0.here hx rfl (hb hby d5_72) rfl (l' := #[.val (.int (((5 : Int32).toUInt32 >>> ((2 : Int32) &&& 31).toUInt32).toInt32)), .val (.int ((31 : Int32) + (-2 : Int32)))]) rfl ?_
    show Steps p.tables e below (s₁.setTop (mkF m 73 #[.val (.int (((5 : Int32).toUInt32 >>> ((2 : Int32) &&& 31).toUInt32).toInt32)), .val (.int ((31 : Int32) + (-2 : Int32)))] [])) _
    refine XS.iloadN X0.here hx rfl (hb hby d5_73) rfl ?_
    show Steps p.tables e below (s₁.setTop (mkF m 74 #[.val (.int (((5 : Int32).toUInt32 >>> ((2 : Int32) &&& 31).toUInt32).toInt32)), .val (.int ((31 : Int32) + (-2 : Int32)))] [(.int ((31 : Int32) + (-2 : Int32)))])) _
    refine XS.iloadN X0.here hx rfl (hb hby d5_74) rfl ?_
    show Steps p.tables e below (s₁.setTop (mkF m 75 #[.val (.int (((5 : Int32).toUInt32 >>> ((2 : Int32) &&& 31).toUInt32).toInt32)), .val (.int ((31 : Int32) + (-2 : Int32)))] [(.int (((5 : Int32).toUInt32 >>> ((2 : Int32) &&& 31).toUInt32).toInt32)), (.int ((31 : Int32) + (-2 : Int32)))])) _
    refine XS.iconst X0.here hx rfl (hb hby d5_75) ?_
    show Steps p.tables e below (s₁.setTop (mkF m 76 #[.val (.int (((5 : Int32).toUInt32 >>> ((2 : Int32) &&& 31).toUInt32).toInt32)), .val (.int ((31 : Int32) + (-2 : Int32)))] [(.int (1 : Int32)), (.int (((5 : Int32).toUInt32 >>> ((2 : Int32) &&& 31).toUInt32).toInt32)), (.int ((31 : Int32) + (-2 : Int32)))])) _
    refine XS.iushr X0.here hx rfl (hb hby d5_76) rfl ?_
    show Steps p.tables e below (s₁.setTop (mkF m 77 #[.val (.int (((5 : Int32).toUInt32 >>> ((2 : Int32) &&& 31).toUInt32).toInt32)), .val (.int ((31 : Int32) + (-2 : Int32)))] [(.int (((((5 : Int32).toUInt32 >>> ((2 : Int32) &&& 31).toUInt32).toInt32).toUInt32 >>> ((1 : Int32) &&& 31).toUInt32).toInt32)), (.int ((31 : Int32) + (-2 : Int32)))])) _
    refine XS.isub X0.here hx rfl (hb hby d5_77) rfl ?_
    exact kt
  obtain ⟨fs, hr, hrun, hended, hW, hsame⟩ := X0.leave (v := some (.int (((31 : Int32) + (-2 : Int32)) - (((((5 : Int32).toUInt32 >>> ((2 : Int32) &&& 31).toUInt32).toInt32).toUInt32 >>> ((1 : Int32) &&& 31).toUInt32).toInt32)))) (fun h => by rw [Bd.returns] at h; cases h)
  refine ⟨_, _, pre0 _ (c1 _ (?_)), hrun, hended, _, _, rfl, ?_, ⟨_, rfl⟩, hW, hsame.mono (by decide) (by decide)⟩
  · show Steps p.tables e below (s₁.setTop (mkF m 78 #[.val (.int (((5 : Int32).toUInt32 >>> ((2 : Int32) &&& 31).toUInt32).toInt32)), .val (.int ((31 : Int32) + (-2 : Int32)))] [(.int (((31 : Int32) + (-2 : Int32)) - (((((5 : Int32).toUInt32 >>> ((2 : Int32) &&& 31).toUInt32).toInt32).toUInt32 >>> ((1 : Int32) &&& 31).toUInt32).toInt32)))])) _
    exact retI X0 hx Bd.returns (hb hby d5_78) hr
  · show Q5_5 Z  h0 n0 _ s₁.heap _
    rw [e0]
    exact ⟨congrArg (fun z => some (Value.int z)) (show (((31 : Int32) + (-2 : Int32)) - (((((5 : Int32).toUInt32 >>> ((2 : Int32) &&& 31).toUInt32).toInt32).toUInt32 >>> ((1 : Int32) &&& 31).toUInt32).toInt32)) = (29 : Int32) from by decide), N0, rfl⟩
theorem d4_0 : decode jdk_35_method_48_code 0 = .ok (.lload_n 0, 1) := by decide +kernel
theorem d4_1 : decode jdk_35_method_48_code 1 = .ok (.bipush 32, 2) := by decide +kernel
theorem d4_3 : decode jdk_35_method_48_code 3 = .ok (.lushr, 1) := by decide +kernel
theorem d4_4 : decode jdk_35_method_48_code 4 = .ok (.l2i, 1) := by decide +kernel
theorem d4_5 : decode jdk_35_method_48_code 5 = .ok (.istore_n 2, 1) := by decide +kernel
theorem d4_6 : decode jdk_35_method_48_code 6 = .ok (.iload_n 2, 1) := by decide +kernel
theorem d4_7 : decode jdk_35_method_48_code 7 = .ok (.ifCond .ne 14, 3) := by decide +kernel
theorem d4_10 : decode jdk_35_method_48_code 10 = .ok (.bipush 32, 2) := by decide +kernel
theorem d4_12 : decode jdk_35_method_48_code 12 = .ok (.lload_n 0, 1) := by decide +kernel
theorem d4_13 : decode jdk_35_method_48_code 13 = .ok (.l2i, 1) := by decide +kernel
theorem d4_14 : decode jdk_35_method_48_code 14 = .ok (.invokestatic 308, 3) := by decide +kernel
theorem d4_17 : decode jdk_35_method_48_code 17 = .ok (.iadd, 1) := by decide +kernel
theorem d4_18 : decode jdk_35_method_48_code 18 = .ok (.goto 7, 3) := by decide +kernel
theorem d4_25 : decode jdk_35_method_48_code 25 = .ok (.ireturn, 1) := by decide +kernel
theorem pn_4 : plainName "java/lang/Long" = true := by first | (simp [plainName, overriddenIn]; done) | decide +kernel
theorem ef_4 (m : MethodId) (x0 : Int64) : entryFrame m #[(.long x0)] 3 = mkF m 0 #[.val (.long x0), .second, .unset] [] := by first | (simp [entryFrame, mkF, argsToLocals, Value.category]; done) | rfl
def Q4_1 (Z : State)  (h0 : Heap) (n0 : Nat) (v : Option Value) (h : Heap) (L : List Loc) : Prop := v = some (.int (63 : Int32)) ∧ Fr n0 L ∧ h = h0
set_option maxRecDepth 65536 in
set_option maxHeartbeats 40000000 in
theorem rm4_1 (l : Launch) (Z : State) (a0 : Array Value) (hw : ∀ d ∈ tables_1, d.before a0 Z = true) (ws : List Jvm.Cond)   (h0 : Heap) (n0 : Nat) (Z0 : n0 ≤ h0.size) :
    MetFree l (⟨"java/lang/Long", "numberOfLeadingZeros", "(J)I"⟩ : MethodName) (head1 (Jvm.Cond.code (⟨"java/lang/Long", "numberOfLeadingZeros", "(J)I"⟩ : MethodName) jdk_35_method_48_code 3 (some .int) :: ws) ({ frames := 1, cells := 0, slots := 0, locals := 14 } : Room)) (fun a U => a = #[(.long (1 : Int64))] ∧ Z.Warmed39 U.vm ∧ U.heap = h0) (fun _ _ _ _ _ => True) (fun _ U o U' => ∃ v L, o = .returned v ∧ Q4_1 Z  h0 n0 v U'.heap L ∧ FrameEnd U o U' L ({ frames := 1, cells := 0, slots := 0, locals := 14 } : Room).cells ({ frames := 1, cells := 0, slots := 0, locals := 14 } : Room).slots) := by
  refine MetFree.of_bodySF (plainFor_of_name pn_4) hisR ?_
  intro p e s m args below meth c s₁ Bd hml0 hP hK
  obtain ⟨rfl, hZ, hh⟩ := hP
  have hx := Bd.exec
  have hby := Bd.bytes
  have hml : c.maxLocals = 3 := hml0
  have hown : s.vm.findClass "java/lang/Long" = some m.cls := findClass_of_methodNamed Bd.named
  have hnm := (name_of_methodNamed Bd.named Bd.method).1
  have X0 : Stand p l e ({ frames := 1, cells := 0, slots := 0, locals := 14 } : Room) s m #[(.long (1 : Int64))] below meth c s₁ [] 0 0 := Stand.of_body Bd
  have e0 : s₁.heap = h0 := by rw [← hh, Bd.state]; rfl
  have N0 := Fr.nil n0
  have pre0 : ∀ t, Steps p.tables e below (s₁.setTop (mkF m 0 #[.val (.long (1 : Int64)), .second, .unset] [])) t → Steps p.tables e below (s₁.setTop (entryFrame m #[(.long (1 : Int64))] 3)) t := fun t k => castTop (ef_4 m (1 : Int64)) k
  have c1 : ∀ t, Steps p.tables e below (s₁.setTop (mkF m 14 #[.val (.long (1 : Int64)), .second, .val (.int ((((1 : Int64).toUInt64 >>> ((32 : Int32) &&& 0x3f).toInt64.toUInt64).toInt64).toInt32))] [(.int ((1 : Int64).toInt32)), (.int (32 : Int32))])) t → Steps p.tables e below (s₁.setTop (mkF m 0 #[.val (.long (1 : Int64)), .second, .unset] [])) t := by
    intro t kt
    show Steps p.tables e below (s₁.setTop (mkF m 0 #[.val (.long (1 : Int64)), .second, .unset] [])) _
    refine XS.lloadN X0.here hx rfl (hb hby d4_0) rfl ?_
    show Steps p.tables e below (s₁.setTop (mkF m 1 #[.val (.long (1 : Int64)), .second, .unset] [(.long (1 : Int64))])) _
    refine XS.bipush X0.here hx rfl (hb hby d4_1) ?_
    show Steps p.tables e below (s₁.setTop (mkF m 3 #[.val (.long (1 : Int64)), .second, .unset] [(.int (32 : Int32)), (.long (1 : Int64))])) _
    refine XS.lushr X0.here hx rfl (hb hby d4_3) rfl ?_
    show Steps p.tables e below (s₁.setTop (mkF m 4 #[.val (.long (1 : Int64)), .second, .unset] [(.long (((1 : Int64).toUInt64 >>> ((32 : Int32) &&& 0x3f).toInt64.toUInt64).toInt64))])) _
    refine XS.l2i X0.here hx rfl (hb hby d4_4) rfl ?_
    show Steps p.tables e below (s₁.setTop (mkF m 5 #[.val (.long (1 : Int64)), .second, .unset] [(.int ((((1 : Int64).toUInt64 >>> ((32 : Int32) &&& 0x3f).toInt64.toUInt64).toInt64).toInt32))])) _
    refine XS.istoreN X0.here hx rfl (hb hby d4_5) rfl (l' := #[.val (.long (1 : Int64)), .second, .val (.int ((((1 : Int64).toUInt64 >>> ((32 : Int32) &&& 0x3f).toInt64.toUInt64).toInt64).toInt32))]) rfl ?_
    show Steps p.tables e below (s₁.setTop (mkF m 6 #[.val (.long (1 : Int64)), .second, .val (.int ((((1 : Int64).toUInt64 >>> ((32 : Int32) &&& 0x3f).toInt64.toUInt64).toInt64).toInt32))] [])) _
    refine XS.iloadN X0.here hx rfl (hb hby d4_6) rfl ?_
    show Steps p.tables e below (s₁.setTop (mkF m 7 #[.val (.long (1 : Int64)), .second, .val (.int ((((1 : Int64).toUInt64 >>> ((32 : Int32) &&& 0x3f).toInt64.toUInt64).toInt64).toInt32))] [(.int ((((1 : Int64).toUInt64 >>> ((32 : Int32) &&& 0x3f).toInt64.toUInt64).toInt64).toInt32))])) _
    refine XS.ifNo X0.here hx rfl (hb hby d4_7) rfl ((if0 _ _).trans (teq (by decide : ((((1 : Int64).toUInt64 >>> ((32 : Int32) &&& 0x3f).toInt64.toUInt64).toInt64).toInt32) = (0 : Int32))).2) ?_
    show Steps p.tables e below (s₁.setTop (mkF m 10 #[.val (.long (1 : Int64)), .second, .val (.int ((((1 : Int64).toUInt64 >>> ((32 : Int32) &&& 0x3f).toInt64.toUInt64).toInt64).toInt32))] [])) _
    refine XS.bipush X0.here hx rfl (hb hby d4_10) ?_
    show Steps p.tables e below (s₁.setTop (mkF m 12 #[.val (.long (1 : Int64)), .second, .val (.int ((((1 : Int64).toUInt64 >>> ((32 : Int32) &&& 0x3f).toInt64.toUInt64).toInt64).toInt32))] [(.int (32 : Int32))])) _
    refine XS.lloadN X0.here hx rfl (hb hby d4_12) rfl ?_
    show Steps p.tables e below (s₁.setTop (mkF m 13 #[.val (.long (1 : Int64)), .second, .val (.int ((((1 : Int64).toUInt64 >>> ((32 : Int32) &&& 0x3f).toInt64.toUInt64).toInt64).toInt32))] [(.long (1 : Int64)), (.int (32 : Int32))])) _
    refine XS.l2i X0.here hx rfl (hb hby d4_13) rfl ?_
    exact kt
  have c2 : ∀ t, Steps p.tables e below (s₁.setTop (mkF m 14 #[.val (.long (1 : Int64)), .second, .val (.int (0 : Int32))] [(.int ((1 : Int64).toInt32)), (.int (32 : Int32))])) t → Steps p.tables e below (s₁.setTop (mkF m 14 #[.val (.long (1 : Int64)), .second, .val (.int ((((1 : Int64).toUInt64 >>> ((32 : Int32) &&& 0x3f).toInt64.toUInt64).toInt64).toInt32))] [(.int ((1 : Int64).toInt32)), (.int (32 : Int32))])) t := fun t kt => castTop (congrArg (fun z => (mkF m 14 #[.val (.long (1 : Int64)), .second, .val (.int z)] [(.int ((1 : Int64).toInt32)), (.int (32 : Int32))])) (show ((((1 : Int64).toUInt64 >>> ((32 : Int32) &&& 0x3f).toInt64.toUInt64).toInt64).toInt32) = (0 : Int32) from by decide)) kt
  have c3 : ∀ t, Steps p.tables e below (s₁.setTop (mkF m 14 #[.val (.long (1 : Int64)), .second, .val (.int (0 : Int32))] [(.int (1 : Int32)), (.int (32 : Int32))])) t → Steps p.tables e below (s₁.setTop (mkF m 14 #[.val (.long (1 : Int64)), .second, .val (.int (0 : Int32))] [(.int ((1 : Int64).toInt32)), (.int (32 : Int32))])) t := fun t kt => castTop (congrArg (fun z => (mkF m 14 #[.val (.long (1 : Int64)), .second, .val (.int (0 : Int32))] [(.int z), (.int (32 : Int32))])) (show ((1 : Int64).toInt32) = (1 : Int32) from by decide)) kt
  obtain ⟨_, _, ⟨T4, L4, k4, n4⟩, -, X4, ⟨Lc4, hQ4, l4, y4, z4⟩, st4⟩ := Jvm.LawKit.callS X0 hx (y := (⟨"java/lang/Integer", "numberOfLeadingZeros", "(I)I"⟩ : MethodName)) hown (mvT hZ (hw _ (List.mem_of_getElem? (i := 21) rfl))) (mvT hZ (hw _ (List.mem_of_getElem? (i := 22) rfl))) (mvT hZ (hw _ (List.mem_of_getElem? (i := 23) rfl))) (mvT hZ (hw _ (List.mem_of_getElem? (i := 24) rfl))) (by decide) (backOf (W := 1) (rm5_1 l Z a0 hw []   h0 n0 Z0 ) hZ (hw _ (List.mem_of_getElem? (i := 24) rfl)) (hw _ (List.mem_of_getElem? (i := 23) rfl)) (by decide) (by decide)) (g := (mkF m 14 #[.val (.long (1 : Int64)), .second, .val (.int (0 : Int32))] [(.int (1 : Int32)), (.int (32 : Int32))])) rfl (by rw [hml]; rfl) (argsL := [(.int (1 : Int32))]) (rest := [(.int (32 : Int32))]) (lenOf pd_0 rfl) rfl (by show 2 * 0 + _ ≤ _; exact Nat.le_of_eq rfl) (hb hby d4_14) (fun _ _ => ⟨rfl, e0, (by decide : 0 + 0 ≤ _), (by decide : 0 + 0 ≤ _)⟩)
  dsimp only [Pt.U, Pt.locs, Pt.cells, Pt.slots] at X4 l4 y4 z4 st4 hQ4
  subst l4 y4 z4
  obtain ⟨rfl, N4q, e4⟩ := hQ4
  have N4 := Fr.app N0 N4q
  have c5 : ∀ t, Steps p.tables e below (T4.setTop (mkF m 25 #[.val (.long (1 : Int64)), .second, .val (.int (0 : Int32))] [(.int ((32 : Int32) + (31 : Int32)))])) t → Steps p.tables e below (T4.setTop (mkF m 17 #[.val (.long (1 : Int64)), .second, .val (.int (0 : Int32))] [(.int (31 : Int32)), (.int (32 : Int32))])) t := by
    intro t kt
    show Steps p.tables e below (T4.setTop (mkF m 17 #[.val (.long (1 : Int64)), .second, .val (.int (0 : Int32))] [(.int (31 : Int32)), (.int (32 : Int32))])) _
    refine XS.iadd X4.here hx rfl (hb hby d4_17) rfl ?_
    show Steps p.tables e below (T4.setTop (mkF m 18 #[.val (.long (1 : Int64)), .second, .val (.int (0 : Int32))] [(.int ((32 : Int32) + (31 : Int32)))])) _
    refine XS.goto X4.here hx rfl (pc0 := 18) (pc' := 25) rfl (hb hby d4_18) (by decide) (by decide) ?_
    exact kt
  obtain ⟨fs, hr, hrun, hended, hW, hsame⟩ := X4.leave (v := some (.int ((32 : Int32) + (31 : Int32)))) (fun h => by rw [Bd.returns] at h; cases h)
  refine ⟨_, _, pre0 _ (c1 _ (c2 _ (c3 _ (st4 _ (c5 _ (?_)))))), hrun, hended, _, _, rfl, ?_, ⟨_, rfl⟩, hW, hsame.mono (by decide) (by decide)⟩
  · show Steps p.tables e below (T4.setTop (mkF m 25 #[.val (.long (1 : Int64)), .second, .val (.int (0 : Int32))] [(.int ((32 : Int32) + (31 : Int32)))])) _
    exact retI X4 hx Bd.returns (hb hby d4_25) hr
  · show Q4_1 Z  h0 n0 _ T4.heap _
    rw [e4]
    exact ⟨congrArg (fun z => some (Value.int z)) (show ((32 : Int32) + (31 : Int32)) = (63 : Int32) from by decide), N4, rfl⟩
def Q4_3 (Z : State)  (h0 : Heap) (n0 : Nat) (v : Option Value) (h : Heap) (L : List Loc) : Prop := v = some (.int (62 : Int32)) ∧ Fr n0 L ∧ h = h0
set_option maxRecDepth 65536 in
set_option maxHeartbeats 40000000 in
theorem rm4_3 (l : Launch) (Z : State) (a0 : Array Value) (hw : ∀ d ∈ tables_1, d.before a0 Z = true) (ws : List Jvm.Cond)   (h0 : Heap) (n0 : Nat) (Z0 : n0 ≤ h0.size) :
    MetFree l (⟨"java/lang/Long", "numberOfLeadingZeros", "(J)I"⟩ : MethodName) (head1 (Jvm.Cond.code (⟨"java/lang/Long", "numberOfLeadingZeros", "(J)I"⟩ : MethodName) jdk_35_method_48_code 3 (some .int) :: ws) ({ frames := 1, cells := 0, slots := 0, locals := 14 } : Room)) (fun a U => a = #[(.long (3 : Int64))] ∧ Z.Warmed39 U.vm ∧ U.heap = h0) (fun _ _ _ _ _ => True) (fun _ U o U' => ∃ v L, o = .returned v ∧ Q4_3 Z  h0 n0 v U'.heap L ∧ FrameEnd U o U' L ({ frames := 1, cells := 0, slots := 0, locals := 14 } : Room).cells ({ frames := 1, cells := 0, slots := 0, locals := 14 } : Room).slots) := by
  refine MetFree.of_bodySF (plainFor_of_name pn_4) hisR ?_
  intro p e s m args below meth c s₁ Bd hml0 hP hK
  obtain ⟨rfl, hZ, hh⟩ := hP
  have hx := Bd.exec
  have hby := Bd.bytes
  have hml : c.maxLocals = 3 := hml0
  have hown : s.vm.findClass "java/lang/Long" = some m.cls := findClass_of_methodNamed Bd.named
  have hnm := (name_of_methodNamed Bd.named Bd.method).1
  have X0 : Stand p l e ({ frames := 1, cells := 0, slots := 0, locals := 14 } : Room) s m #[(.long (3 : Int64))] below meth c s₁ [] 0 0 := Stand.of_body Bd
  have e0 : s₁.heap = h0 := by rw [← hh, Bd.state]; rfl
  have N0 := Fr.nil n0
  have pre0 : ∀ t, Steps p.tables e below (s₁.setTop (mkF m 0 #[.val (.long (3 : Int64)), .second, .unset] [])) t → Steps p.tables e below (s₁.setTop (entryFrame m #[(.long (3 : Int64))] 3)) t := fun t k => castTop (ef_4 m (3 : Int64)) k
  have c1 : ∀ t, Steps p.tables e below (s₁.setTop (mkF m 14 #[.val (.long (3 : Int64)), .second, .val (.int ((((3 : Int64).toUInt64 >>> ((32 : Int32) &&& 0x3f).toInt64.toUInt64).toInt64).toInt32))] [(.int ((3 : Int64).toInt32)), (.int (32 : Int32))])) t → Steps p.tables e below (s₁.setTop (mkF m 0 #[.val (.long (3 : Int64)), .second, .unset] [])) t := by
    intro t kt
    show Steps p.tables e below (s₁.setTop (mkF m 0 #[.val (.long (3 : Int64)), .second, .unset] [])) _
    refine XS.lloadN X0.here hx rfl (hb hby d4_0) rfl ?_
    show Steps p.tables e below (s₁.setTop (mkF m 1 #[.val (.long (3 : Int64)), .second, .unset] [(.long (3 : Int64))])) _
    refine XS.bipush X0.here hx rfl (hb hby d4_1) ?_
    show Steps p.tables e below (s₁.setTop (mkF m 3 #[.val (.long (3 : Int64)), .second, .unset] [(.int (32 : Int32)), (.long (3 : Int64))])) _
    refine XS.lushr X0.here hx rfl (hb hby d4_3) rfl ?_
    show Steps p.tables e below (s₁.setTop (mkF m 4 #[.val (.long (3 : Int64)), .second, .unset] [(.long (((3 : Int64).toUInt64 >>> ((32 : Int32) &&& 0x3f).toInt64.toUInt64).toInt64))])) _
    refine XS.l2i X0.here hx rfl (hb hby d4_4) rfl ?_
    show Steps p.tables e below (s₁.setTop (mkF m 5 #[.val (.long (3 : Int64)), .second, .unset] [(.int ((((3 : Int64).toUInt64 >>> ((32 : Int32) &&& 0x3f).toInt64.toUInt64).toInt64).toInt32))])) _
    refine XS.istoreN X0.here hx rfl (hb hby d4_5) rfl (l' := #[.val (.long (3 : Int64)), .second, .val (.int ((((3 : Int64).toUInt64 >>> ((32 : Int32) &&& 0x3f).toInt64.toUInt64).toInt64).toInt32))]) rfl ?_
    show Steps p.tables e below (s₁.setTop (mkF m 6 #[.val (.long (3 : Int64)), .second, .val (.int ((((3 : Int64).toUInt64 >>> ((32 : Int32) &&& 0x3f).toInt64.toUInt64).toInt64).toInt32))] [])) _
    refine XS.iloadN X0.here hx rfl (hb hby d4_6) rfl ?_
    show Steps p.tables e below (s₁.setTop (mkF m 7 #[.val (.long (3 : Int64)), .second, .val (.int ((((3 : Int64).toUInt64 >>> ((32 : Int32) &&& 0x3f).toInt64.toUInt64).toInt64).toInt32))] [(.int ((((3 : Int64).toUInt64 >>> ((32 : Int32) &&& 0x3f).toInt64.toUInt64).toInt64).toInt32))])) _
    refine XS.ifNo X0.here hx rfl (hb hby d4_7) rfl ((if0 _ _).trans (teq (by decide : ((((3 : Int64).toUInt64 >>> ((32 : Int32) &&& 0x3f).toInt64.toUInt64).toInt64).toInt32) = (0 : Int32))).2) ?_
    show Steps p.tables e below (s₁.setTop (mkF m 10 #[.val (.long (3 : Int64)), .second, .val (.int ((((3 : Int64).toUInt64 >>> ((32 : Int32) &&& 0x3f).toInt64.toUInt64).toInt64).toInt32))] [])) _
    refine XS.bipush X0.here hx rfl (hb hby d4_10) ?_
    show Steps p.tables e below (s₁.setTop (mkF m 12 #[.val (.long (3 : Int64)), .second, .val (.int ((((3 : Int64).toUInt64 >>> ((32 : Int32) &&& 0x3f).toInt64.toUInt64).toInt64).toInt32))] [(.int (32 : Int32))])) _
    refine XS.lloadN X0.here hx rfl (hb hby d4_12) rfl ?_
    show Steps p.tables e below (s₁.setTop (mkF m 13 #[.val (.long (3 : Int64)), .second, .val (.int ((((3 : Int64).toUInt64 >>> ((32 : Int32) &&& 0x3f).toInt64.toUInt64).toInt64).toInt32))] [(.long (3 : Int64)), (.int (32 : Int32))])) _
    refine XS.l2i X0.here hx rfl (hb hby d4_13) rfl ?_
    exact kt
  have c2 : ∀ t, Steps p.tables e below (s₁.setTop (mkF m 14 #[.val (.long (3 : Int64)), .second, .val (.int (0 : Int32))] [(.int ((3 : Int64).toInt32)), (.int (32 : Int32))])) t → Steps p.tables e below (s₁.setTop (mkF m 14 #[.val (.long (3 : Int64)), .second, .val (.int ((((3 : Int64).toUInt64 >>> ((32 : Int32) &&& 0x3f).toInt64.toUInt64).toInt64).toInt32))] [(.int ((3 : Int64).toInt32)), (.int (32 : Int32))])) t := fun t kt => castTop (congrArg (fun z => (mkF m 14 #[.val (.long (3 : Int64)), .second, .val (.int z)] [(.int ((3 : Int64).toInt32)), (.int (32 : Int32))])) (show ((((3 : Int64).toUInt64 >>> ((32 : Int32) &&& 0x3f).toInt64.toUInt64).toInt64).toInt32) = (0 : Int32) from by decide)) kt
  have c3 : ∀ t, Steps p.tables e below (s₁.setTop (mkF m 14 #[.val (.long (3 : Int64)), .second, .val (.int (0 : Int32))] [(.int (3 : Int32)), (.int (32 : Int32))])) t → Steps p.tables e below (s₁.setTop (mkF m 14 #[.val (.long (3 : Int64)), .second, .val (.int (0 : Int32))] [(.int ((3 : Int64).toInt32)), (.int (32 : Int32))])) t := fun t kt => castTop (congrArg (fun z => (mkF m 14 #[.val (.long (3 : Int64)), .second, .val (.int (0 : Int32))] [(.int z), (.int (32 : Int32))])) (show ((3 : Int64).toInt32) = (3 : Int32) from by decide)) kt
  obtain ⟨_, _, ⟨T4, L4, k4, n4⟩, -, X4, ⟨Lc4, hQ4, l4, y4, z4⟩, st4⟩ := Jvm.LawKit.callS X0 hx (y := (⟨"java/lang/Integer", "numberOfLeadingZeros", "(I)I"⟩ : MethodName)) hown (mvT hZ (hw _ (List.mem_of_getElem? (i := 21) rfl))) (mvT hZ (hw _ (List.mem_of_getElem? (i := 22) rfl))) (mvT hZ (hw _ (List.mem_of_getElem? (i := 23) rfl))) (mvT hZ (hw _ (List.mem_of_getElem? (i := 24) rfl))) (by decide) (backOf (W := 1) (rm5_3 l Z a0 hw []   h0 n0 Z0 ) hZ (hw _ (List.mem_of_getElem? (i := 24) rfl)) (hw _ (List.mem_of_getElem? (i := 23) rfl)) (by decide) (by decide)) (g := (mkF m 14 #[.val (.long (3 : Int64)), .second, .val (.int (0 : Int32))] [(.int (3 : Int32)), (.int (32 : Int32))])) rfl (by rw [hml]; rfl) (argsL := [(.int (3 : Int32))]) (rest := [(.int (32 : Int32))]) (lenOf pd_0 rfl) rfl (by show 2 * 0 + _ ≤ _; exact Nat.le_of_eq rfl) (hb hby d4_14) (fun _ _ => ⟨rfl, e0, (by decide : 0 + 0 ≤ _), (by decide : 0 + 0 ≤ _)⟩)
  dsimp only [Pt.U, Pt.locs, Pt.cells, Pt.slots] at X4 l4 y4 z4 st4 hQ4
  subst l4 y4 z4
  obtain ⟨rfl, N4q, e4⟩ := hQ4
  have N4 := Fr.app N0 N4q
  have c5 : ∀ t, Steps p.tables e below (T4.setTop (mkF m 25 #[.val (.long (3 : Int64)), .second, .val (.int (0 : Int32))] [(.int ((32 : Int32) + (30 : Int32)))])) t → Steps p.tables e below (T4.setTop (mkF m 17 #[.val (.long (3 : Int64)), .second, .val (.int (0 : Int32))] [(.int (30 : Int32)), (.int (32 : Int32))])) t := by
    intro t kt
    show Steps p.tables e below (T4.setTop (mkF m 17 #[.val (.long (3 : Int64)), .second, .val (.int (0 : Int32))] [(.int (30 : Int32)), (.int (32 : Int32))])) _
    refine XS.iadd X4.here hx rfl (hb hby d4_17) rfl ?_
    show Steps p.tables e below (T4.setTop (mkF m 18 #[.val (.long (3 : Int64)), .second, .val (.int (0 : Int32))] [(.int ((32 : Int32) + (30 : Int32)))])) _
    refine XS.goto X4.here hx rfl (pc0 := 18) (pc' := 25) rfl (hb hby d4_18) (by decide) (by decide) ?_
    exact kt
  obtain ⟨fs, hr, hrun, hended, hW, hsame⟩ := X4.leave (v := some (.int ((32 : Int32) + (30 : Int32)))) (fun h => by rw [Bd.returns] at h; cases h)
  refine ⟨_, _, pre0 _ (c1 _ (c2 _ (c3 _ (st4 _ (c5 _ (?_)))))), hrun, hended, _, _, rfl, ?_, ⟨_, rfl⟩, hW, hsame.mono (by decide) (by decide)⟩
  · show Steps p.tables e below (T4.setTop (mkF m 25 #[.val (.long (3 : Int64)), .second, .val (.int (0 : Int32))] [(.int ((32 : Int32) + (30 : Int32)))])) _
    exact retI X4 hx Bd.returns (hb hby d4_25) hr
  · show Q4_3 Z  h0 n0 _ T4.heap _
    rw [e4]
    exact ⟨congrArg (fun z => some (Value.int z)) (show ((32 : Int32) + (30 : Int32)) = (62 : Int32) from by decide), N4, rfl⟩
def Q4_5 (Z : State)  (h0 : Heap) (n0 : Nat) (v : Option Value) (h : Heap) (L : List Loc) : Prop := v = some (.int (61 : Int32)) ∧ Fr n0 L ∧ h = h0
set_option maxRecDepth 65536 in
set_option maxHeartbeats 40000000 in
theorem rm4_5 (l : Launch) (Z : State) (a0 : Array Value) (hw : ∀ d ∈ tables_1, d.before a0 Z = true) (ws : List Jvm.Cond)   (h0 : Heap) (n0 : Nat) (Z0 : n0 ≤ h0.size) :
    MetFree l (⟨"java/lang/Long", "numberOfLeadingZeros", "(J)I"⟩ : MethodName) (head1 (Jvm.Cond.code (⟨"java/lang/Long", "numberOfLeadingZeros", "(J)I"⟩ : MethodName) jdk_35_method_48_code 3 (some .int) :: ws) ({ frames := 1, cells := 0, slots := 0, locals := 14 } : Room)) (fun a U => a = #[(.long (5 : Int64))] ∧ Z.Warmed39 U.vm ∧ U.heap = h0) (fun _ _ _ _ _ => True) (fun _ U o U' => ∃ v L, o = .returned v ∧ Q4_5 Z  h0 n0 v U'.heap L ∧ FrameEnd U o U' L ({ frames := 1, cells := 0, slots := 0, locals := 14 } : Room).cells ({ frames := 1, cells := 0, slots := 0, locals := 14 } : Room).slots) := by
  refine MetFree.of_bodySF (plainFor_of_name pn_4) hisR ?_
  intro p e s m args below meth c s₁ Bd hml0 hP hK
  obtain ⟨rfl, hZ, hh⟩ := hP
  have hx := Bd.exec
  have hby := Bd.bytes
  have hml : c.maxLocals = 3 := hml0
  have hown : s.vm.findClass "java/lang/Long" = some m.cls := findClass_of_methodNamed Bd.named
  have hnm := (name_of_methodNamed Bd.named Bd.method).1
  have X0 : Stand p l e ({ frames := 1, cells := 0, slots := 0, locals := 14 } : Room) s m #[(.long (5 : Int64))] below meth c s₁ [] 0 0 := Stand.of_body Bd
  have e0 : s₁.heap = h0 := by rw [← hh, Bd.state]; rfl
  have N0 := Fr.nil n0
  have pre0 : ∀ t, Steps p.tables e below (s₁.setTop (mkF m 0 #[.val (.long (5 : Int64)), .second, .unset] [])) t → Steps p.tables e below (s₁.setTop (entryFrame m #[(.long (5 : Int64))] 3)) t := fun t k => castTop (ef_4 m (5 : Int64)) k
  have c1 : ∀ t, Steps p.tables e below (s₁.setTop (mkF m 14 #[.val (.long (5 : Int64)), .second, .val (.int ((((5 : Int64).toUInt64 >>> ((32 : Int32) &&& 0x3f).toInt64.toUInt64).toInt64).toInt32))] [(.int ((5 : Int64).toInt32)), (.int (32 : Int32))])) t → Steps p.tables e below (s₁.setTop (mkF m 0 #[.val (.long (5 : Int64)), .second, .unset] [])) t := by
    intro t kt
    show Steps p.tables e below (s₁.setTop (mkF m 0 #[.val (.long (5 : Int64)), .second, .unset] [])) _
    refine XS.lloadN X0.here hx rfl (hb hby d4_0) rfl ?_
    show Steps p.tables e below (s₁.setTop (mkF m 1 #[.val (.long (5 : Int64)), .second, .unset] [(.long (5 : Int64))])) _
    refine XS.bipush X0.here hx rfl (hb hby d4_1) ?_
    show Steps p.tables e below (s₁.setTop (mkF m 3 #[.val (.long (5 : Int64)), .second, .unset] [(.int (32 : Int32)), (.long (5 : Int64))])) _
    refine XS.lushr X0.here hx rfl (hb hby d4_3) rfl ?_
    show Steps p.tables e below (s₁.setTop (mkF m 4 #[.val (.long (5 : Int64)), .second, .unset] [(.long (((5 : Int64).toUInt64 >>> ((32 : Int32) &&& 0x3f).toInt64.toUInt64).toInt64))])) _
    refine XS.l2i X0.here hx rfl (hb hby d4_4) rfl ?_
    show Steps p.tables e below (s₁.setTop (mkF m 5 #[.val (.long (5 : Int64)), .second, .unset] [(.int ((((5 : Int64).toUInt64 >>> ((32 : Int32) &&& 0x3f).toInt64.toUInt64).toInt64).toInt32))])) _
    refine XS.istoreN X0.here hx rfl (hb hby d4_5) rfl (l' := #[.val (.long (5 : Int64)), .second, .val (.int ((((5 : Int64).toUInt64 >>> ((32 : Int32) &&& 0x3f).toInt64.toUInt64).toInt64).toInt32))]) rfl ?_
    show Steps p.tables e below (s₁.setTop (mkF m 6 #[.val (.long (5 : Int64)), .second, .val (.int ((((5 : Int64).toUInt64 >>> ((32 : Int32) &&& 0x3f).toInt64.toUInt64).toInt64).toInt32))] [])) _
    refine XS.iloadN X0.here hx rfl (hb hby d4_6) rfl ?_
    show Steps p.tables e below (s₁.setTop (mkF m 7 #[.val (.long (5 : Int64)), .second, .val (.int ((((5 : Int64).toUInt64 >>> ((32 : Int32) &&& 0x3f).toInt64.toUInt64).toInt64).toInt32))] [(.int ((((5 : Int64).toUInt64 >>> ((32 : Int32) &&& 0x3f).toInt64.toUInt64).toInt64).toInt32))])) _
    refine XS.ifNo X0.here hx rfl (hb hby d4_7) rfl ((if0 _ _).trans (teq (by decide : ((((5 : Int64).toUInt64 >>> ((32 : Int32) &&& 0x3f).toInt64.toUInt64).toInt64).toInt32) = (0 : Int32))).2) ?_
    show Steps p.tables e below (s₁.setTop (mkF m 10 #[.val (.long (5 : Int64)), .second, .val (.int ((((5 : Int64).toUInt64 >>> ((32 : Int32) &&& 0x3f).toInt64.toUInt64).toInt64).toInt32))] [])) _
    refine XS.bipush X0.here hx rfl (hb hby d4_10) ?_
    show Steps p.tables e below (s₁.setTop (mkF m 12 #[.val (.long (5 : Int64)), .second, .val (.int ((((5 : Int64).toUInt64 >>> ((32 : Int32) &&& 0x3f).toInt64.toUInt64).toInt64).toInt32))] [(.int (32 : Int32))])) _
    refine XS.lloadN X0.here hx rfl (hb hby d4_12) rfl ?_
    show Steps p.tables e below (s₁.setTop (mkF m 13 #[.val (.long (5 : Int64)), .second, .val (.int ((((5 : Int64).toUInt64 >>> ((32 : Int32) &&& 0x3f).toInt64.toUInt64).toInt64).toInt32))] [(.long (5 : Int64)), (.int (32 : Int32))])) _
    refine XS.l2i X0.here hx rfl (hb hby d4_13) rfl ?_
    exact kt
  have c2 : ∀ t, Steps p.tables e below (s₁.setTop (mkF m 14 #[.val (.long (5 : Int64)), .second, .val (.int (0 : Int32))] [(.int ((5 : Int64).toInt32)), (.int (32 : Int32))])) t → Steps p.tables e below (s₁.setTop (mkF m 14 #[.val (.long (5 : Int64)), .second, .val (.int ((((5 : Int64).toUInt64 >>> ((32 : Int32) &&& 0x3f).toInt64.toUInt64).toInt64).toInt32))] [(.int ((5 : Int64).toInt32)), (.int (32 : Int32))])) t := fun t kt => castTop (congrArg (fun z => (mkF m 14 #[.val (.long (5 : Int64)), .second, .val (.int z)] [(.int ((5 : Int64).toInt32)), (.int (32 : Int32))])) (show ((((5 : Int64).toUInt64 >>> ((32 : Int32) &&& 0x3f).toInt64.toUInt64).toInt64).toInt32) = (0 : Int32) from by decide)) kt
  have c3 : ∀ t, Steps p.tables e below (s₁.setTop (mkF m 14 #[.val (.long (5 : Int64)), .second, .val (.int (0 : Int32))] [(.int (5 : Int32)), (.int (32 : Int32))])) t → Steps p.tables e below (s₁.setTop (mkF m 14 #[.val (.long (5 : Int64)), .second, .val (.int (0 : Int32))] [(.int ((5 : Int64).toInt32)), (.int (32 : Int32))])) t := fun t kt => castTop (congrArg (fun z => (mkF m 14 #[.val (.long (5 : Int64)), .second, .val (.int (0 : Int32))] [(.int z), (.int (32 : Int32))])) (show ((5 : Int64).toInt32) = (5 : Int32) from by decide)) kt
  obtain ⟨_, _, ⟨T4, L4, k4, n4⟩, -, X4, ⟨Lc4, hQ4, l4, y4, z4⟩, st4⟩ := Jvm.LawKit.callS X0 hx (y := (⟨"java/lang/Integer", "numberOfLeadingZeros", "(I)I"⟩ : MethodName)) hown (mvT hZ (hw _ (List.mem_of_getElem? (i := 21) rfl))) (mvT hZ (hw _ (List.mem_of_getElem? (i := 22) rfl))) (mvT hZ (hw _ (List.mem_of_getElem? (i := 23) rfl))) (mvT hZ (hw _ (List.mem_of_getElem? (i := 24) rfl))) (by decide) (backOf (W := 1) (rm5_5 l Z a0 hw []   h0 n0 Z0 ) hZ (hw _ (List.mem_of_getElem? (i := 24) rfl)) (hw _ (List.mem_of_getElem? (i := 23) rfl)) (by decide) (by decide)) (g := (mkF m 14 #[.val (.long (5 : Int64)), .second, .val (.int (0 : Int32))] [(.int (5 : Int32)), (.int (32 : Int32))])) rfl (by rw [hml]; rfl) (argsL := [(.int (5 : Int32))]) (rest := [(.int (32 : Int32))]) (lenOf pd_0 rfl) rfl (by show 2 * 0 + _ ≤ _; exact Nat.le_of_eq rfl) (hb hby d4_14) (fun _ _ => ⟨rfl, e0, (by decide : 0 + 0 ≤ _), (by decide : 0 + 0 ≤ _)⟩)
  dsimp only [Pt.U, Pt.locs, Pt.cells, Pt.slots] at X4 l4 y4 z4 st4 hQ4
  subst l4 y4 z4
  obtain ⟨rfl, N4q, e4⟩ := hQ4
  have N4 := Fr.app N0 N4q
  have c5 : ∀ t, Steps p.tables e below (T4.setTop (mkF m 25 #[.val (.long (5 : Int64)), .second, .val (.int (0 : Int32))] [(.int ((32 : Int32) + (29 : Int32)))])) t → Steps p.tables e below (T4.setTop (mkF m 17 #[.val (.long (5 : Int64)), .second, .val (.int (0 : Int32))] [(.int (29 : Int32)), (.int (32 : Int32))])) t := by
    intro t kt
    show Steps p.tables e below (T4.setTop (mkF m 17 #[.val (.long (5 : Int64)), .second, .val (.int (0 : Int32))] [(.int (29 : Int32)), (.int (32 : Int32))])) _
    refine XS.iadd X4.here hx rfl (hb hby d4_17) rfl ?_
    show Steps p.tables e below (T4.setTop (mkF m 18 #[.val (.long (5 : Int64)), .second, .val (.int (0 : Int32))] [(.int ((32 : Int32) + (29 : Int32)))])) _
    refine XS.goto X4.here hx rfl (pc0 := 18) (pc' := 25) rfl (hb hby d4_18) (by decide) (by decide) ?_
    exact kt
  obtain ⟨fs, hr, hrun, hended, hW, hsame⟩ := X4.leave (v := some (.int ((32 : Int32) + (29 : Int32)))) (fun h => by rw [Bd.returns] at h; cases h)
  refine ⟨_, _, pre0 _ (c1 _ (c2 _ (c3 _ (st4 _ (c5 _ (?_)))))), hrun, hended, _, _, rfl, ?_, ⟨_, rfl⟩, hW, hsame.mono (by decide) (by decide)⟩
  · show Steps p.tables e below (T4.setTop (mkF m 25 #[.val (.long (5 : Int64)), .second, .val (.int (0 : Int32))] [(.int ((32 : Int32) + (29 : Int32)))])) _
    exact retI X4 hx Bd.returns (hb hby d4_25) hr
  · show Q4_5 Z  h0 n0 _ T4.heap _
    rw [e4]
    exact ⟨congrArg (fun z => some (Value.int z)) (show ((32 : Int32) + (29 : Int32)) = (61 : Int32) from by decide), N4, rfl⟩
theorem d1_63 : decode prog_18_method_1_code 63 = .ok (.aload_n 0, 1) := by decide +kernel
theorem d1_64 : decode prog_18_method_1_code 64 = .ok (.getfield 27, 3) := by decide +kernel
theorem d1_67 : decode prog_18_method_1_code 67 = .ok (.iload 4, 2) := by decide +kernel
theorem d1_69 : decode prog_18_method_1_code 69 = .ok (.iaload, 1) := by decide +kernel
theorem d1_70 : decode prog_18_method_1_code 70 = .ok (.ifCond .eq 20, 3) := by decide +kernel
theorem d1_73 : decode prog_18_method_1_code 73 = .ok (.iload 4, 2) := by decide +kernel
theorem d1_75 : decode prog_18_method_1_code 75 = .ok (.iconst 1, 1) := by decide +kernel
theorem d1_76 : decode prog_18_method_1_code 76 = .ok (.iadd, 1) := by decide +kernel
theorem d1_77 : decode prog_18_method_1_code 77 = .ok (.aload_n 0, 1) := by decide +kernel
theorem d1_78 : decode prog_18_method_1_code 78 = .ok (.getfield 27, 3) := by decide +kernel
theorem d1_81 : decode prog_18_method_1_code 81 = .ok (.arraylength, 1) := by decide +kernel
theorem d1_82 : decode prog_18_method_1_code 82 = .ok (.iconst 1, 1) := by decide +kernel
theorem d1_83 : decode prog_18_method_1_code 83 = .ok (.isub, 1) := by decide +kernel
theorem d1_84 : decode prog_18_method_1_code 84 = .ok (.iand, 1) := by decide +kernel
theorem d1_85 : decode prog_18_method_1_code 85 = .ok (.istore 4, 2) := by decide +kernel
theorem d1_87 : decode prog_18_method_1_code 87 = .ok (.goto (-24), 3) := by decide +kernel
set_option maxRecDepth 65536 in
set_option maxHeartbeats 40000000 in
theorem tn63 {p : Program} {l : Launch} {e : Env} {R : Room} {s : State} {m : MethodId} {args : Array Value} {below : List Frame} {meth : Method} {c : Code} {T0 : State} {locs : List Loc} {cells slots : Nat} {Z : State} {a0 : Array Value} {h0 : Heap} {n0 : Nat} (r0 r1 : Addr) (p2 p3 : Int32) (sa : Addr) (ks : ClassId) (M : Nat) (tab : List Nat) (i : Nat)
    (X0 : Stand p l e R s m args below meth c T0 locs cells slots) (hx : p.tables.exec = Jvm.exec) (hZ : Z.Warmed39 s.vm) (hw : ∀ d ∈ tables_1, d.before a0 Z = true) (hby : c.code = prog_18_method_1_code) (hml : c.maxLocals = 5) (hown : s.vm.findClass "com/example/mapstone/mapstone/engine/ConceptIndex" = some m.cls) (e0 : T0.heap = h0) (N0 : Fr n0 locs) (Z0 : n0 ≤ h0.size) (F_s : Fld Z h0 r0 "com/example/mapstone/mapstone/engine/ConceptIndex" "slots" "[I" (.ref sa)) (V_s : Arv Z h0 sa ks .int (Int32.ofNat M) (own_tv tab) (.int (0 : Int32))) (hi : i < M) (hM8 : M ≤ 8) (hl : tab.length = M) (hv : ∀ i, tab.getD i 0 ≤ 3) (ht : ¬ tab.getD i 0 = 0) :
    ∃ (T' : State) (locs' : List Loc) (h' : Heap), Stand p l e R s m args below meth c T' locs' cells slots ∧ T'.heap = h' ∧ Fr n0 locs' ∧ Keep h0 h' [] ∧ h' = h0 ∧ ∀ t, Steps p.tables e below (T'.setTop (mkF m 63 #[.val (.ref r0), .val (.ref r1), .val (.int p2), .val (.int p3), .val (.int (((Int32.ofNat i) + (1 : Int32)) &&& ((Int32.ofNat M) - (1 : Int32))))] [])) t → Steps p.tables e below (T0.setTop (mkF m 63 #[.val (.ref r0), .val (.ref r1), .val (.int p2), .val (.int p3), .val (.int (Int32.ofNat i))] [])) t := by
  have c2 : ∀ t, Steps p.tables e below (T0.setTop (mkF m 64 #[.val (.ref r0), .val (.ref r1), .val (.int p2), .val (.int p3), .val (.int (Int32.ofNat i))] [(.ref r0)])) t → Steps p.tables e below (T0.setTop (mkF m 63 #[.val (.ref r0), .val (.ref r1), .val (.int p2), .val (.int p3), .val (.int (Int32.ofNat i))] [])) t := by
    intro t kt
    show Steps p.tables e below (T0.setTop (mkF m 63 #[.val (.ref r0), .val (.ref r1), .val (.int p2), .val (.int p3), .val (.int (Int32.ofNat i))] [])) _
    refine XS.aloadN X0.here hx rfl (hb hby d1_63) rfl rfl ?_
    exact kt
  obtain ⟨T1, X1, e1, st1⟩ := getF X0 hx hZ hown (host := "") (Or.inl (hw _ (List.mem_of_getElem? (i := 27) rfl))) Via.refl e0 F_s (g := (mkF m 64 #[.val (.ref r0), .val (.ref r1), .val (.int p2), .val (.int p3), .val (.int (Int32.ofNat i))] [(.ref r0)])) rfl rfl (hb hby d1_64)
  have Vc3 := V_s
  obtain ⟨cl3, Ar3, qk3, S3, M3, H3, G3⟩ := Vc3
  have hin3 : ¬ ((Int32.ofNat i) < 0 ∨ cl3.slots.size ≤ ((Int32.ofNat i)).toNatClampNeg) := inb_of S3 (own_in i M hi hM8)
  have hat3 : cl3.slots[((Int32.ofNat i)).toNatClampNeg]? = some (.int (Int32.ofNat (tab.getD i 0))) := H3.at hin3 (own_tvat tab M i hl hi hM8 _)
  have c5 : ∀ t, Steps p.tables e below (T1.setTop (mkF m 70 #[.val (.ref r0), .val (.ref r1), .val (.int p2), .val (.int p3), .val (.int (Int32.ofNat i))] [(.int (Int32.ofNat (tab.getD i 0)))])) t → Steps p.tables e below (T1.setTop (mkF m 67 #[.val (.ref r0), .val (.ref r1), .val (.int p2), .val (.int p3), .val (.int (Int32.ofNat i))] [(.ref sa)])) t := by
    intro t kt
    show Steps p.tables e below (T1.setTop (mkF m 67 #[.val (.ref r0), .val (.ref r1), .val (.int p2), .val (.int p3), .val (.int (Int32.ofNat i))] [(.ref sa)])) _
    refine XS.iload X1.here hx rfl (hb hby d1_67) rfl ?_
    show Steps p.tables e below (T1.setTop (mkF m 69 #[.val (.ref r0), .val (.ref r1), .val (.int p2), .val (.int p3), .val (.int (Int32.ofNat i))] [(.int (Int32.ofNat i)), (.ref sa)])) _
    refine X1.iaload hx (j := (Int32.ofNat i)) (v := (.int (Int32.ofNat (tab.getD i 0)))) (by rw [e1]; exact Ar3.1) (State.isArrayOf_alike hZ.alike Ar3.2.1) Ar3.2.2 hin3 hat3 (g := (mkF m 69 #[.val (.ref r0), .val (.ref r1), .val (.int p2), .val (.int p3), .val (.int (Int32.ofNat i))] [(.int (Int32.ofNat i)), (.ref sa)])) rfl rfl (hb hby d1_69) _ ?_
    exact kt
  have hd4 : ¬ ((Int32.ofNat (tab.getD i 0)) = (0 : Int32)) := fun q => ht ((own_zero _ (hv i)).mp q)
  have c7 : ∀ t, Steps p.tables e below (T1.setTop (mkF m 78 #[.val (.ref r0), .val (.ref r1), .val (.int p2), .val (.int p3), .val (.int (Int32.ofNat i))] [(.ref r0), (.int ((Int32.ofNat i) + (1 : Int32)))])) t → Steps p.tables e below (T1.setTop (mkF m 70 #[.val (.ref r0), .val (.ref r1), .val (.int p2), .val (.int p3), .val (.int (Int32.ofNat i))] [(.int (Int32.ofNat (tab.getD i 0)))])) t := by
    intro t kt
    show Steps p.tables e below (T1.setTop (mkF m 70 #[.val (.ref r0), .val (.ref r1), .val (.int p2), .val (.int p3), .val (.int (Int32.ofNat i))] [(.int (Int32.ofNat (tab.getD i 0)))])) _
    refine XS.ifNo X1.here hx rfl (hb hby d1_70) rfl ((if0 _ _).trans (feq hd4).1) ?_
    show Steps p.tables e below (T1.setTop (mkF m 73 #[.val (.ref r0), .val (.ref r1), .val (.int p2), .val (.int p3), .val (.int (Int32.ofNat i))] [])) _
    refine XS.iload X1.here hx rfl (hb hby d1_73) rfl ?_
    show Steps p.tables e below (T1.setTop (mkF m 75 #[.val (.ref r0), .val (.ref r1), .val (.int p2), .val (.int p3), .val (.int (Int32.ofNat i))] [(.int (Int32.ofNat i))])) _
    refine XS.iconst X1.here hx rfl (hb hby d1_75) ?_
    show Steps p.tables e below (T1.setTop (mkF m 76 #[.val (.ref r0), .val (.ref r1), .val (.int p2), .val (.int p3), .val (.int (Int32.ofNat i))] [(.int (1 : Int32)), (.int (Int32.ofNat i))])) _
    refine XS.iadd X1.here hx rfl (hb hby d1_76) rfl ?_
    show Steps p.tables e below (T1.setTop (mkF m 77 #[.val (.ref r0), .val (.ref r1), .val (.int p2), .val (.int p3), .val (.int (Int32.ofNat i))] [(.int ((Int32.ofNat i) + (1 : Int32)))])) _
    refine XS.aloadN X1.here hx rfl (hb hby d1_77) rfl rfl ?_
    exact kt
  obtain ⟨T6, X6, e6, st6⟩ := getF X1 hx hZ hown (host := "") (Or.inl (hw _ (List.mem_of_getElem? (i := 27) rfl))) Via.refl e1 F_s (g := (mkF m 78 #[.val (.ref r0), .val (.ref r1), .val (.int p2), .val (.int p3), .val (.int (Int32.ofNat i))] [(.ref r0), (.int ((Int32.ofNat i) + (1 : Int32)))])) rfl rfl (hb hby d1_78)
  have Vc8 := V_s
  obtain ⟨cl8, Ar8, qk8, S8, M8, H8, G8⟩ := Vc8
  have c9 : ∀ t, Steps p.tables e below (T6.setTop (mkF m 63 #[.val (.ref r0), .val (.ref r1), .val (.int p2), .val (.int p3), .val (.int (((Int32.ofNat i) + (1 : Int32)) &&& ((Int32.ofNat M) - (1 : Int32))))] [])) t → Steps p.tables e below (T6.setTop (mkF m 81 #[.val (.ref r0), .val (.ref r1), .val (.int p2), .val (.int p3), .val (.int (Int32.ofNat i))] [(.ref sa), (.int ((Int32.ofNat i) + (1 : Int32)))])) t := by
    intro t kt
    show Steps p.tables e below (T6.setTop (mkF m 81 #[.val (.ref r0), .val (.ref r1), .val (.int p2), .val (.int p3), .val (.int (Int32.ofNat i))] [(.ref sa), (.int ((Int32.ofNat i) + (1 : Int32)))])) _
    refine X6.arraylength hx (by rw [e6]; exact Ar8.1) (State.isArrayOf_alike hZ.alike Ar8.2.1) (g := (mkF m 81 #[.val (.ref r0), .val (.ref r1), .val (.int p2), .val (.int p3), .val (.int (Int32.ofNat i))] [(.ref sa), (.int ((Int32.ofNat i) + (1 : Int32)))])) rfl rfl (hb hby d1_81) _ ?_
    rw [len_of S8 M8]
    show Steps p.tables e below (T6.setTop (mkF m 82 #[.val (.ref r0), .val (.ref r1), .val (.int p2), .val (.int p3), .val (.int (Int32.ofNat i))] [(.int (Int32.ofNat M)), (.int ((Int32.ofNat i) + (1 : Int32)))])) _
    refine XS.iconst X6.here hx rfl (hb hby d1_82) ?_
    show Steps p.tables e below (T6.setTop (mkF m 83 #[.val (.ref r0), .val (.ref r1), .val (.int p2), .val (.int p3), .val (.int (Int32.ofNat i))] [(.int (1 : Int32)), (.int (Int32.ofNat M)), (.int ((Int32.ofNat i) + (1 : Int32)))])) _
    refine XS.isub X6.here hx rfl (hb hby d1_83) rfl ?_
    show Steps p.tables e below (T6.setTop (mkF m 84 #[.val (.ref r0), .val (.ref r1), .val (.int p2), .val (.int p3), .val (.int (Int32.ofNat i))] [(.int ((Int32.ofNat M) - (1 : Int32))), (.int ((Int32.ofNat i) + (1 : Int32)))])) _
    refine XS.iand X6.here hx rfl (hb hby d1_84) rfl ?_
    show Steps p.tables e below (T6.setTop (mkF m 85 #[.val (.ref r0), .val (.ref r1), .val (.int p2), .val (.int p3), .val (.int (Int32.ofNat i))] [(.int (((Int32.ofNat i) + (1 : Int32)) &&& ((Int32.ofNat M) - (1 : Int32))))])) _
    refine XS.istore X6.here hx rfl (hb hby d1_85) rfl (l' := #[.val (.ref r0), .val (.ref r1), .val (.int p2), .val (.int p3), .val (.int (((Int32.ofNat i) + (1 : Int32)) &&& ((Int32.ofNat M) - (1 : Int32))))]) rfl ?_
    show Steps p.tables e below (T6.setTop (mkF m 87 #[.val (.ref r0), .val (.ref r1), .val (.int p2), .val (.int p3), .val (.int (((Int32.ofNat i) + (1 : Int32)) &&& ((Int32.ofNat M) - (1 : Int32))))] [])) _
    refine XS.goto X6.here hx rfl (pc0 := 87) (pc' := 63) rfl (hb hby d1_87) (by decide) (by decide) ?_
    exact kt
  exact ⟨T6, _, h0, X6, e6, N0, (Keep.refl h0 []), rfl, fun t kt => c2 _ (st1 _ (c5 _ (c7 _ (st6 _ (c9 _ (kt))))))⟩
set_option maxRecDepth 65536 in
set_option maxHeartbeats 40000000 in
theorem tn90 {p : Program} {l : Launch} {e : Env} {R : Room} {s : State} {m : MethodId} {args : Array Value} {below : List Frame} {meth : Method} {c : Code} {T0 : State} {locs : List Loc} {cells slots : Nat} {Z : State} {a0 : Array Value} {h0 : Heap} {n0 : Nat} (r0 r1 : Addr) (p2 p3 : Int32) (sa : Addr) (ks : ClassId) (M : Nat) (tab : List Nat) (i : Nat)
    (X0 : Stand p l e R s m args below meth c T0 locs cells slots) (hx : p.tables.exec = Jvm.exec) (hZ : Z.Warmed39 s.vm) (hw : ∀ d ∈ tables_1, d.before a0 Z = true) (hby : c.code = prog_18_method_1_code) (hml : c.maxLocals = 5) (hown : s.vm.findClass "com/example/mapstone/mapstone/engine/ConceptIndex" = some m.cls) (e0 : T0.heap = h0) (N0 : Fr n0 locs) (Z0 : n0 ≤ h0.size) (F_s : Fld Z h0 r0 "com/example/mapstone/mapstone/engine/ConceptIndex" "slots" "[I" (.ref sa)) (V_s : Arv Z h0 sa ks .int (Int32.ofNat M) (own_tv tab) (.int (0 : Int32))) (hi : i < M) (hM8 : M ≤ 8) (hl : tab.length = M) (hv : ∀ i, tab.getD i 0 ≤ 3) (ht : tab.getD i 0 = 0) :
    ∃ (T' : State) (locs' : List Loc) (h' : Heap), Stand p l e R s m args below meth c T' locs' cells slots ∧ T'.heap = h' ∧ Fr n0 locs' ∧ Keep h0 h' [] ∧ h' = h0 ∧ ∀ t, Steps p.tables e below (T'.setTop (mkF m 90 #[.val (.ref r0), .val (.ref r1), .val (.int p2), .val (.int p3), .val (.int (Int32.ofNat i))] [])) t → Steps p.tables e below (T0.setTop (mkF m 63 #[.val (.ref r0), .val (.ref r1), .val (.int p2), .val (.int p3), .val (.int (Int32.ofNat i))] [])) t := by
  have c2 : ∀ t, Steps p.tables e below (T0.setTop (mkF m 64 #[.val (.ref r0), .val (.ref r1), .val (.int p2), .val (.int p3), .val (.int (Int32.ofNat i))] [(.ref r0)])) t → Steps p.tables e below (T0.setTop (mkF m 63 #[.val (.ref r0), .val (.ref r1), .val (.int p2), .val (.int p3), .val (.int (Int32.ofNat i))] [])) t := by
    intro t kt
    show Steps p.tables e below (T0.setTop (mkF m 63 #[.val (.ref r0), .val (.ref r1), .val (.int p2), .val (.int p3), .val (.int (Int32.ofNat i))] [])) _
    refine XS.aloadN X0.here hx rfl (hb hby d1_63) rfl rfl ?_
    exact kt
  obtain ⟨T1, X1, e1, st1⟩ := getF X0 hx hZ hown (host := "") (Or.inl (hw _ (List.mem_of_getElem? (i := 27) rfl))) Via.refl e0 F_s (g := (mkF m 64 #[.val (.ref r0), .val (.ref r1), .val (.int p2), .val (.int p3), .val (.int (Int32.ofNat i))] [(.ref r0)])) rfl rfl (hb hby d1_64)
  have Vc3 := V_s
  obtain ⟨cl3, Ar3, qk3, S3, M3, H3, G3⟩ := Vc3
  have hin3 : ¬ ((Int32.ofNat i) < 0 ∨ cl3.slots.size ≤ ((Int32.ofNat i)).toNatClampNeg) := inb_of S3 (own_in i M hi hM8)
  have hat3 : cl3.slots[((Int32.ofNat i)).toNatClampNeg]? = some (.int (Int32.ofNat (tab.getD i 0))) := H3.at hin3 (own_tvat tab M i hl hi hM8 _)
  have c4 : ∀ t, Steps p.tables e below (T1.setTop (mkF m 90 #[.val (.ref r0), .val (.ref r1), .val (.int p2), .val (.int p3), .val (.int (Int32.ofNat i))] [])) t → Steps p.tables e below (T1.setTop (mkF m 67 #[.val (.ref r0), .val (.ref r1), .val (.int p2), .val (.int p3), .val (.int (Int32.ofNat i))] [(.ref sa)])) t := by
    intro t kt
    show Steps p.tables e below (T1.setTop (mkF m 67 #[.val (.ref r0), .val (.ref r1), .val (.int p2), .val (.int p3), .val (.int (Int32.ofNat i))] [(.ref sa)])) _
    refine XS.iload X1.here hx rfl (hb hby d1_67) rfl ?_
    show Steps p.tables e below (T1.setTop (mkF m 69 #[.val (.ref r0), .val (.ref r1), .val (.int p2), .val (.int p3), .val (.int (Int32.ofNat i))] [(.int (Int32.ofNat i)), (.ref sa)])) _
    refine X1.iaload hx (j := (Int32.ofNat i)) (v := (.int (Int32.ofNat (tab.getD i 0)))) (by rw [e1]; exact Ar3.1) (State.isArrayOf_alike hZ.alike Ar3.2.1) Ar3.2.2 hin3 hat3 (g := (mkF m 69 #[.val (.ref r0), .val (.ref r1), .val (.int p2), .val (.int p3), .val (.int (Int32.ofNat i))] [(.int (Int32.ofNat i)), (.ref sa)])) rfl rfl (hb hby d1_69) _ ?_
    show Steps p.tables e below (T1.setTop (mkF m 70 #[.val (.ref r0), .val (.ref r1), .val (.int p2), .val (.int p3), .val (.int (Int32.ofNat i))] [(.int (Int32.ofNat (tab.getD i 0)))])) _
    refine XS.ifYes X1.here hx rfl (pc0 := 70) (pc' := 90) rfl (hb hby d1_70) rfl ((if0 _ _).trans (teq ((own_zero _ (hv i)).mpr ht)).1) (by decide) (by decide) ?_
    exact kt
  exact ⟨T1, _, h0, X1, e1, N0, (Keep.refl h0 []), rfl, fun t kt => c2 _ (st1 _ (c4 _ (kt)))⟩
set_option maxRecDepth 65536 in
set_option maxHeartbeats 40000000 in
theorem lfree {p : Program} {l : Launch} {e : Env} {R : Room} {s : State} {m : MethodId} {args : Array Value} {below : List Frame} {meth : Method} {c : Code} {cells slots : Nat} {Z : State} {a0 : Array Value} {h0 : Heap} {n0 : Nat} {locs : List Loc} (r0 r1 : Addr) (p2 p3 : Int32) (sa : Addr) (ks : ClassId) (M : Nat) (tab : List Nat) (hx : p.tables.exec = Jvm.exec) (hZ : Z.Warmed39 s.vm) (hw : ∀ d ∈ tables_1, d.before a0 Z = true) (hby : c.code = prog_18_method_1_code) (hml : c.maxLocals = 5) (hown : s.vm.findClass "com/example/mapstone/mapstone/engine/ConceptIndex" = some m.cls) (N0 : Fr n0 locs) (Z0 : n0 ≤ h0.size) (F_s : Fld Z h0 r0 "com/example/mapstone/mapstone/engine/ConceptIndex" "slots" "[I" (.ref sa)) (V_s : Arv Z h0 sa ks .int (Int32.ofNat M) (own_tv tab) (.int (0 : Int32))) (hM : M = 2 ∨ M = 4 ∨ M = 8) (hl : tab.length = M) (hv : ∀ i, tab.getD i 0 ≤ 3) :
    ∀ (k i : Nat), i < M → tab.getD (own_free tab M k i) 0 = 0 → ∀ (T0 : State), Stand p l e R s m args below meth c T0 locs cells slots → T0.heap = h0 →
      ∃ (T' : State) (locs' : List Loc), Stand p l e R s m args below meth c T' locs' cells slots ∧ T'.heap = h0 ∧ Fr n0 locs' ∧ ∀ t, Steps p.tables e below (T'.setTop (mkF m 90 #[.val (.ref r0), .val (.ref r1), .val (.int p2), .val (.int p3), .val (.int (Int32.ofNat (own_free tab M k i)))] [])) t → Steps p.tables e below (T0.setTop (mkF m 63 #[.val (.ref r0), .val (.ref r1), .val (.int p2), .val (.int p3), .val (.int (Int32.ofNat i))] [])) t := by
  have hM8 : M ≤ 8 := by omega
  intro k
  induction k generalizing locs with
  | zero =>
    intro i hi ht T0 X e0
    obtain ⟨T1, l1, h1, X1, e1, N1, -, q1, s1⟩ := tn90 r0 r1 p2 p3 sa ks M tab i X hx hZ hw hby hml hown e0 N0 Z0 F_s V_s hi hM8 hl hv ht
    subst q1
    exact ⟨T1, l1, X1, e1, N1, s1⟩
  | succ k ih =>
    intro i hi ht T0 X e0
    by_cases z : tab.getD i 0 = 0
    · obtain ⟨T1, l1, h1, X1, e1, N1, -, q1, s1⟩ := tn90 r0 r1 p2 p3 sa ks M tab i X hx hZ hw hby hml hown e0 N0 Z0 F_s V_s hi hM8 hl hv z
      subst q1
      rw [show own_free tab M (k + 1) i = i from if_pos z]
      exact ⟨T1, l1, X1, e1, N1, s1⟩
    · obtain ⟨T1, l1, h1, X1, e1, N1, -, q1, s1⟩ := tn63 r0 r1 p2 p3 sa ks M tab i X hx hZ hw hby hml hown e0 N0 Z0 F_s V_s hi hM8 hl hv z
      subst q1
      have q : own_free tab M (k + 1) i = own_free tab M k ((i + 1) % M) := if_neg z
      rw [q] at ht ⊢
      obtain ⟨T2, l2, X2, e2, N2, s2⟩ := ih N1 ((i + 1) % M) (own_ltM M _ hM) ht T1 X1 e1
      refine ⟨T2, l2, X2, e2, N2, fun t kt => s1 t ?_⟩
      rw [own_next M hM i hi]
      exact s2 t kt
theorem d1_0 : decode prog_18_method_1_code 0 = .ok (.aload_n 0, 1) := by decide +kernel
theorem d1_1 : decode prog_18_method_1_code 1 = .ok (.invokespecial 1, 3) := by decide +kernel
theorem d1_4 : decode prog_18_method_1_code 4 = .ok (.aload_n 0, 1) := by decide +kernel
theorem d1_5 : decode prog_18_method_1_code 5 = .ok (.aload_n 1, 1) := by decide +kernel
theorem d1_6 : decode prog_18_method_1_code 6 = .ok (.putfield 7, 3) := by decide +kernel
theorem d1_9 : decode prog_18_method_1_code 9 = .ok (.bipush 64, 2) := by decide +kernel
theorem d1_11 : decode prog_18_method_1_code 11 = .ok (.ldc2_w 13, 3) := by decide +kernel
theorem d1_14 : decode prog_18_method_1_code 14 = .ok (.aload_n 1, 1) := by decide +kernel
theorem d1_15 : decode prog_18_method_1_code 15 = .ok (.arraylength, 1) := by decide +kernel
theorem d1_16 : decode prog_18_method_1_code 16 = .ok (.i2l, 1) := by decide +kernel
theorem d1_17 : decode prog_18_method_1_code 17 = .ok (.lmul, 1) := by decide +kernel
theorem d1_18 : decode prog_18_method_1_code 18 = .ok (.lconst 1, 1) := by decide +kernel
theorem d1_19 : decode prog_18_method_1_code 19 = .ok (.lsub, 1) := by decide +kernel
theorem d1_20 : decode prog_18_method_1_code 20 = .ok (.lconst 1, 1) := by decide +kernel
theorem d1_21 : decode prog_18_method_1_code 21 = .ok (.invokestatic 15, 3) := by decide +kernel
theorem d1_24 : decode prog_18_method_1_code 24 = .ok (.invokestatic 21, 3) := by decide +kernel
theorem d1_27 : decode prog_18_method_1_code 27 = .ok (.isub, 1) := by decide +kernel
theorem d1_28 : decode prog_18_method_1_code 28 = .ok (.istore_n 2, 1) := by decide +kernel
theorem d1_29 : decode prog_18_method_1_code 29 = .ok (.aload_n 0, 1) := by decide +kernel
theorem d1_30 : decode prog_18_method_1_code 30 = .ok (.iconst 1, 1) := by decide +kernel
theorem d1_31 : decode prog_18_method_1_code 31 = .ok (.iload_n 2, 1) := by decide +kernel
theorem d1_32 : decode prog_18_method_1_code 32 = .ok (.ishl, 1) := by decide +kernel
theorem d1_33 : decode prog_18_method_1_code 33 = .ok (.newarray .int, 2) := by decide +kernel
theorem d1_35 : decode prog_18_method_1_code 35 = .ok (.putfield 27, 3) := by decide +kernel
theorem d1_38 : decode prog_18_method_1_code 38 = .ok (.aload_n 0, 1) := by decide +kernel
theorem d1_39 : decode prog_18_method_1_code 39 = .ok (.bipush 64, 2) := by decide +kernel
theorem d1_41 : decode prog_18_method_1_code 41 = .ok (.iload_n 2, 1) := by decide +kernel
theorem d1_42 : decode prog_18_method_1_code 42 = .ok (.isub, 1) := by decide +kernel
theorem d1_43 : decode prog_18_method_1_code 43 = .ok (.putfield 31, 3) := by decide +kernel
theorem d1_46 : decode prog_18_method_1_code 46 = .ok (.iconst 0, 1) := by decide +kernel
theorem d1_47 : decode prog_18_method_1_code 47 = .ok (.istore_n 3, 1) := by decide +kernel
theorem d1_48 : decode prog_18_method_1_code 48 = .ok (.iload_n 3, 1) := by decide +kernel
theorem d1_49 : decode prog_18_method_1_code 49 = .ok (.aload_n 1, 1) := by decide +kernel
theorem d1_50 : decode prog_18_method_1_code 50 = .ok (.arraylength, 1) := by decide +kernel
theorem d1_51 : decode prog_18_method_1_code 51 = .ok (.if_icmp .ge 55, 3) := by decide +kernel
theorem d1_106 : decode prog_18_method_1_code 106 = .ok (.return_, 1) := by decide +kernel
theorem pn_1 : plainName "com/example/mapstone/mapstone/engine/ConceptIndex" = true := by first | (simp [plainName, overriddenIn]; done) | decide +kernel
theorem ef_1 (m : MethodId) (x0 : Addr) (x1 : Addr) : entryFrame m #[(.ref x0), (.ref x1)] 5 = mkF m 0 #[.val (.ref x0), .val (.ref x1), .unset, .unset, .unset] [] := by first | (simp [entryFrame, mkF, argsToLocals, Value.category]; done) | rfl
def Q1_0 (Z : State) (r0 : Addr) (r1 : Addr) (kc : ClassId) (dj : Value) (h0 : Heap) (n0 : Nat) (v : Option Value) (h : Heap) (L : List Loc) : Prop := ∃ (sa : Addr) (ks : ClassId), v = none ∧ Fr n0 L ∧ Keep h0 h [r0] ∧ Exa Z h r0 "com/example/mapstone/mapstone/engine/ConceptIndex" ∧ Fld Z h r0 "com/example/mapstone/mapstone/engine/ConceptIndex" "concepts" "[J" (.ref r1) ∧ Fld Z h r0 "com/example/mapstone/mapstone/engine/ConceptIndex" "slots" "[I" (.ref sa) ∧ Fld Z h r0 "com/example/mapstone/mapstone/engine/ConceptIndex" "shift" "I" (.int (63 : Int32)) ∧ Arv Z h sa ks .int (Int32.ofNat 2) (own_tv (List.replicate 2 0)) (.int (0 : Int32))
set_option maxRecDepth 65536 in
set_option maxHeartbeats 40000000 in
theorem rm1_0 (l : Launch) (Z : State) (a0 : Array Value) (hw : ∀ d ∈ tables_1, d.before a0 Z = true) (ws : List Jvm.Cond) (r0 : Addr) (r1 : Addr) (kc : ClassId) (dj : Value) (h0 : Heap) (n0 : Nat) (Z0 : n0 ≤ h0.size) (V_c : Arv Z h0 r1 kc .long (0 : Int32) [] dj) (F_c : Fld Z h0 r0 "com/example/mapstone/mapstone/engine/ConceptIndex" "concepts" "[J" .null) (F_s : Fld Z h0 r0 "com/example/mapstone/mapstone/engine/ConceptIndex" "slots" "[I" .null) (F_h : Fld Z h0 r0 "com/example/mapstone/mapstone/engine/ConceptIndex" "shift" "I" (.int (0 : Int32))) (E0 : Exa Z h0 r0 "com/example/mapstone/mapstone/engine/ConceptIndex") (g_r0 : n0 ≤ r0) (hne : r1 ≠ r0) :
    MetFree l (⟨"com/example/mapstone/mapstone/engine/ConceptIndex", "<init>", "([J)V"⟩ : MethodName) (head1 (Jvm.Cond.code (⟨"com/example/mapstone/mapstone/engine/ConceptIndex", "<init>", "([J)V"⟩ : MethodName) prog_18_method_1_code 5 none :: ws) ({ frames := 2, cells := 1, slots := 2, locals := 29 } : Room)) (fun a U => a = #[(.ref r0), (.ref r1)] ∧ Z.Warmed39 U.vm ∧ U.heap = h0) (fun _ _ _ _ _ => True) (fun _ U o U' => ∃ v L, o = .returned v ∧ Q1_0 Z r0 r1 kc  dj h0 n0 v U'.heap L ∧ FrameEnd U o U' L ({ frames := 2, cells := 1, slots := 2, locals := 29 } : Room).cells ({ frames := 2, cells := 1, slots := 2, locals := 29 } : Room).slots) := by
  refine MetFree.of_bodySF (plainFor_of_name pn_1) hisR ?_
  intro p e s m args below meth c s₁ Bd hml0 hP hK
  obtain ⟨rfl, hZ, hh⟩ := hP
  have hx := Bd.exec
  have hby := Bd.bytes
  have hml : c.maxLocals = 5 := hml0
  have hown : s.vm.findClass "com/example/mapstone/mapstone/engine/ConceptIndex" = some m.cls := findClass_of_methodNamed Bd.named
  have hnm := (name_of_methodNamed Bd.named Bd.method).1
  have X0 : Stand p l e ({ frames := 2, cells := 1, slots := 2, locals := 29 } : Room) s m #[(.ref r0), (.ref r1)] below meth c s₁ [] 0 0 := Stand.of_body Bd
  have e0 : s₁.heap = h0 := by rw [← hh, Bd.state]; rfl
  have N0 := Fr.nil n0
  have pre0 : ∀ t, Steps p.tables e below (s₁.setTop (mkF m 0 #[.val (.ref r0), .val (.ref r1), .unset, .unset, .unset] [])) t → Steps p.tables e below (s₁.setTop (entryFrame m #[(.ref r0), (.ref r1)] 5)) t := fun t k => castTop (ef_1 m r0 r1) k
  have c2 : ∀ t, Steps p.tables e below (s₁.setTop (mkF m 1 #[.val (.ref r0), .val (.ref r1), .unset, .unset, .unset] [(.ref r0)])) t → Steps p.tables e below (s₁.setTop (mkF m 0 #[.val (.ref r0), .val (.ref r1), .unset, .unset, .unset] [])) t := by
    intro t kt
    show Steps p.tables e below (s₁.setTop (mkF m 0 #[.val (.ref r0), .val (.ref r1), .unset, .unset, .unset] [])) _
    refine XS.aloadN X0.here hx rfl (hb hby d1_0) rfl rfl ?_
    exact kt
  obtain ⟨T1, X1, e1, st1⟩ := initO X0 hx hZ hown (hw _ (List.mem_of_getElem? (i := 7) rfl)) (hw _ (List.mem_of_getElem? (i := 8) rfl)) (hw _ (List.mem_of_getElem? (i := 9) rfl)) e0 (g := (mkF m 1 #[.val (.ref r0), .val (.ref r1), .unset, .unset, .unset] [(.ref r0)])) rfl (by rw [hml]; rfl) rfl (hb hby d1_1) (by decide) (W := 0) (by show 2 * 0 + _ ≤ _; exact Nat.le_of_eq rfl) (by decide)
  have c4 : ∀ t, Steps p.tables e below (T1.setTop (mkF m 6 #[.val (.ref r0), .val (.ref r1), .unset, .unset, .unset] [(.ref r1), (.ref r0)])) t → Steps p.tables e below (T1.setTop (mkF m 4 #[.val (.ref r0), .val (.ref r1), .unset, .unset, .unset] [])) t := by
    intro t kt
    show Steps p.tables e below (T1.setTop (mkF m 4 #[.val (.ref r0), .val (.ref r1), .unset, .unset, .unset] [])) _
    refine XS.aloadN X1.here hx rfl (hb hby d1_4) rfl rfl ?_
    show Steps p.tables e below (T1.setTop (mkF m 5 #[.val (.ref r0), .val (.ref r1), .unset, .unset, .unset] [(.ref r0)])) _
    refine XS.aloadN X1.here hx rfl (hb hby d1_5) rfl rfl ?_
    exact kt
  obtain ⟨T3, h3, X3, e3, W3, st3⟩ := putF X1 hx hZ hown (host := "") (Or.inl (hw _ (List.mem_of_getElem? (i := 10) rfl))) Via.refl e1 F_c E0 (Or.inr ⟨(hw _ (List.mem_of_getElem? (i := 11) rfl)), rfl, hnm⟩) (hw _ (List.mem_of_getElem? (i := 2) rfl)) (ty := (.array .long)) (by decide) rfl rfl (g := (mkF m 6 #[.val (.ref r0), .val (.ref r1), .unset, .unset, .unset] [(.ref r1), (.ref r0)])) rfl rfl (hb hby d1_6)
  have Fw3 := F_c.same W3
  have N3 := Fr.snoc X3 N0 g_r0
  have f5 := (V_c.other W3 hne)
  have Vc6 := f5
  obtain ⟨cl6, Ar6, qk6, S6, M6, H6, G6⟩ := Vc6
  have c7 : ∀ t, Steps p.tables e below (T3.setTop (mkF m 21 #[.val (.ref r0), .val (.ref r1), .unset, .unset, .unset] [(.long (1 : Int64)), (.long (((2 : Int64) * ((0 : Int32).toInt64)) - (1 : Int64))), (.int (64 : Int32))])) t → Steps p.tables e below (T3.setTop (mkF m 9 #[.val (.ref r0), .val (.ref r1), .unset, .unset, .unset] [])) t := by
    intro t kt
    show Steps p.tables e below (T3.setTop (mkF m 9 #[.val (.ref r0), .val (.ref r1), .unset, .unset, .unset] [])) _
    refine XS.bipush X3.here hx rfl (hb hby d1_9) ?_
    show Steps p.tables e below (T3.setTop (mkF m 11 #[.val (.ref r0), .val (.ref r1), .unset, .unset, .unset] [(.int (64 : Int32))])) _
    refine X3.ldc2Long hx hown (mvT hZ (hw _ (List.mem_of_getElem? (i := 12) rfl))) (g := (mkF m 11 #[.val (.ref r0), .val (.ref r1), .unset, .unset, .unset] [(.int (64 : Int32))])) rfl (hb hby d1_11) _ ?_
    show Steps p.tables e below (T3.setTop (mkF m 14 #[.val (.ref r0), .val (.ref r1), .unset, .unset, .unset] [(.long (2 : Int64)), (.int (64 : Int32))])) _
    refine XS.aloadN X3.here hx rfl (hb hby d1_14) rfl rfl ?_
    show Steps p.tables e below (T3.setTop (mkF m 15 #[.val (.ref r0), .val (.ref r1), .unset, .unset, .unset] [(.ref r1), (.long (2 : Int64)), (.int (64 : Int32))])) _
    refine X3.arraylength hx (by rw [e3]; exact Ar6.1) (State.isArrayOf_alike hZ.alike Ar6.2.1) (g := (mkF m 15 #[.val (.ref r0), .val (.ref r1), .unset, .unset, .unset] [(.ref r1), (.long (2 : Int64)), (.int (64 : Int32))])) rfl rfl (hb hby d1_15) _ ?_
    rw [len_of S6 M6]
    show Steps p.tables e below (T3.setTop (mkF m 16 #[.val (.ref r0), .val (.ref r1), .unset, .unset, .unset] [(.int (0 : Int32)), (.long (2 : Int64)), (.int (64 : Int32))])) _
    refine XS.i2l X3.here hx rfl (hb hby d1_16) rfl ?_
    show Steps p.tables e below (T3.setTop (mkF m 17 #[.val (.ref r0), .val (.ref r1), .unset, .unset, .unset] [(.long ((0 : Int32).toInt64)), (.long (2 : Int64)), (.int (64 : Int32))])) _
    refine XS.lmul X3.here hx rfl (hb hby d1_17) rfl ?_
    show Steps p.tables e below (T3.setTop (mkF m 18 #[.val (.ref r0), .val (.ref r1), .unset, .unset, .unset] [(.long ((2 : Int64) * ((0 : Int32).toInt64))), (.int (64 : Int32))])) _
    refine XS.lconst X3.here hx rfl (hb hby d1_18) ?_
    show Steps p.tables e below (T3.setTop (mkF m 19 #[.val (.ref r0), .val (.ref r1), .unset, .unset, .unset] [(.long (1 : Int64)), (.long ((2 : Int64) * ((0 : Int32).toInt64))), (.int (64 : Int32))])) _
    refine XS.lsub X3.here hx rfl (hb hby d1_19) rfl ?_
    show Steps p.tables e below (T3.setTop (mkF m 20 #[.val (.ref r0), .val (.ref r1), .unset, .unset, .unset] [(.long (((2 : Int64) * ((0 : Int32).toInt64)) - (1 : Int64))), (.int (64 : Int32))])) _
    refine XS.lconst X3.here hx rfl (hb hby d1_20) ?_
    exact kt
  have c8 : ∀ t, Steps p.tables e below (T3.setTop (mkF m 21 #[.val (.ref r0), .val (.ref r1), .unset, .unset, .unset] [(.long (1 : Int64)), (.long (-1 : Int64)), (.int (64 : Int32))])) t → Steps p.tables e below (T3.setTop (mkF m 21 #[.val (.ref r0), .val (.ref r1), .unset, .unset, .unset] [(.long (1 : Int64)), (.long (((2 : Int64) * ((0 : Int32).toInt64)) - (1 : Int64))), (.int (64 : Int32))])) t := fun t kt => castTop (congrArg (fun z => (mkF m 21 #[.val (.ref r0), .val (.ref r1), .unset, .unset, .unset] [(.long (1 : Int64)), (.long z), (.int (64 : Int32))])) (show (((2 : Int64) * ((0 : Int32).toInt64)) - (1 : Int64)) = (-1 : Int64) from by decide)) kt
  have f9 := (Nat.le_trans Z0 (Keep.of_wr W3).1)
  obtain ⟨_, _, ⟨T10, L10, k10, n10⟩, -, X10, ⟨Lc10, hQ10, l10, y10, z10⟩, st10⟩ := Jvm.LawKit.callS X3 hx (y := (⟨"java/lang/Math", "max", "(JJ)J"⟩ : MethodName)) hown (mvT hZ (hw _ (List.mem_of_getElem? (i := 13) rfl))) (mvT hZ (hw _ (List.mem_of_getElem? (i := 14) rfl))) (mvT hZ (hw _ (List.mem_of_getElem? (i := 15) rfl))) (mvT hZ (hw _ (List.mem_of_getElem? (i := 16) rfl))) (by decide) (backOf (W := 1) (rm3 l Z a0 hw [] (-1 : Int64) (1 : Int64)  h3 n0 f9 ) hZ (hw _ (List.mem_of_getElem? (i := 16) rfl)) (hw _ (List.mem_of_getElem? (i := 15) rfl)) (by decide) (by decide)) (g := (mkF m 21 #[.val (.ref r0), .val (.ref r1), .unset, .unset, .unset] [(.long (1 : Int64)), (.long (-1 : Int64)), (.int (64 : Int32))])) rfl (by rw [hml]; rfl) (argsL := [(.long (-1 : Int64)), (.long (1 : Int64))]) (rest := [(.int (64 : Int32))]) (lenOf pd_1 rfl) rfl (by show 2 * 0 + _ ≤ _; exact Nat.le_of_eq rfl) (hb hby d1_21) (fun _ _ => ⟨rfl, e3, (by decide : 0 + 0 ≤ _), (by decide : 0 + 0 ≤ _)⟩)
  dsimp only [Pt.U, Pt.locs, Pt.cells, Pt.slots] at X10 l10 y10 z10 st10 hQ10
  subst l10 y10 z10
  obtain ⟨rfl, N10q, e10⟩ := hQ10
  have N10 := Fr.app N3 N10q
  have c11 : ∀ t, Steps p.tables e below (T10.setTop (mkF m 24 #[.val (.ref r0), .val (.ref r1), .unset, .unset, .unset] [(.long (1 : Int64)), (.int (64 : Int32))])) t → Steps p.tables e below (T10.setTop (mkF m 24 #[.val (.ref r0), .val (.ref r1), .unset, .unset, .unset] [(.long (own_max (-1 : Int64) (1 : Int64))), (.int (64 : Int32))])) t := fun t kt => castTop (congrArg (fun z => (mkF m 24 #[.val (.ref r0), .val (.ref r1), .unset, .unset, .unset] [(.long z), (.int (64 : Int32))])) (show (own_max (-1 : Int64) (1 : Int64)) = (1 : Int64) from by decide)) kt
  obtain ⟨_, _, ⟨T12, L12, k12, n12⟩, -, X12, ⟨Lc12, hQ12, l12, y12, z12⟩, st12⟩ := Jvm.LawKit.callS X10 hx (y := (⟨"java/lang/Long", "numberOfLeadingZeros", "(J)I"⟩ : MethodName)) hown (mvT hZ (hw _ (List.mem_of_getElem? (i := 17) rfl))) (mvT hZ (hw _ (List.mem_of_getElem? (i := 18) rfl))) (mvT hZ (hw _ (List.mem_of_getElem? (i := 19) rfl))) (mvT hZ (hw _ (List.mem_of_getElem? (i := 20) rfl))) (by decide) (backOf (W := 1) (rm4_1 l Z a0 hw []   h3 n0 f9 ) hZ (hw _ (List.mem_of_getElem? (i := 20) rfl)) (hw _ (List.mem_of_getElem? (i := 19) rfl)) (by decide) (by decide)) (g := (mkF m 24 #[.val (.ref r0), .val (.ref r1), .unset, .unset, .unset] [(.long (1 : Int64)), (.int (64 : Int32))])) rfl (by rw [hml]; rfl) (argsL := [(.long (1 : Int64))]) (rest := [(.int (64 : Int32))]) (lenOf pd_2 rfl) rfl (by show 2 * 0 + _ ≤ _; exact Nat.le_of_eq rfl) (hb hby d1_24) (fun _ _ => ⟨rfl, e10, (by decide : 0 + 0 ≤ _), (by decide : 0 + 0 ≤ _)⟩)
  dsimp only [Pt.U, Pt.locs, Pt.cells, Pt.slots] at X12 l12 y12 z12 st12 hQ12
  subst l12 y12 z12
  obtain ⟨rfl, N12q, e12⟩ := hQ12
  have N12 := Fr.app N10 N12q
  have c13 : ∀ t, Steps p.tables e below (T12.setTop (mkF m 33 #[.val (.ref r0), .val (.ref r1), .val (.int ((64 : Int32) - (63 : Int32))), .unset, .unset] [(.int ((1 : Int32) <<< (((64 : Int32) - (63 : Int32)) &&& 31))), (.ref r0)])) t → Steps p.tables e below (T12.setTop (mkF m 27 #[.val (.ref r0), .val (.ref r1), .unset, .unset, .unset] [(.int (63 : Int32)), (.int (64 : Int32))])) t := by
    intro t kt
    show Steps p.tables e below (T12.setTop (mkF m 27 #[.val (.ref r0), .val (.ref r1), .unset, .unset, .unset] [(.int (63 : Int32)), (.int (64 : Int32))])) _
    refine XS.isub X12.here hx rfl (hb hby d1_27) rfl ?_
    show Steps p.tables e below (T12.setTop (mkF m 28 #[.val (.ref r0), .val (.ref r1), .unset, .unset, .unset] [(.int ((64 : Int32) - (63 : Int32)))])) _
    refine XS.istoreN X12.here hx rfl (hb hby d1_28) rfl (l' := #[.val (.ref r0), .val (.ref r1), .val (.int ((64 : Int32) - (63 : Int32))), .unset, .unset]) rfl ?_
    show Steps p.tables e below (T12.setTop (mkF m 29 #[.val (.ref r0), .val (.ref r1), .val (.int ((64 : Int32) - (63 : Int32))), .unset, .unset] [])) _
    refine XS.aloadN X12.here hx rfl (hb hby d1_29) rfl rfl ?_
    show Steps p.tables e below (T12.setTop (mkF m 30 #[.val (.ref r0), .val (.ref r1), .val (.int ((64 : Int32) - (63 : Int32))), .unset, .unset] [(.ref r0)])) _
    refine XS.iconst X12.here hx rfl (hb hby d1_30) ?_
    show Steps p.tables e below (T12.setTop (mkF m 31 #[.val (.ref r0), .val (.ref r1), .val (.int ((64 : Int32) - (63 : Int32))), .unset, .unset] [(.int (1 : Int32)), (.ref r0)])) _
    refine XS.iloadN X12.here hx rfl (hb hby d1_31) rfl ?_
    show Steps p.tables e below (T12.setTop (mkF m 32 #[.val (.ref r0), .val (.ref r1), .val (.int ((64 : Int32) - (63 : Int32))), .unset, .unset] [(.int ((64 : Int32) - (63 : Int32))), (.int (1 : Int32)), (.ref r0)])) _
    refine XS.ishl X12.here hx rfl (hb hby d1_32) rfl ?_
    exact kt
  have c14 : ∀ t, Steps p.tables e below (T12.setTop (mkF m 33 #[.val (.ref r0), .val (.ref r1), .val (.int ((64 : Int32) - (63 : Int32))), .unset, .unset] [(.int (2 : Int32)), (.ref r0)])) t → Steps p.tables e below (T12.setTop (mkF m 33 #[.val (.ref r0), .val (.ref r1), .val (.int ((64 : Int32) - (63 : Int32))), .unset, .unset] [(.int ((1 : Int32) <<< (((64 : Int32) - (63 : Int32)) &&& 31))), (.ref r0)])) t := fun t kt => castTop (congrArg (fun z => (mkF m 33 #[.val (.ref r0), .val (.ref r1), .val (.int ((64 : Int32) - (63 : Int32))), .unset, .unset] [(.int z), (.ref r0)])) (show ((1 : Int32) <<< (((64 : Int32) - (63 : Int32)) &&& 31)) = (2 : Int32) from by decide)) kt
  have c15 : ∀ t, Steps p.tables e below (T12.setTop (mkF m 33 #[.val (.ref r0), .val (.ref r1), .val (.int (1 : Int32)), .unset, .unset] [(.int (2 : Int32)), (.ref r0)])) t → Steps p.tables e below (T12.setTop (mkF m 33 #[.val (.ref r0), .val (.ref r1), .val (.int ((64 : Int32) - (63 : Int32))), .unset, .unset] [(.int (2 : Int32)), (.ref r0)])) t := fun t kt => castTop (congrArg (fun z => (mkF m 33 #[.val (.ref r0), .val (.ref r1), .val (.int z), .unset, .unset] [(.int (2 : Int32)), (.ref r0)])) (show ((64 : Int32) - (63 : Int32)) = (1 : Int32) from by decide)) kt
  obtain ⟨T16, h16, k16, X16, e16, E16, A16, st16⟩ := newP X12 hx hZ (hw _ (List.mem_of_getElem? (i := 26) rfl)) e12 (g := (mkF m 33 #[.val (.ref r0), .val (.ref r1), .val (.int (1 : Int32)), .unset, .unset] [(.int (2 : Int32)), (.ref r0)])) rfl (hb hby d1_33) rfl (by decide) (cap := 2) (by decide) (by decide) (by decide) (by decide)
  obtain ⟨b16, g16⟩ : ∃ z, z = h3.size := ⟨_, rfl⟩
  rw [← g16] at A16 st16
  have f17 := ((Keep.refl h0 [r0]).wr W3 (Or.inl (List.mem_of_getElem? (i := 0) rfl)))
  have g_b16 : n0 ≤ b16 := Nat.le_trans f9 (Nat.le_of_eq g16.symm)
  have sz_b16 : h0.size ≤ b16 := Nat.le_trans f17.1 (Nat.le_of_eq g16.symm)
  have lt_r1_16 := f5.lt
  have lt_r0_16 := Fw3.lt
  have V16 : Arv Z h16 b16 k16 .int (2 : Int32) [(.int (0 : Int32)), (.int (0 : Int32))] (.int (0 : Int32)) := (Arv.new A16 (by decide)).pad (pad_rep [] (.int (0 : Int32)) 2)
  have f18 := ((F_s.other W3 (Or.inr (slot_ne (a0 := a0) (Or.inr (hw _ (List.mem_of_getElem? (i := 28) rfl))) (Or.inr (hw _ (List.mem_of_getElem? (i := 11) rfl))) (by decide) (t := (.array .int)) (t' := (.array .long)) (by decide) (by decide)))).ext E16)
  have f19 := ((E0.wr W3).ext E16)
  obtain ⟨T20, h20, X20, e20, W20, st20⟩ := putF X16 hx hZ hown (host := "") (Or.inl (hw _ (List.mem_of_getElem? (i := 27) rfl))) Via.refl e16 f18 f19 (Or.inr ⟨(hw _ (List.mem_of_getElem? (i := 28) rfl)), rfl, hnm⟩) (hw _ (List.mem_of_getElem? (i := 2) rfl)) (ty := (.array .int)) (by decide) rfl rfl (g := (mkF m 35 #[.val (.ref r0), .val (.ref r1), .val (.int (1 : Int32)), .unset, .unset] [(.ref b16), (.ref r0)])) rfl rfl (hb hby d1_35)
  have Fw20 := f18.same W20
  have N20 := Fr.snoc X20 N12 g_r0
  have c21 : ∀ t, Steps p.tables e below (T20.setTop (mkF m 43 #[.val (.ref r0), .val (.ref r1), .val (.int (1 : Int32)), .unset, .unset] [(.int ((64 : Int32) - (1 : Int32))), (.ref r0)])) t → Steps p.tables e below (T20.setTop (mkF m 38 #[.val (.ref r0), .val (.ref r1), .val (.int (1 : Int32)), .unset, .unset] [])) t := by
    intro t kt
    show Steps p.tables e below (T20.setTop (mkF m 38 #[.val (.ref r0), .val (.ref r1), .val (.int (1 : Int32)), .unset, .unset] [])) _
    refine XS.aloadN X20.here hx rfl (hb hby d1_38) rfl rfl ?_
    show Steps p.tables e below (T20.setTop (mkF m 39 #[.val (.ref r0), .val (.ref r1), .val (.int (1 : Int32)), .unset, .unset] [(.ref r0)])) _
    refine XS.bipush X20.here hx rfl (hb hby d1_39) ?_
    show Steps p.tables e below (T20.setTop (mkF m 41 #[.val (.ref r0), .val (.ref r1), .val (.int (1 : Int32)), .unset, .unset] [(.int (64 : Int32)), (.ref r0)])) _
    refine XS.iloadN X20.here hx rfl (hb hby d1_41) rfl ?_
    show Steps p.tables e below (T20.setTop (mkF m 42 #[.val (.ref r0), .val (.ref r1), .val (.int (1 : Int32)), .unset, .unset] [(.int (1 : Int32)), (.int (64 : Int32)), (.ref r0)])) _
    refine XS.isub X20.here hx rfl (hb hby d1_42) rfl ?_
    exact kt
  have c22 : ∀ t, Steps p.tables e below (T20.setTop (mkF m 43 #[.val (.ref r0), .val (.ref r1), .val (.int (1 : Int32)), .unset, .unset] [(.int (63 : Int32)), (.ref r0)])) t → Steps p.tables e below (T20.setTop (mkF m 43 #[.val (.ref r0), .val (.ref r1), .val (.int (1 : Int32)), .unset, .unset] [(.int ((64 : Int32) - (1 : Int32))), (.ref r0)])) t := fun t kt => castTop (congrArg (fun z => (mkF m 43 #[.val (.ref r0), .val (.ref r1), .val (.int (1 : Int32)), .unset, .unset] [(.int z), (.ref r0)])) (show ((64 : Int32) - (1 : Int32)) = (63 : Int32) from by decide)) kt
  have f23 := (((F_h.other W3 (Or.inr (slot_ne (a0 := a0) (Or.inr (hw _ (List.mem_of_getElem? (i := 30) rfl))) (Or.inr (hw _ (List.mem_of_getElem? (i := 11) rfl))) (by decide) (t := .int) (t' := (.array .long)) (by decide) (by decide)))).ext E16).other W20 (Or.inr (slot_ne (a0 := a0) (Or.inr (hw _ (List.mem_of_getElem? (i := 30) rfl))) (Or.inr (hw _ (List.mem_of_getElem? (i := 28) rfl))) (by decide) (t := .int) (t' := (.array .int)) (by decide) (by decide))))
  have f24 := (f19.wr W20)
  obtain ⟨T25, h25, X25, e25, W25, st25⟩ := putF X20 hx hZ hown (host := "") (Or.inl (hw _ (List.mem_of_getElem? (i := 29) rfl))) Via.refl e20 f23 f24 (Or.inr ⟨(hw _ (List.mem_of_getElem? (i := 30) rfl)), rfl, hnm⟩) (hw _ (List.mem_of_getElem? (i := 2) rfl)) (ty := .int) (by decide) rfl rfl (g := (mkF m 43 #[.val (.ref r0), .val (.ref r1), .val (.int (1 : Int32)), .unset, .unset] [(.int (63 : Int32)), (.ref r0)])) rfl rfl (hb hby d1_43)
  have Fw25 := f23.same W25
  have N25 := Fr.snoc X25 N20 g_r0
  have f26 := (((f5.ext E16).other W20 hne).other W25 hne)
  have Vc27 := f26
  obtain ⟨cl27, Ar27, qk27, S27, M27, H27, G27⟩ := Vc27
  have c28 : ∀ t, Steps p.tables e below (T25.setTop (mkF m 106 #[.val (.ref r0), .val (.ref r1), .val (.int (1 : Int32)), .val (.int (0 : Int32)), .unset] [])) t → Steps p.tables e below (T25.setTop (mkF m 46 #[.val (.ref r0), .val (.ref r1), .val (.int (1 : Int32)), .unset, .unset] [])) t := by
    intro t kt
    show Steps p.tables e below (T25.setTop (mkF m 46 #[.val (.ref r0), .val (.ref r1), .val (.int (1 : Int32)), .unset, .unset] [])) _
    refine XS.iconst X25.here hx rfl (hb hby d1_46) ?_
    show Steps p.tables e below (T25.setTop (mkF m 47 #[.val (.ref r0), .val (.ref r1), .val (.int (1 : Int32)), .unset, .unset] [(.int (0 : Int32))])) _
    refine XS.istoreN X25.here hx rfl (hb hby d1_47) rfl (l' := #[.val (.ref r0), .val (.ref r1), .val (.int (1 : Int32)), .val (.int (0 : Int32)), .unset]) rfl ?_
    show Steps p.tables e below (T25.setTop (mkF m 48 #[.val (.ref r0), .val (.ref r1), .val (.int (1 : Int32)), .val (.int (0 : Int32)), .unset] [])) _
    refine XS.iloadN X25.here hx rfl (hb hby d1_48) rfl ?_
    show Steps p.tables e below (T25.setTop (mkF m 49 #[.val (.ref r0), .val (.ref r1), .val (.int (1 : Int32)), .val (.int (0 : Int32)), .unset] [(.int (0 : Int32))])) _
    refine XS.aloadN X25.here hx rfl (hb hby d1_49) rfl rfl ?_
    show Steps p.tables e below (T25.setTop (mkF m 50 #[.val (.ref r0), .val (.ref r1), .val (.int (1 : Int32)), .val (.int (0 : Int32)), .unset] [(.ref r1), (.int (0 : Int32))])) _
    refine X25.arraylength hx (by rw [e25]; exact Ar27.1) (State.isArrayOf_alike hZ.alike Ar27.2.1) (g := (mkF m 50 #[.val (.ref r0), .val (.ref r1), .val (.int (1 : Int32)), .val (.int (0 : Int32)), .unset] [(.ref r1), (.int (0 : Int32))])) rfl rfl (hb hby d1_50) _ ?_
    rw [len_of S27 M27]
    show Steps p.tables e below (T25.setTop (mkF m 51 #[.val (.ref r0), .val (.ref r1), .val (.int (1 : Int32)), .val (.int (0 : Int32)), .unset] [(.int (0 : Int32)), (.int (0 : Int32))])) _
    refine XS.icmpYes X25.here hx rfl (pc0 := 51) (pc' := 106) rfl (hb hby d1_51) rfl (flt (by decide : ¬ ((0 : Int32) < (0 : Int32)))).2.1 (by decide) (by decide) ?_
    exact kt
  obtain ⟨fs, hr, hrun, hended, hW, hsame⟩ := X25.leave (v := none) (fun _ => rfl)
  have f30 := (((f17.ext E16).wr W20 (Or.inl (List.mem_of_getElem? (i := 0) rfl))).wr W25 (Or.inl (List.mem_of_getElem? (i := 0) rfl)))
  have f31 := (f24.wr W25)
  have f32 := (((Fw3.ext E16).other W20 (Or.inr (slot_ne (a0 := a0) (Or.inr (hw _ (List.mem_of_getElem? (i := 11) rfl))) (Or.inr (hw _ (List.mem_of_getElem? (i := 28) rfl))) (by decide) (t := (.array .long)) (t' := (.array .int)) (by decide) (by decide)))).other W25 (Or.inr (slot_ne (a0 := a0) (Or.inr (hw _ (List.mem_of_getElem? (i := 11) rfl))) (Or.inr (hw _ (List.mem_of_getElem? (i := 30) rfl))) (by decide) (t := (.array .long)) (t' := .int) (by decide) (by decide))))
  have f33 := (Fw20.other W25 (Or.inr (slot_ne (a0 := a0) (Or.inr (hw _ (List.mem_of_getElem? (i := 28) rfl))) (Or.inr (hw _ (List.mem_of_getElem? (i := 30) rfl))) (by decide) (t := (.array .int)) (t' := .int) (by decide) (by decide))))
  have f34 := ((V16.other W20 (Ne.symm (Nat.ne_of_lt (Nat.lt_of_lt_of_le lt_r0_16 (Nat.le_of_eq g16.symm))))).other W25 (Ne.symm (Nat.ne_of_lt (Nat.lt_of_lt_of_le lt_r0_16 (Nat.le_of_eq g16.symm)))))
  refine ⟨_, _, pre0 _ (c2 _ (st1 _ (c4 _ (st3 _ (c7 _ (c8 _ (st10 _ (c11 _ (st12 _ (c13 _ (c14 _ (c15 _ (st16 _ (st20 _ (c21 _ (c22 _ (st25 _ (c28 _ (?_))))))))))))))))))), hrun, hended, _, _, rfl, ?_, ⟨_, rfl⟩, hW, hsame.mono (by decide) (by decide)⟩
  · show Steps p.tables e below (T25.setTop (mkF m 106 #[.val (.ref r0), .val (.ref r1), .val (.int (1 : Int32)), .val (.int (0 : Int32)), .unset] [])) _
    exact X25.returnOut hx Bd.returns (hb hby d1_106) hr
  · show Q1_0 Z r0 r1 kc  dj h0 n0 _ T25.heap _
    rw [e25]
    exact ⟨b16, k16, rfl, N25, f30, f31, f32, f33, Fw25, f34⟩
theorem d1_54 : decode prog_18_method_1_code 54 = .ok (.aload_n 0, 1) := by decide +kernel
theorem d1_55 : decode prog_18_method_1_code 55 = .ok (.aload_n 1, 1) := by decide +kernel
theorem d1_56 : decode prog_18_method_1_code 56 = .ok (.iload_n 3, 1) := by decide +kernel
theorem d1_57 : decode prog_18_method_1_code 57 = .ok (.laload, 1) := by decide +kernel
theorem d1_58 : decode prog_18_method_1_code 58 = .ok (.invokevirtual 35, 3) := by decide +kernel
theorem d1_61 : decode prog_18_method_1_code 61 = .ok (.istore 4, 2) := by decide +kernel
theorem d1_90 : decode prog_18_method_1_code 90 = .ok (.aload_n 0, 1) := by decide +kernel
theorem d1_91 : decode prog_18_method_1_code 91 = .ok (.getfield 27, 3) := by decide +kernel
theorem d1_94 : decode prog_18_method_1_code 94 = .ok (.iload 4, 2) := by decide +kernel
theorem d1_96 : decode prog_18_method_1_code 96 = .ok (.iload_n 3, 1) := by decide +kernel
theorem d1_97 : decode prog_18_method_1_code 97 = .ok (.iconst 1, 1) := by decide +kernel
theorem d1_98 : decode prog_18_method_1_code 98 = .ok (.iadd, 1) := by decide +kernel
theorem d1_99 : decode prog_18_method_1_code 99 = .ok (.iastore, 1) := by decide +kernel
theorem d1_100 : decode prog_18_method_1_code 100 = .ok (.iinc 3 1, 3) := by decide +kernel
theorem d1_103 : decode prog_18_method_1_code 103 = .ok (.goto (-55), 3) := by decide +kernel
def Q1_1 (Z : State) (r0 : Addr) (r1 : Addr) (kc : ClassId) (x0 : Int64) (dj : Value) (h0 : Heap) (n0 : Nat) (v : Option Value) (h : Heap) (L : List Loc) : Prop := ∃ (sa : Addr) (ks : ClassId), v = none ∧ Fr n0 L ∧ Keep h0 h [r0] ∧ Exa Z h r0 "com/example/mapstone/mapstone/engine/ConceptIndex" ∧ Fld Z h r0 "com/example/mapstone/mapstone/engine/ConceptIndex" "concepts" "[J" (.ref r1) ∧ Fld Z h r0 "com/example/mapstone/mapstone/engine/ConceptIndex" "slots" "[I" (.ref sa) ∧ Fld Z h r0 "com/example/mapstone/mapstone/engine/ConceptIndex" "shift" "I" (.int (63 : Int32)) ∧ Arv Z h sa ks .int (Int32.ofNat 2) (own_tv (own_t1 (own_sN 63 x0))) (.int (0 : Int32))
set_option maxRecDepth 65536 in
set_option maxHeartbeats 40000000 in
theorem rm1_1 (l : Launch) (Z : State) (a0 : Array Value) (hw : ∀ d ∈ tables_1, d.before a0 Z = true) (ws : List Jvm.Cond) (r0 : Addr) (r1 : Addr) (kc : ClassId) (x0 : Int64) (dj : Value) (h0 : Heap) (n0 : Nat) (Z0 : n0 ≤ h0.size) (V_c : Arv Z h0 r1 kc .long (1 : Int32) [(.long x0)] dj) (F_c : Fld Z h0 r0 "com/example/mapstone/mapstone/engine/ConceptIndex" "concepts" "[J" .null) (F_s : Fld Z h0 r0 "com/example/mapstone/mapstone/engine/ConceptIndex" "slots" "[I" .null) (F_h : Fld Z h0 r0 "com/example/mapstone/mapstone/engine/ConceptIndex" "shift" "I" (.int (0 : Int32))) (E0 : Exa Z h0 r0 "com/example/mapstone/mapstone/engine/ConceptIndex") (g_r0 : n0 ≤ r0) (hne : r1 ≠ r0) :
    MetFree l (⟨"com/example/mapstone/mapstone/engine/ConceptIndex", "<init>", "([J)V"⟩ : MethodName) (head1 (Jvm.Cond.code (⟨"com/example/mapstone/mapstone/engine/ConceptIndex", "<init>", "([J)V"⟩ : MethodName) prog_18_method_1_code 5 none :: ws) ({ frames := 2, cells := 1, slots := 2, locals := 29 } : Room)) (fun a U => a = #[(.ref r0), (.ref r1)] ∧ Z.Warmed39 U.vm ∧ U.heap = h0) (fun _ _ _ _ _ => True) (fun _ U o U' => ∃ v L, o = .returned v ∧ Q1_1 Z r0 r1 kc x0 dj h0 n0 v U'.heap L ∧ FrameEnd U o U' L ({ frames := 2, cells := 1, slots := 2, locals := 29 } : Room).cells ({ frames := 2, cells := 1, slots := 2, locals := 29 } : Room).slots) := by
  refine MetFree.of_bodySF (plainFor_of_name pn_1) hisR ?_
  intro p e s m args below meth c s₁ Bd hml0 hP hK
  obtain ⟨rfl, hZ, hh⟩ := hP
  have hx := Bd.exec
  have hby := Bd.bytes
  have hml : c.maxLocals = 5 := hml0
  have hown : s.vm.findClass "com/example/mapstone/mapstone/engine/ConceptIndex" = some m.cls := findClass_of_methodNamed Bd.named
  have hnm := (name_of_methodNamed Bd.named Bd.method).1
  have X0 : Stand p l e ({ frames := 2, cells := 1, slots := 2, locals := 29 } : Room) s m #[(.ref r0), (.ref r1)] below meth c s₁ [] 0 0 := Stand.of_body Bd
  have e0 : s₁.heap = h0 := by rw [← hh, Bd.state]; rfl
  have N0 := Fr.nil n0
  have pre0 : ∀ t, Steps p.tables e below (s₁.setTop (mkF m 0 #[.val (.ref r0), .val (.ref r1), .unset, .unset, .unset] [])) t → Steps p.tables e below (s₁.setTop (entryFrame m #[(.ref r0), (.ref r1)] 5)) t := fun t k => castTop (ef_1 m r0 r1) k
  have c2 : ∀ t, Steps p.tables e below (s₁.setTop (mkF m 1 #[.val (.ref r0), .val (.ref r1), .unset, .unset, .unset] [(.ref r0)])) t → Steps p.tables e below (s₁.setTop (mkF m 0 #[.val (.ref r0), .val (.ref r1), .unset, .unset, .unset] [])) t := by
    intro t kt
    show Steps p.tables e below (s₁.setTop (mkF m 0 #[.val (.ref r0), .val (.ref r1), .unset, .unset, .unset] [])) _
    refine XS.aloadN X0.here hx rfl (hb hby d1_0) rfl rfl ?_
    exact kt
  obtain ⟨T1, X1, e1, st1⟩ := initO X0 hx hZ hown (hw _ (List.mem_of_getElem? (i := 7) rfl)) (hw _ (List.mem_of_getElem? (i := 8) rfl)) (hw _ (List.mem_of_getElem? (i := 9) rfl)) e0 (g := (mkF m 1 #[.val (.ref r0), .val (.ref r1), .unset, .unset, .unset] [(.ref r0)])) rfl (by rw [hml]; rfl) rfl (hb hby d1_1) (by decide) (W := 0) (by show 2 * 0 + _ ≤ _; exact Nat.le_of_eq rfl) (by decide)
  have c4 : ∀ t, Steps p.tables e below (T1.setTop (mkF m 6 #[.val (.ref r0), .val (.ref r1), .unset, .unset, .unset] [(.ref r1), (.ref r0)])) t → Steps p.tables e below (T1.setTop (mkF m 4 #[.val (.ref r0), .val (.ref r1), .unset, .unset, .unset] [])) t := by
    intro t kt
    show Steps p.tables e below (T1.setTop (mkF m 4 #[.val (.ref r0), .val (.ref r1), .unset, .unset, .unset] [])) _
    refine XS.aloadN X1.here hx rfl (hb hby d1_4) rfl rfl ?_
    show Steps p.tables e below (T1.setTop (mkF m 5 #[.val (.ref r0), .val (.ref r1), .unset, .unset, .unset] [(.ref r0)])) _
    refine XS.aloadN X1.here hx rfl (hb hby d1_5) rfl rfl ?_
    exact kt
  obtain ⟨T3, h3, X3, e3, W3, st3⟩ := putF X1 hx hZ hown (host := "") (Or.inl (hw _ (List.mem_of_getElem? (i := 10) rfl))) Via.refl e1 F_c E0 (Or.inr ⟨(hw _ (List.mem_of_getElem? (i := 11) rfl)), rfl, hnm⟩) (hw _ (List.mem_of_getElem? (i := 2) rfl)) (ty := (.array .long)) (by decide) rfl rfl (g := (mkF m 6 #[.val (.ref r0), .val (.ref r1), .unset, .unset, .unset] [(.ref r1), (.ref r0)])) rfl rfl (hb hby d1_6)
  have Fw3 := F_c.same W3
  have N3 := Fr.snoc X3 N0 g_r0
  have f5 := (V_c.other W3 hne)
  have Vc6 := f5
  obtain ⟨cl6, Ar6, qk6, S6, M6, H6, G6⟩ := Vc6
  have c7 : ∀ t, Steps p.tables e below (T3.setTop (mkF m 21 #[.val (.ref r0), .val (.ref r1), .unset, .unset, .unset] [(.long (1 : Int64)), (.long (((2 : Int64) * ((1 : Int32).toInt64)) - (1 : Int64))), (.int (64 : Int32))])) t → Steps p.tables e below (T3.setTop (mkF m 9 #[.val (.ref r0), .val (.ref r1), .unset, .unset, .unset] [])) t := by
    intro t kt
    show Steps p.tables e below (T3.setTop (mkF m 9 #[.val (.ref r0), .val (.ref r1), .unset, .unset, .unset] [])) _
    refine XS.bipush X3.here hx rfl (hb hby d1_9) ?_
    show Steps p.tables e below (T3.setTop (mkF m 11 #[.val (.ref r0), .val (.ref r1), .unset, .unset, .unset] [(.int (64 : Int32))])) _
    refine X3.ldc2Long hx hown (mvT hZ (hw _ (List.mem_of_getElem? (i := 12) rfl))) (g := (mkF m 11 #[.val (.ref r0), .val (.ref r1), .unset, .unset, .unset] [(.int (64 : Int32))])) rfl (hb hby d1_11) _ ?_
    show Steps p.tables e below (T3.setTop (mkF m 14 #[.val (.ref r0), .val (.ref r1), .unset, .unset, .unset] [(.long (2 : Int64)), (.int (64 : Int32))])) _
    refine XS.aloadN X3.here hx rfl (hb hby d1_14) rfl rfl ?_
    show Steps p.tables e below (T3.setTop (mkF m 15 #[.val (.ref r0), .val (.ref r1), .unset, .unset, .unset] [(.ref r1), (.long (2 : Int64)), (.int (64 : Int32))])) _
    refine X3.arraylength hx (by rw [e3]; exact Ar6.1) (State.isArrayOf_alike hZ.alike Ar6.2.1) (g := (mkF m 15 #[.val (.ref r0), .val (.ref r1), .unset, .unset, .unset] [(.ref r1), (.long (2 : Int64)), (.int (64 : Int32))])) rfl rfl (hb hby d1_15) _ ?_
    rw [len_of S6 M6]
    show Steps p.tables e below (T3.setTop (mkF m 16 #[.val (.ref r0), .val (.ref r1), .unset, .unset, .unset] [(.int (1 : Int32)), (.long (2 : Int64)), (.int (64 : Int32))])) _
    refine XS.i2l X3.here hx rfl (hb hby d1_16) rfl ?_
    show Steps p.tables e below (T3.setTop (mkF m 17 #[.val (.ref r0), .val (.ref r1), .unset, .unset, .unset] [(.long ((1 : Int32).toInt64)), (.long (2 : Int64)), (.int (64 : Int32))])) _
    refine XS.lmul X3.here hx rfl (hb hby d1_17) rfl ?_
    show Steps p.tables e below (T3.setTop (mkF m 18 #[.val (.ref r0), .val (.ref r1), .unset, .unset, .unset] [(.long ((2 : Int64) * ((1 : Int32).toInt64))), (.int (64 : Int32))])) _
    refine XS.lconst X3.here hx rfl (hb hby d1_18) ?_
    show Steps p.tables e below (T3.setTop (mkF m 19 #[.val (.ref r0), .val (.ref r1), .unset, .unset, .unset] [(.long (1 : Int64)), (.long ((2 : Int64) * ((1 : Int32).toInt64))), (.int (64 : Int32))])) _
    refine XS.lsub X3.here hx rfl (hb hby d1_19) rfl ?_
    show Steps p.tables e below (T3.setTop (mkF m 20 #[.val (.ref r0), .val (.ref r1), .unset, .unset, .unset] [(.long (((2 : Int64) * ((1 : Int32).toInt64)) - (1 : Int64))), (.int (64 : Int32))])) _
    refine XS.lconst X3.here hx rfl (hb hby d1_20) ?_
    exact kt
  have c8 : ∀ t, Steps p.tables e below (T3.setTop (mkF m 21 #[.val (.ref r0), .val (.ref r1), .unset, .unset, .unset] [(.long (1 : Int64)), (.long (1 : Int64)), (.int (64 : Int32))])) t → Steps p.tables e below (T3.setTop (mkF m 21 #[.val (.ref r0), .val (.ref r1), .unset, .unset, .unset] [(.long (1 : Int64)), (.long (((2 : Int64) * ((1 : Int32).toInt64)) - (1 : Int64))), (.int (64 : Int32))])) t := fun t kt => castTop (congrArg (fun z => (mkF m 21 #[.val (.ref r0), .val (.ref r1), .unset, .unset, .unset] [(.long (1 : Int64)), (.long z), (.int (64 : Int32))])) (show (((2 : Int64) * ((1 : Int32).toInt64)) - (1 : Int64)) = (1 : Int64) from by decide)) kt
  have f9 := (Nat.le_trans Z0 (Keep.of_wr W3).1)
  obtain ⟨_, _, ⟨T10, L10, k10, n10⟩, -, X10, ⟨Lc10, hQ10, l10, y10, z10⟩, st10⟩ := Jvm.LawKit.callS X3 hx (y := (⟨"java/lang/Math", "max", "(JJ)J"⟩ : MethodName)) hown (mvT hZ (hw _ (List.mem_of_getElem? (i := 13) rfl))) (mvT hZ (hw _ (List.mem_of_getElem? (i := 14) rfl))) (mvT hZ (hw _ (List.mem_of_getElem? (i := 15) rfl))) (mvT hZ (hw _ (List.mem_of_getElem? (i := 16) rfl))) (by decide) (backOf (W := 1) (rm3 l Z a0 hw [] (1 : Int64) (1 : Int64)  h3 n0 f9 ) hZ (hw _ (List.mem_of_getElem? (i := 16) rfl)) (hw _ (List.mem_of_getElem? (i := 15) rfl)) (by decide) (by decide)) (g := (mkF m 21 #[.val (.ref r0), .val (.ref r1), .unset, .unset, .unset] [(.long (1 : Int64)), (.long (1 : Int64)), (.int (64 : Int32))])) rfl (by rw [hml]; rfl) (argsL := [(.long (1 : Int64)), (.long (1 : Int64))]) (rest := [(.int (64 : Int32))]) (lenOf pd_1 rfl) rfl (by show 2 * 0 + _ ≤ _; exact Nat.le_of_eq rfl) (hb hby d1_21) (fun _ _ => ⟨rfl, e3, (by decide : 0 + 0 ≤ _), (by decide : 0 + 0 ≤ _)⟩)
  dsimp only [Pt.U, Pt.locs, Pt.cells, Pt.slots] at X10 l10 y10 z10 st10 hQ10
  subst l10 y10 z10
  obtain ⟨rfl, N10q, e10⟩ := hQ10
  have N10 := Fr.app N3 N10q
  have c11 : ∀ t, Steps p.tables e below (T10.setTop (mkF m 24 #[.val (.ref r0), .val (.ref r1), .unset, .unset, .unset] [(.long (1 : Int64)), (.int (64 : Int32))])) t → Steps p.tables e below (T10.setTop (mkF m 24 #[.val (.ref r0), .val (.ref r1), .unset, .unset, .unset] [(.long (own_max (1 : Int64) (1 : Int64))), (.int (64 : Int32))])) t := fun t kt => castTop (congrArg (fun z => (mkF m 24 #[.val (.ref r0), .val (.ref r1), .unset, .unset, .unset] [(.long z), (.int (64 : Int32))])) (show (own_max (1 : Int64) (1 : Int64)) = (1 : Int64) from by decide)) kt
  obtain ⟨_, _, ⟨T12, L12, k12, n12⟩, -, X12, ⟨Lc12, hQ12, l12, y12, z12⟩, st12⟩ := Jvm.LawKit.callS X10 hx (y := (⟨"java/lang/Long", "numberOfLeadingZeros", "(J)I"⟩ : MethodName)) hown (mvT hZ (hw _ (List.mem_of_getElem? (i := 17) rfl))) (mvT hZ (hw _ (List.mem_of_getElem? (i := 18) rfl))) (mvT hZ (hw _ (List.mem_of_getElem? (i := 19) rfl))) (mvT hZ (hw _ (List.mem_of_getElem? (i := 20) rfl))) (by decide) (backOf (W := 1) (rm4_1 l Z a0 hw []   h3 n0 f9 ) hZ (hw _ (List.mem_of_getElem? (i := 20) rfl)) (hw _ (List.mem_of_getElem? (i := 19) rfl)) (by decide) (by decide)) (g := (mkF m 24 #[.val (.ref r0), .val (.ref r1), .unset, .unset, .unset] [(.long (1 : Int64)), (.int (64 : Int32))])) rfl (by rw [hml]; rfl) (argsL := [(.long (1 : Int64))]) (rest := [(.int (64 : Int32))]) (lenOf pd_2 rfl) rfl (by show 2 * 0 + _ ≤ _; exact Nat.le_of_eq rfl) (hb hby d1_24) (fun _ _ => ⟨rfl, e10, (by decide : 0 + 0 ≤ _), (by decide : 0 + 0 ≤ _)⟩)
  dsimp only [Pt.U, Pt.locs, Pt.cells, Pt.slots] at X12 l12 y12 z12 st12 hQ12
  subst l12 y12 z12
  obtain ⟨rfl, N12q, e12⟩ := hQ12
  have N12 := Fr.app N10 N12q
  have c13 : ∀ t, Steps p.tables e below (T12.setTop (mkF m 33 #[.val (.ref r0), .val (.ref r1), .val (.int ((64 : Int32) - (63 : Int32))), .unset, .unset] [(.int ((1 : Int32) <<< (((64 : Int32) - (63 : Int32)) &&& 31))), (.ref r0)])) t → Steps p.tables e below (T12.setTop (mkF m 27 #[.val (.ref r0), .val (.ref r1), .unset, .unset, .unset] [(.int (63 : Int32)), (.int (64 : Int32))])) t := by
    intro t kt
    show Steps p.tables e below (T12.setTop (mkF m 27 #[.val (.ref r0), .val (.ref r1), .unset, .unset, .unset] [(.int (63 : Int32)), (.int (64 : Int32))])) _
    refine XS.isub X12.here hx rfl (hb hby d1_27) rfl ?_
    show Steps p.tables e below (T12.setTop (mkF m 28 #[.val (.ref r0), .val (.ref r1), .unset, .unset, .unset] [(.int ((64 : Int32) - (63 : Int32)))])) _
    refine XS.istoreN X12.here hx rfl (hb hby d1_28) rfl (l' := #[.val (.ref r0), .val (.ref r1), .val (.int ((64 : Int32) - (63 : Int32))), .unset, .unset]) rfl ?_
    show Steps p.tables e below (T12.setTop (mkF m 29 #[.val (.ref r0), .val (.ref r1), .val (.int ((64 : Int32) - (63 : Int32))), .unset, .unset] [])) _
    refine XS.aloadN X12.here hx rfl (hb hby d1_29) rfl rfl ?_
    show Steps p.tables e below (T12.setTop (mkF m 30 #[.val (.ref r0), .val (.ref r1), .val (.int ((64 : Int32) - (63 : Int32))), .unset, .unset] [(.ref r0)])) _
    refine XS.iconst X12.here hx rfl (hb hby d1_30) ?_
    show Steps p.tables e below (T12.setTop (mkF m 31 #[.val (.ref r0), .val (.ref r1), .val (.int ((64 : Int32) - (63 : Int32))), .unset, .unset] [(.int (1 : Int32)), (.ref r0)])) _
    refine XS.iloadN X12.here hx rfl (hb hby d1_31) rfl ?_
    show Steps p.tables e below (T12.setTop (mkF m 32 #[.val (.ref r0), .val (.ref r1), .val (.int ((64 : Int32) - (63 : Int32))), .unset, .unset] [(.int ((64 : Int32) - (63 : Int32))), (.int (1 : Int32)), (.ref r0)])) _
    refine XS.ishl X12.here hx rfl (hb hby d1_32) rfl ?_
    exact kt
  have c14 : ∀ t, Steps p.tables e below (T12.setTop (mkF m 33 #[.val (.ref r0), .val (.ref r1), .val (.int ((64 : Int32) - (63 : Int32))), .unset, .unset] [(.int (2 : Int32)), (.ref r0)])) t → Steps p.tables e below (T12.setTop (mkF m 33 #[.val (.ref r0), .val (.ref r1), .val (.int ((64 : Int32) - (63 : Int32))), .unset, .unset] [(.int ((1 : Int32) <<< (((64 : Int32) - (63 : Int32)) &&& 31))), (.ref r0)])) t := fun t kt => castTop (congrArg (fun z => (mkF m 33 #[.val (.ref r0), .val (.ref r1), .val (.int ((64 : Int32) - (63 : Int32))), .unset, .unset] [(.int z), (.ref r0)])) (show ((1 : Int32) <<< (((64 : Int32) - (63 : Int32)) &&& 31)) = (2 : Int32) from by decide)) kt
  have c15 : ∀ t, Steps p.tables e below (T12.setTop (mkF m 33 #[.val (.ref r0), .val (.ref r1), .val (.int (1 : Int32)), .unset, .unset] [(.int (2 : Int32)), (.ref r0)])) t → Steps p.tables e below (T12.setTop (mkF m 33 #[.val (.ref r0), .val (.ref r1), .val (.int ((64 : Int32) - (63 : Int32))), .unset, .unset] [(.int (2 : Int32)), (.ref r0)])) t := fun t kt => castTop (congrArg (fun z => (mkF m 33 #[.val (.ref r0), .val (.ref r1), .val (.int z), .unset, .unset] [(.int (2 : Int32)), (.ref r0)])) (show ((64 : Int32) - (63 : Int32)) = (1 : Int32) from by decide)) kt
  obtain ⟨T16, h16, k16, X16, e16, E16, A16, st16⟩ := newP X12 hx hZ (hw _ (List.mem_of_getElem? (i := 26) rfl)) e12 (g := (mkF m 33 #[.val (.ref r0), .val (.ref r1), .val (.int (1 : Int32)), .unset, .unset] [(.int (2 : Int32)), (.ref r0)])) rfl (hb hby d1_33) rfl (by decide) (cap := 2) (by decide) (by decide) (by decide) (by decide)
  obtain ⟨b16, g16⟩ : ∃ z, z = h3.size := ⟨_, rfl⟩
  rw [← g16] at A16 st16
  have f17 := ((Keep.refl h0 [r0]).wr W3 (Or.inl (List.mem_of_getElem? (i := 0) rfl)))
  have g_b16 : n0 ≤ b16 := Nat.le_trans f9 (Nat.le_of_eq g16.symm)
  have sz_b16 : h0.size ≤ b16 := Nat.le_trans f17.1 (Nat.le_of_eq g16.symm)
  have lt_r1_16 := f5.lt
  have lt_r0_16 := Fw3.lt
  have V16 : Arv Z h16 b16 k16 .int (2 : Int32) [(.int (0 : Int32)), (.int (0 : Int32))] (.int (0 : Int32)) := (Arv.new A16 (by decide)).pad (pad_rep [] (.int (0 : Int32)) 2)
  have f18 := ((F_s.other W3 (Or.inr (slot_ne (a0 := a0) (Or.inr (hw _ (List.mem_of_getElem? (i := 28) rfl))) (Or.inr (hw _ (List.mem_of_getElem? (i := 11) rfl))) (by decide) (t := (.array .int)) (t' := (.array .long)) (by decide) (by decide)))).ext E16)
  have f19 := ((E0.wr W3).ext E16)
  obtain ⟨T20, h20, X20, e20, W20, st20⟩ := putF X16 hx hZ hown (host := "") (Or.inl (hw _ (List.mem_of_getElem? (i := 27) rfl))) Via.refl e16 f18 f19 (Or.inr ⟨(hw _ (List.mem_of_getElem? (i := 28) rfl)), rfl, hnm⟩) (hw _ (List.mem_of_getElem? (i := 2) rfl)) (ty := (.array .int)) (by decide) rfl rfl (g := (mkF m 35 #[.val (.ref r0), .val (.ref r1), .val (.int (1 : Int32)), .unset, .unset] [(.ref b16), (.ref r0)])) rfl rfl (hb hby d1_35)
  have Fw20 := f18.same W20
  have N20 := Fr.snoc X20 N12 g_r0
  have c21 : ∀ t, Steps p.tables e below (T20.setTop (mkF m 43 #[.val (.ref r0), .val (.ref r1), .val (.int (1 : Int32)), .unset, .unset] [(.int ((64 : Int32) - (1 : Int32))), (.ref r0)])) t → Steps p.tables e below (T20.setTop (mkF m 38 #[.val (.ref r0), .val (.ref r1), .val (.int (1 : Int32)), .unset, .unset] [])) t := by
    intro t kt
    show Steps p.tables e below (T20.setTop (mkF m 38 #[.val (.ref r0), .val (.ref r1), .val (.int (1 : Int32)), .unset, .unset] [])) _
    refine XS.aloadN X20.here hx rfl (hb hby d1_38) rfl rfl ?_
    show Steps p.tables e below (T20.setTop (mkF m 39 #[.val (.ref r0), .val (.ref r1), .val (.int (1 : Int32)), .unset, .unset] [(.ref r0)])) _
    refine XS.bipush X20.here hx rfl (hb hby d1_39) ?_
    show Steps p.tables e below (T20.setTop (mkF m 41 #[.val (.ref r0), .val (.ref r1), .val (.int (1 : Int32)), .unset, .unset] [(.int (64 : Int32)), (.ref r0)])) _
    refine XS.iloadN X20.here hx rfl (hb hby d1_41) rfl ?_
    show Steps p.tables e below (T20.setTop (mkF m 42 #[.val (.ref r0), .val (.ref r1), .val (.int (1 : Int32)), .unset, .unset] [(.int (1 : Int32)), (.int (64 : Int32)), (.ref r0)])) _
    refine XS.isub X20.here hx rfl (hb hby d1_42) rfl ?_
    exact kt
  have c22 : ∀ t, Steps p.tables e below (T20.setTop (mkF m 43 #[.val (.ref r0), .val (.ref r1), .val (.int (1 : Int32)), .unset, .unset] [(.int (63 : Int32)), (.ref r0)])) t → Steps p.tables e below (T20.setTop (mkF m 43 #[.val (.ref r0), .val (.ref r1), .val (.int (1 : Int32)), .unset, .unset] [(.int ((64 : Int32) - (1 : Int32))), (.ref r0)])) t := fun t kt => castTop (congrArg (fun z => (mkF m 43 #[.val (.ref r0), .val (.ref r1), .val (.int (1 : Int32)), .unset, .unset] [(.int z), (.ref r0)])) (show ((64 : Int32) - (1 : Int32)) = (63 : Int32) from by decide)) kt
  have f23 := (((F_h.other W3 (Or.inr (slot_ne (a0 := a0) (Or.inr (hw _ (List.mem_of_getElem? (i := 30) rfl))) (Or.inr (hw _ (List.mem_of_getElem? (i := 11) rfl))) (by decide) (t := .int) (t' := (.array .long)) (by decide) (by decide)))).ext E16).other W20 (Or.inr (slot_ne (a0 := a0) (Or.inr (hw _ (List.mem_of_getElem? (i := 30) rfl))) (Or.inr (hw _ (List.mem_of_getElem? (i := 28) rfl))) (by decide) (t := .int) (t' := (.array .int)) (by decide) (by decide))))
  have f24 := (f19.wr W20)
  obtain ⟨T25, h25, X25, e25, W25, st25⟩ := putF X20 hx hZ hown (host := "") (Or.inl (hw _ (List.mem_of_getElem? (i := 29) rfl))) Via.refl e20 f23 f24 (Or.inr ⟨(hw _ (List.mem_of_getElem? (i := 30) rfl)), rfl, hnm⟩) (hw _ (List.mem_of_getElem? (i := 2) rfl)) (ty := .int) (by decide) rfl rfl (g := (mkF m 43 #[.val (.ref r0), .val (.ref r1), .val (.int (1 : Int32)), .unset, .unset] [(.int (63 : Int32)), (.ref r0)])) rfl rfl (hb hby d1_43)
  have Fw25 := f23.same W25
  have N25 := Fr.snoc X25 N20 g_r0
  have f26 := (((f5.ext E16).other W20 hne).other W25 hne)
  have Vc27 := f26
  obtain ⟨cl27, Ar27, qk27, S27, M27, H27, G27⟩ := Vc27
  have Vc28 := f26
  obtain ⟨cl28, Ar28, qk28, S28, M28, H28, G28⟩ := Vc28
  have hin28 : ¬ ((0 : Int32) < 0 ∨ cl28.slots.size ≤ ((0 : Int32)).toNatClampNeg) := inb_of S28 ⟨by decide, by decide⟩
  have hat28 : cl28.slots[((0 : Int32)).toNatClampNeg]? = some (.long x0) := H28.at hin28 rfl
  have c29 : ∀ t, Steps p.tables e below (T25.setTop (mkF m 58 #[.val (.ref r0), .val (.ref r1), .val (.int (1 : Int32)), .val (.int (0 : Int32)), .unset] [(.long x0), (.ref r0)])) t → Steps p.tables e below (T25.setTop (mkF m 46 #[.val (.ref r0), .val (.ref r1), .val (.int (1 : Int32)), .unset, .unset] [])) t := by
    intro t kt
    show Steps p.tables e below (T25.setTop (mkF m 46 #[.val (.ref r0), .val (.ref r1), .val (.int (1 : Int32)), .unset, .unset] [])) _
    refine XS.iconst X25.here hx rfl (hb hby d1_46) ?_
    show Steps p.tables e below (T25.setTop (mkF m 47 #[.val (.ref r0), .val (.ref r1), .val (.int (1 : Int32)), .unset, .unset] [(.int (0 : Int32))])) _
    refine XS.istoreN X25.here hx rfl (hb hby d1_47) rfl (l' := #[.val (.ref r0), .val (.ref r1), .val (.int (1 : Int32)), .val (.int (0 : Int32)), .unset]) rfl ?_
    show Steps p.tables e below (T25.setTop (mkF m 48 #[.val (.ref r0), .val (.ref r1), .val (.int (1 : Int32)), .val (.int (0 : Int32)), .unset] [])) _
    refine XS.iloadN X25.here hx rfl (hb hby d1_48) rfl ?_
    show Steps p.tables e below (T25.setTop (mkF m 49 #[.val (.ref r0), .val (.ref r1), .val (.int (1 : Int32)), .val (.int (0 : Int32)), .unset] [(.int (0 : Int32))])) _
    refine XS.aloadN X25.here hx rfl (hb hby d1_49) rfl rfl ?_
    show Steps p.tables e below (T25.setTop (mkF m 50 #[.val (.ref r0), .val (.ref r1), .val (.int (1 : Int32)), .val (.int (0 : Int32)), .unset] [(.ref r1), (.int (0 : Int32))])) _
    refine X25.arraylength hx (by rw [e25]; exact Ar27.1) (State.isArrayOf_alike hZ.alike Ar27.2.1) (g := (mkF m 50 #[.val (.ref r0), .val (.ref r1), .val (.int (1 : Int32)), .val (.int (0 : Int32)), .unset] [(.ref r1), (.int (0 : Int32))])) rfl rfl (hb hby d1_50) _ ?_
    rw [len_of S27 M27]
    show Steps p.tables e below (T25.setTop (mkF m 51 #[.val (.ref r0), .val (.ref r1), .val (.int (1 : Int32)), .val (.int (0 : Int32)), .unset] [(.int (1 : Int32)), (.int (0 : Int32))])) _
    refine XS.icmpNo X25.here hx rfl (hb hby d1_51) rfl (tlt (by decide : (0 : Int32) < (1 : Int32))).2.1 ?_
    show Steps p.tables e below (T25.setTop (mkF m 54 #[.val (.ref r0), .val (.ref r1), .val (.int (1 : Int32)), .val (.int (0 : Int32)), .unset] [])) _
    refine XS.aloadN X25.here hx rfl (hb hby d1_54) rfl rfl ?_
    show Steps p.tables e below (T25.setTop (mkF m 55 #[.val (.ref r0), .val (.ref r1), .val (.int (1 : Int32)), .val (.int (0 : Int32)), .unset] [(.ref r0)])) _
    refine XS.aloadN X25.here hx rfl (hb hby d1_55) rfl rfl ?_
    show Steps p.tables e below (T25.setTop (mkF m 56 #[.val (.ref r0), .val (.ref r1), .val (.int (1 : Int32)), .val (.int (0 : Int32)), .unset] [(.ref r1), (.ref r0)])) _
    refine XS.iloadN X25.here hx rfl (hb hby d1_56) rfl ?_
    show Steps p.tables e below (T25.setTop (mkF m 57 #[.val (.ref r0), .val (.ref r1), .val (.int (1 : Int32)), .val (.int (0 : Int32)), .unset] [(.int (0 : Int32)), (.ref r1), (.ref r0)])) _
    refine X25.laload hx (j := (0 : Int32)) (v := (.long x0)) (by rw [e25]; exact Ar28.1) (State.isArrayOf_alike hZ.alike Ar28.2.1) Ar28.2.2 hin28 hat28 (g := (mkF m 57 #[.val (.ref r0), .val (.ref r1), .val (.int (1 : Int32)), .val (.int (0 : Int32)), .unset] [(.int (0 : Int32)), (.ref r1), (.ref r0)])) rfl rfl (hb hby d1_57) _ ?_
    exact kt
  have f30 := (Nat.le_trans (Nat.le_trans (Nat.le_trans f9 E16.1) (Keep.of_wr W20).1) (Keep.of_wr W25).1)
  have f31 := (f24.wr W25)
  obtain ⟨cq32, rq32, rq32'⟩ := f31.cell
  obtain ⟨_, _, ⟨T33, L33, k33, n33⟩, -, X33, ⟨Lc33, hQ33, l33, y33, z33⟩, st33⟩ := X25.privateBack hx (y := (⟨"com/example/mapstone/mapstone/engine/ConceptIndex", "slot", "(J)I"⟩ : MethodName)) hown (mvT hZ (hw _ (List.mem_of_getElem? (i := 31) rfl))) (mvT hZ (hw _ (List.mem_of_getElem? (i := 32) rfl))) (own_selp (y := (⟨"com/example/mapstone/mapstone/engine/ConceptIndex", "slot", "(J)I"⟩ : MethodName)) (z := (⟨"com/example/mapstone/mapstone/engine/ConceptIndex", "place", "(J)I"⟩ : MethodName)) (mvT hZ (hw _ (List.mem_of_getElem? (i := 39) rfl))) rfl (Cond.privateMethod_at (mvP hZ (hw _ (List.mem_of_getElem? (i := 33) rfl)) (args := #[]))) (mvT hZ (hw _ (List.mem_of_getElem? (i := 32) rfl))) (by decide)) (Cond.privateMethod_at (mvP hZ (hw _ (List.mem_of_getElem? (i := 33) rfl)) (args := #[]))) (mvT hZ (hw _ (List.mem_of_getElem? (i := 34) rfl))) (by decide) (backOf (W := 0) (rm6 l Z a0 hw [] r0 x0 (63 : Int32) h25 n0 f30 Fw25) hZ (hw _ (List.mem_of_getElem? (i := 34) rfl)) (hw _ (List.mem_of_getElem? (i := 3) rfl)) (by decide) (by decide)) (g := (mkF m 58 #[.val (.ref r0), .val (.ref r1), .val (.int (1 : Int32)), .val (.int (0 : Int32)), .unset] [(.long x0), (.ref r0)])) rfl (by rw [hml]; rfl) (Steps.refl _) (a := r0) (by rw [e25]; exact rq32) rq32' (argsL := [(.long x0)]) (rest := []) (lenOf pd_2 rfl) rfl (by show 2 * 0 + _ ≤ _; exact Nat.le_of_eq rfl) (hb hby d1_58) (fun _ _ => ⟨rfl, e25, (by decide : 1 + 0 ≤ _), (by decide : 2 + 0 ≤ _)⟩)
  dsimp only [Pt.U, Pt.locs, Pt.cells, Pt.slots] at X33 l33 y33 z33 st33 hQ33
  subst l33 y33 z33
  obtain ⟨rfl, N33q, e33⟩ := hQ33
  have N33 := Fr.app N25 N33q
  have hsl34 := own_slotv (63 : Int32) x0 0 2 (by decide)
  have c35 : ∀ t, Steps p.tables e below (T33.setTop (mkF m 61 #[.val (.ref r0), .val (.ref r1), .val (.int (1 : Int32)), .val (.int (0 : Int32)), .unset] [(.int (Int32.ofNat (own_sN (63 : Int32) x0)))])) t → Steps p.tables e below (T33.setTop (mkF m 61 #[.val (.ref r0), .val (.ref r1), .val (.int (1 : Int32)), .val (.int (0 : Int32)), .unset] [(.int (own_slot (63 : Int32) x0))])) t := fun t kt => castTop (congrArg (fun z => (mkF m 61 #[.val (.ref r0), .val (.ref r1), .val (.int (1 : Int32)), .val (.int (0 : Int32)), .unset] [(.int z)])) (show (own_slot (63 : Int32) x0) = (Int32.ofNat (own_sN (63 : Int32) x0)) from hsl34.1)) kt
  have c36 : ∀ t, Steps p.tables e below (T33.setTop (mkF m 63 #[.val (.ref r0), .val (.ref r1), .val (.int (1 : Int32)), .val (.int (0 : Int32)), .val (.int (Int32.ofNat (own_sN (63 : Int32) x0)))] [])) t → Steps p.tables e below (T33.setTop (mkF m 61 #[.val (.ref r0), .val (.ref r1), .val (.int (1 : Int32)), .val (.int (0 : Int32)), .unset] [(.int (Int32.ofNat (own_sN (63 : Int32) x0)))])) t := by
    intro t kt
    show Steps p.tables e below (T33.setTop (mkF m 61 #[.val (.ref r0), .val (.ref r1), .val (.int (1 : Int32)), .val (.int (0 : Int32)), .unset] [(.int (Int32.ofNat (own_sN (63 : Int32) x0)))])) _
    refine XS.istore X33.here hx rfl (hb hby d1_61) rfl (l' := #[.val (.ref r0), .val (.ref r1), .val (.int (1 : Int32)), .val (.int (0 : Int32)), .val (.int (Int32.ofNat (own_sN (63 : Int32) x0)))]) rfl ?_
    exact kt
  have f38 := (Fw20.other W25 (Or.inr (slot_ne (a0 := a0) (Or.inr (hw _ (List.mem_of_getElem? (i := 28) rfl))) (Or.inr (hw _ (List.mem_of_getElem? (i := 30) rfl))) (by decide) (t := (.array .int)) (t' := .int) (by decide) (by decide))))
  have f39 := ((V16.other W20 (Ne.symm (Nat.ne_of_lt (Nat.lt_of_lt_of_le lt_r0_16 (Nat.le_of_eq g16.symm))))).other W25 (Ne.symm (Nat.ne_of_lt (Nat.lt_of_lt_of_le lt_r0_16 (Nat.le_of_eq g16.symm)))))
  have hok37 : own_ok (List.replicate 2 0) 2 0 := own_okz 2 (by decide)
  have hend37 := hok37.2.2 (own_sN (63 : Int32) x0) hsl34.2
  have VT37 : Arv Z h25 b16 k16 .int (Int32.ofNat 2) (own_tv (List.replicate 2 0)) (.int (0 : Int32)) := f39
  obtain ⟨T37, L37, X37, e37, N37, st37⟩ := lfree r0 r1 (1 : Int32) (0 : Int32) b16 k16 2 (List.replicate 2 0) hx hZ hw hby hml hown N33 f30 f38 VT37 (by decide) hok37.1 (fun i => Nat.le_trans (hok37.2.1 i) (by decide)) 8 (own_sN (63 : Int32) x0) hsl34.2 hend37.1 T33 X33 e33
  have c41 : ∀ t, Steps p.tables e below (T37.setTop (mkF m 91 #[.val (.ref r0), .val (.ref r1), .val (.int (1 : Int32)), .val (.int (0 : Int32)), .val (.int (Int32.ofNat (own_free (List.replicate 2 0) 2 8 (own_sN (63 : Int32) x0))))] [(.ref r0)])) t → Steps p.tables e below (T37.setTop (mkF m 90 #[.val (.ref r0), .val (.ref r1), .val (.int (1 : Int32)), .val (.int (0 : Int32)), .val (.int (Int32.ofNat (own_free (List.replicate 2 0) 2 8 (own_sN (63 : Int32) x0))))] [])) t := by
    intro t kt
    show Steps p.tables e below (T37.setTop (mkF m 90 #[.val (.ref r0), .val (.ref r1), .val (.int (1 : Int32)), .val (.int (0 : Int32)), .val (.int (Int32.ofNat (own_free (List.replicate 2 0) 2 8 (own_sN (63 : Int32) x0))))] [])) _
    refine XS.aloadN X37.here hx rfl (hb hby d1_90) rfl rfl ?_
    exact kt
  obtain ⟨T40, X40, e40, st40⟩ := getF X37 hx hZ hown (host := "") (Or.inl (hw _ (List.mem_of_getElem? (i := 27) rfl))) Via.refl e37 f38 (g := (mkF m 91 #[.val (.ref r0), .val (.ref r1), .val (.int (1 : Int32)), .val (.int (0 : Int32)), .val (.int (Int32.ofNat (own_free (List.replicate 2 0) 2 8 (own_sN (63 : Int32) x0))))] [(.ref r0)])) rfl rfl (hb hby d1_91)
  have c42 : ∀ t, Steps p.tables e below (T40.setTop (mkF m 99 #[.val (.ref r0), .val (.ref r1), .val (.int (1 : Int32)), .val (.int (0 : Int32)), .val (.int (Int32.ofNat (own_free (List.replicate 2 0) 2 8 (own_sN (63 : Int32) x0))))] [(.int ((0 : Int32) + (1 : Int32))), (.int (Int32.ofNat (own_free (List.replicate 2 0) 2 8 (own_sN (63 : Int32) x0)))), (.ref b16)])) t → Steps p.tables e below (T40.setTop (mkF m 94 #[.val (.ref r0), .val (.ref r1), .val (.int (1 : Int32)), .val (.int (0 : Int32)), .val (.int (Int32.ofNat (own_free (List.replicate 2 0) 2 8 (own_sN (63 : Int32) x0))))] [(.ref b16)])) t := by
    intro t kt
    show Steps p.tables e below (T40.setTop (mkF m 94 #[.val (.ref r0), .val (.ref r1), .val (.int (1 : Int32)), .val (.int (0 : Int32)), .val (.int (Int32.ofNat (own_free (List.replicate 2 0) 2 8 (own_sN (63 : Int32) x0))))] [(.ref b16)])) _
    refine XS.iload X40.here hx rfl (hb hby d1_94) rfl ?_
    show Steps p.tables e below (T40.setTop (mkF m 96 #[.val (.ref r0), .val (.ref r1), .val (.int (1 : Int32)), .val (.int (0 : Int32)), .val (.int (Int32.ofNat (own_free (List.replicate 2 0) 2 8 (own_sN (63 : Int32) x0))))] [(.int (Int32.ofNat (own_free (List.replicate 2 0) 2 8 (own_sN (63 : Int32) x0)))), (.ref b16)])) _
    refine XS.iloadN X40.here hx rfl (hb hby d1_96) rfl ?_
    show Steps p.tables e below (T40.setTop (mkF m 97 #[.val (.ref r0), .val (.ref r1), .val (.int (1 : Int32)), .val (.int (0 : Int32)), .val (.int (Int32.ofNat (own_free (List.replicate 2 0) 2 8 (own_sN (63 : Int32) x0))))] [(.int (0 : Int32)), (.int (Int32.ofNat (own_free (List.replicate 2 0) 2 8 (own_sN (63 : Int32) x0)))), (.ref b16)])) _
    refine XS.iconst X40.here hx rfl (hb hby d1_97) ?_
    show Steps p.tables e below (T40.setTop (mkF m 98 #[.val (.ref r0), .val (.ref r1), .val (.int (1 : Int32)), .val (.int (0 : Int32)), .val (.int (Int32.ofNat (own_free (List.replicate 2 0) 2 8 (own_sN (63 : Int32) x0))))] [(.int (1 : Int32)), (.int (0 : Int32)), (.int (Int32.ofNat (own_free (List.replicate 2 0) 2 8 (own_sN (63 : Int32) x0)))), (.ref b16)])) _
    refine XS.iadd X40.here hx rfl (hb hby d1_98) rfl ?_
    exact kt
  have c43 : ∀ t, Steps p.tables e below (T40.setTop (mkF m 99 #[.val (.ref r0), .val (.ref r1), .val (.int (1 : Int32)), .val (.int (0 : Int32)), .val (.int (Int32.ofNat (own_free (List.replicate 2 0) 2 8 (own_sN (63 : Int32) x0))))] [(.int (1 : Int32)), (.int (Int32.ofNat (own_free (List.replicate 2 0) 2 8 (own_sN (63 : Int32) x0)))), (.ref b16)])) t → Steps p.tables e below (T40.setTop (mkF m 99 #[.val (.ref r0), .val (.ref r1), .val (.int (1 : Int32)), .val (.int (0 : Int32)), .val (.int (Int32.ofNat (own_free (List.replicate 2 0) 2 8 (own_sN (63 : Int32) x0))))] [(.int ((0 : Int32) + (1 : Int32))), (.int (Int32.ofNat (own_free (List.replicate 2 0) 2 8 (own_sN (63 : Int32) x0)))), (.ref b16)])) t := fun t kt => castTop (congrArg (fun z => (mkF m 99 #[.val (.ref r0), .val (.ref r1), .val (.int (1 : Int32)), .val (.int (0 : Int32)), .val (.int (Int32.ofNat (own_free (List.replicate 2 0) 2 8 (own_sN (63 : Int32) x0))))] [(.int z), (.int (Int32.ofNat (own_free (List.replicate 2 0) 2 8 (own_sN (63 : Int32) x0)))), (.ref b16)])) (show ((0 : Int32) + (1 : Int32)) = (1 : Int32) from by decide)) kt
  have Vc44 := VT37
  obtain ⟨cl44, Ar44, qk44, S44, M44, H44, G44⟩ := Vc44
  have hin44 : ¬ ((Int32.ofNat (own_free (List.replicate 2 0) 2 8 (own_sN (63 : Int32) x0))) < 0 ∨ cl44.slots.size ≤ ((Int32.ofNat (own_free (List.replicate 2 0) 2 8 (own_sN (63 : Int32) x0)))).toNatClampNeg) := inb_of S44 (own_in _ 2 hend37.2 (by decide))
  obtain ⟨T45, h45, X45, e45, W45, st45⟩ := stI X40 hx hZ e40 Ar44 (j := (Int32.ofNat (own_free (List.replicate 2 0) 2 8 (own_sN (63 : Int32) x0)))) hin44 (g := (mkF m 99 #[.val (.ref r0), .val (.ref r1), .val (.int (1 : Int32)), .val (.int (0 : Int32)), .val (.int (Int32.ofNat (own_free (List.replicate 2 0) 2 8 (own_sN (63 : Int32) x0))))] [(.int (1 : Int32)), (.int (Int32.ofNat (own_free (List.replicate 2 0) 2 8 (own_sN (63 : Int32) x0)))), (.ref b16)])) rfl rfl (hb hby d1_99)
  have V45 : Arv Z h45 b16 k16 .int (Int32.ofNat 2) (own_tv (own_ins (List.replicate 2 0) 2 (own_sN (63 : Int32) x0) 1)) (.int (0 : Int32)) := by have q := Arv.set Ar44 qk44 S44 M44 H44 G44 rfl W45 (own_free (List.replicate 2 0) 2 8 (own_sN (63 : Int32) x0)) (own_clamp _ (Nat.lt_trans hend37.2 (by decide))) (by simp only [own_tv, List.length_map]; rw [hok37.1]; exact hend37.2); rw [show (own_tv (List.replicate 2 0)).set (own_free (List.replicate 2 0) 2 8 (own_sN (63 : Int32) x0)) (.int (1 : Int32)) = own_tv (own_ins (List.replicate 2 0) 2 (own_sN (63 : Int32) x0) 1) from own_tvset _ _ 1] at q; exact q
  have N45 := Fr.snoc X45 N37 g_b16
  have f46 := (f26.other W45 (Nat.ne_of_lt (Nat.lt_of_lt_of_le lt_r1_16 (Nat.le_of_eq g16.symm))))
  have Vc47 := f46
  obtain ⟨cl47, Ar47, qk47, S47, M47, H47, G47⟩ := Vc47
  have c48 : ∀ t, Steps p.tables e below (T45.setTop (mkF m 106 #[.val (.ref r0), .val (.ref r1), .val (.int (1 : Int32)), .val (.int ((0 : Int32) + (1 : Int32))), .val (.int (Int32.ofNat (own_free (List.replicate 2 0) 2 8 (own_sN (63 : Int32) x0))))] [])) t → Steps p.tables e below (T45.setTop (mkF m 100 #[.val (.ref r0), .val (.ref r1), .val (.int (1 : Int32)), .val (.int (0 : Int32)), .val (.int (Int32.ofNat (own_free (List.replicate 2 0) 2 8 (own_sN (63 : Int32) x0))))] [])) t := by
    intro t kt
    show Steps p.tables e below (T45.setTop (mkF m 100 #[.val (.ref r0), .val (.ref r1), .val (.int (1 : Int32)), .val (.int (0 : Int32)), .val (.int (Int32.ofNat (own_free (List.replicate 2 0) 2 8 (own_sN (63 : Int32) x0))))] [])) _
    refine XS.iinc X45.here hx rfl (hb hby d1_100) rfl (l' := #[.val (.ref r0), .val (.ref r1), .val (.int (1 : Int32)), .val (.int ((0 : Int32) + (1 : Int32))), .val (.int (Int32.ofNat (own_free (List.replicate 2 0) 2 8 (own_sN (63 : Int32) x0))))]) rfl ?_
    show Steps p.tables e below (T45.setTop (mkF m 103 #[.val (.ref r0), .val (.ref r1), .val (.int (1 : Int32)), .val (.int ((0 : Int32) + (1 : Int32))), .val (.int (Int32.ofNat (own_free (List.replicate 2 0) 2 8 (own_sN (63 : Int32) x0))))] [])) _
    refine XS.goto X45.here hx rfl (pc0 := 103) (pc' := 48) rfl (hb hby d1_103) (by decide) (by decide) ?_
    show Steps p.tables e below (T45.setTop (mkF m 48 #[.val (.ref r0), .val (.ref r1), .val (.int (1 : Int32)), .val (.int ((0 : Int32) + (1 : Int32))), .val (.int (Int32.ofNat (own_free (List.replicate 2 0) 2 8 (own_sN (63 : Int32) x0))))] [])) _
    refine XS.iloadN X45.here hx rfl (hb hby d1_48) rfl ?_
    show Steps p.tables e below (T45.setTop (mkF m 49 #[.val (.ref r0), .val (.ref r1), .val (.int (1 : Int32)), .val (.int ((0 : Int32) + (1 : Int32))), .val (.int (Int32.ofNat (own_free (List.replicate 2 0) 2 8 (own_sN (63 : Int32) x0))))] [(.int ((0 : Int32) + (1 : Int32)))])) _
    refine XS.aloadN X45.here hx rfl (hb hby d1_49) rfl rfl ?_
    show Steps p.tables e below (T45.setTop (mkF m 50 #[.val (.ref r0), .val (.ref r1), .val (.int (1 : Int32)), .val (.int ((0 : Int32) + (1 : Int32))), .val (.int (Int32.ofNat (own_free (List.replicate 2 0) 2 8 (own_sN (63 : Int32) x0))))] [(.ref r1), (.int ((0 : Int32) + (1 : Int32)))])) _
    refine X45.arraylength hx (by rw [e45]; exact Ar47.1) (State.isArrayOf_alike hZ.alike Ar47.2.1) (g := (mkF m 50 #[.val (.ref r0), .val (.ref r1), .val (.int (1 : Int32)), .val (.int ((0 : Int32) + (1 : Int32))), .val (.int (Int32.ofNat (own_free (List.replicate 2 0) 2 8 (own_sN (63 : Int32) x0))))] [(.ref r1), (.int ((0 : Int32) + (1 : Int32)))])) rfl rfl (hb hby d1_50) _ ?_
    rw [len_of S47 M47]
    show Steps p.tables e below (T45.setTop (mkF m 51 #[.val (.ref r0), .val (.ref r1), .val (.int (1 : Int32)), .val (.int ((0 : Int32) + (1 : Int32))), .val (.int (Int32.ofNat (own_free (List.replicate 2 0) 2 8 (own_sN (63 : Int32) x0))))] [(.int (1 : Int32)), (.int ((0 : Int32) + (1 : Int32)))])) _
    refine XS.icmpYes X45.here hx rfl (pc0 := 51) (pc' := 106) rfl (hb hby d1_51) rfl (flt (by decide : ¬ (((0 : Int32) + (1 : Int32)) < (1 : Int32)))).2.1 (by decide) (by decide) ?_
    exact kt
  obtain ⟨fs, hr, hrun, hended, hW, hsame⟩ := X45.leave (v := none) (fun _ => rfl)
  have f50 := ((((f17.ext E16).wr W20 (Or.inl (List.mem_of_getElem? (i := 0) rfl))).wr W25 (Or.inl (List.mem_of_getElem? (i := 0) rfl))).wr W45 (Or.inr sz_b16))
  have f51 := (f31.wr W45)
  have f52 := ((((Fw3.ext E16).other W20 (Or.inr (slot_ne (a0 := a0) (Or.inr (hw _ (List.mem_of_getElem? (i := 11) rfl))) (Or.inr (hw _ (List.mem_of_getElem? (i := 28) rfl))) (by decide) (t := (.array .long)) (t' := (.array .int)) (by decide) (by decide)))).other W25 (Or.inr (slot_ne (a0 := a0) (Or.inr (hw _ (List.mem_of_getElem? (i := 11) rfl))) (Or.inr (hw _ (List.mem_of_getElem? (i := 30) rfl))) (by decide) (t := (.array .long)) (t' := .int) (by decide) (by decide)))).other W45 (Or.inl (Nat.ne_of_lt (Nat.lt_of_lt_of_le lt_r0_16 (Nat.le_of_eq g16.symm)))))
  have f53 := (f38.other W45 (Or.inl (Nat.ne_of_lt (Nat.lt_of_lt_of_le lt_r0_16 (Nat.le_of_eq g16.symm)))))
  have f54 := (Fw25.other W45 (Or.inl (Nat.ne_of_lt (Nat.lt_of_lt_of_le lt_r0_16 (Nat.le_of_eq g16.symm)))))
  refine ⟨_, _, pre0 _ (c2 _ (st1 _ (c4 _ (st3 _ (c7 _ (c8 _ (st10 _ (c11 _ (st12 _ (c13 _ (c14 _ (c15 _ (st16 _ (st20 _ (c21 _ (c22 _ (st25 _ (c29 _ (st33.trans (c35 _ (c36 _ (st37 _ (c41 _ (st40 _ (c42 _ (c43 _ (st45 _ (c48 _ (?_))))))))))))))))))))))))))))), hrun, hended, _, _, rfl, ?_, ⟨_, rfl⟩, hW, hsame.mono (by decide) (by decide)⟩
  · show Steps p.tables e below (T45.setTop (mkF m 106 #[.val (.ref r0), .val (.ref r1), .val (.int (1 : Int32)), .val (.int ((0 : Int32) + (1 : Int32))), .val (.int (Int32.ofNat (own_free (List.replicate 2 0) 2 8 (own_sN (63 : Int32) x0))))] [])) _
    exact X45.returnOut hx Bd.returns (hb hby d1_106) hr
  · show Q1_1 Z r0 r1 kc x0 dj h0 n0 _ T45.heap _
    rw [e45]
    exact ⟨b16, k16, rfl, N45, f50, f51, f52, f53, f54, V45⟩
def Q1_2 (Z : State) (r0 : Addr) (r1 : Addr) (kc : ClassId) (x0 x1 : Int64) (dj : Value) (h0 : Heap) (n0 : Nat) (v : Option Value) (h : Heap) (L : List Loc) : Prop := ∃ (sa : Addr) (ks : ClassId), v = none ∧ Fr n0 L ∧ Keep h0 h [r0] ∧ Exa Z h r0 "com/example/mapstone/mapstone/engine/ConceptIndex" ∧ Fld Z h r0 "com/example/mapstone/mapstone/engine/ConceptIndex" "concepts" "[J" (.ref r1) ∧ Fld Z h r0 "com/example/mapstone/mapstone/engine/ConceptIndex" "slots" "[I" (.ref sa) ∧ Fld Z h r0 "com/example/mapstone/mapstone/engine/ConceptIndex" "shift" "I" (.int (62 : Int32)) ∧ Arv Z h sa ks .int (Int32.ofNat 4) (own_tv (own_t2 (own_sN 62 x0) (own_sN 62 x1))) (.int (0 : Int32))
set_option maxRecDepth 65536 in
set_option maxHeartbeats 40000000 in
theorem rm1_2 (l : Launch) (Z : State) (a0 : Array Value) (hw : ∀ d ∈ tables_1, d.before a0 Z = true) (ws : List Jvm.Cond) (r0 : Addr) (r1 : Addr) (kc : ClassId) (x0 x1 : Int64) (dj : Value) (h0 : Heap) (n0 : Nat) (Z0 : n0 ≤ h0.size) (V_c : Arv Z h0 r1 kc .long (2 : Int32) [(.long x0), (.long x1)] dj) (F_c : Fld Z h0 r0 "com/example/mapstone/mapstone/engine/ConceptIndex" "concepts" "[J" .null) (F_s : Fld Z h0 r0 "com/example/mapstone/mapstone/engine/ConceptIndex" "slots" "[I" .null) (F_h : Fld Z h0 r0 "com/example/mapstone/mapstone/engine/ConceptIndex" "shift" "I" (.int (0 : Int32))) (E0 : Exa Z h0 r0 "com/example/mapstone/mapstone/engine/ConceptIndex") (g_r0 : n0 ≤ r0) (hne : r1 ≠ r0) :
    MetFree l (⟨"com/example/mapstone/mapstone/engine/ConceptIndex", "<init>", "([J)V"⟩ : MethodName) (head1 (Jvm.Cond.code (⟨"com/example/mapstone/mapstone/engine/ConceptIndex", "<init>", "([J)V"⟩ : MethodName) prog_18_method_1_code 5 none :: ws) ({ frames := 2, cells := 1, slots := 4, locals := 29 } : Room)) (fun a U => a = #[(.ref r0), (.ref r1)] ∧ Z.Warmed39 U.vm ∧ U.heap = h0) (fun _ _ _ _ _ => True) (fun _ U o U' => ∃ v L, o = .returned v ∧ Q1_2 Z r0 r1 kc x0 x1 dj h0 n0 v U'.heap L ∧ FrameEnd U o U' L ({ frames := 2, cells := 1, slots := 4, locals := 29 } : Room).cells ({ frames := 2, cells := 1, slots := 4, locals := 29 } : Room).slots) := by
  refine MetFree.of_bodySF (plainFor_of_name pn_1) hisR ?_
  intro p e s m args below meth c s₁ Bd hml0 hP hK
  obtain ⟨rfl, hZ, hh⟩ := hP
  have hx := Bd.exec
  have hby := Bd.bytes
  have hml : c.maxLocals = 5 := hml0
  have hown : s.vm.findClass "com/example/mapstone/mapstone/engine/ConceptIndex" = some m.cls := findClass_of_methodNamed Bd.named
  have hnm := (name_of_methodNamed Bd.named Bd.method).1
  have X0 : Stand p l e ({ frames := 2, cells := 1, slots := 4, locals := 29 } : Room) s m #[(.ref r0), (.ref r1)] below meth c s₁ [] 0 0 := Stand.of_body Bd
  have e0 : s₁.heap = h0 := by rw [← hh, Bd.state]; rfl
  have N0 := Fr.nil n0
  have pre0 : ∀ t, Steps p.tables e below (s₁.setTop (mkF m 0 #[.val (.ref r0), .val (.ref r1), .unset, .unset, .unset] [])) t → Steps p.tables e below (s₁.setTop (entryFrame m #[(.ref r0), (.ref r1)] 5)) t := fun t k => castTop (ef_1 m r0 r1) k
  have c2 : ∀ t, Steps p.tables e below (s₁.setTop (mkF m 1 #[.val (.ref r0), .val (.ref r1), .unset, .unset, .unset] [(.ref r0)])) t → Steps p.tables e below (s₁.setTop (mkF m 0 #[.val (.ref r0), .val (.ref r1), .unset, .unset, .unset] [])) t := by
    intro t kt
    show Steps p.tables e below (s₁.setTop (mkF m 0 #[.val (.ref r0), .val (.ref r1), .unset, .unset, .unset] [])) _
    refine XS.aloadN X0.here hx rfl (hb hby d1_0) rfl rfl ?_
    exact kt
  obtain ⟨T1, X1, e1, st1⟩ := initO X0 hx hZ hown (hw _ (List.mem_of_getElem? (i := 7) rfl)) (hw _ (List.mem_of_getElem? (i := 8) rfl)) (hw _ (List.mem_of_getElem? (i := 9) rfl)) e0 (g := (mkF m 1 #[.val (.ref r0), .val (.ref r1), .unset, .unset, .unset] [(.ref r0)])) rfl (by rw [hml]; rfl) rfl (hb hby d1_1) (by decide) (W := 0) (by show 2 * 0 + _ ≤ _; exact Nat.le_of_eq rfl) (by decide)
  have c4 : ∀ t, Steps p.tables e below (T1.setTop (mkF m 6 #[.val (.ref r0), .val (.ref r1), .unset, .unset, .unset] [(.ref r1), (.ref r0)])) t → Steps p.tables e below (T1.setTop (mkF m 4 #[.val (.ref r0), .val (.ref r1), .unset, .unset, .unset] [])) t := by
    intro t kt
    show Steps p.tables e below (T1.setTop (mkF m 4 #[.val (.ref r0), .val (.ref r1), .unset, .unset, .unset] [])) _
    refine XS.aloadN X1.here hx rfl (hb hby d1_4) rfl rfl ?_
    show Steps p.tables e below (T1.setTop (mkF m 5 #[.val (.ref r0), .val (.ref r1), .unset, .unset, .unset] [(.ref r0)])) _
    refine XS.aloadN X1.here hx rfl (hb hby d1_5) rfl rfl ?_
    exact kt
  obtain ⟨T3, h3, X3, e3, W3, st3⟩ := putF X1 hx hZ hown (host := "") (Or.inl (hw _ (List.mem_of_getElem? (i := 10) rfl))) Via.refl e1 F_c E0 (Or.inr ⟨(hw _ (List.mem_of_getElem? (i := 11) rfl)), rfl, hnm⟩) (hw _ (List.mem_of_getElem? (i := 2) rfl)) (ty := (.array .long)) (by decide) rfl rfl (g := (mkF m 6 #[.val (.ref r0), .val (.ref r1), .unset, .unset, .unset] [(.ref r1), (.ref r0)])) rfl rfl (hb hby d1_6)
  have Fw3 := F_c.same W3
  have N3 := Fr.snoc X3 N0 g_r0
  have f5 := (V_c.other W3 hne)
  have Vc6 := f5
  obtain ⟨cl6, Ar6, qk6, S6, M6, H6, G6⟩ := Vc6
  have c7 : ∀ t, Steps p.tables e below (T3.setTop (mkF m 21 #[.val (.ref r0), .val (.ref r1), .unset, .unset, .unset] [(.long (1 : Int64)), (.long (((2 : Int64) * ((2 : Int32).toInt64)) - (1 : Int64))), (.int (64 : Int32))])) t → Steps p.tables e below (T3.setTop (mkF m 9 #[.val (.ref r0), .val (.ref r1), .unset, .unset, .unset] [])) t := by
    intro t kt
    show Steps p.tables e below (T3.setTop (mkF m 9 #[.val (.ref r0), .val (.ref r1), .unset, .unset, .unset] [])) _
    refine XS.bipush X3.here hx rfl (hb hby d1_9) ?_
    show Steps p.tables e below (T3.setTop (mkF m 11 #[.val (.ref r0), .val (.ref r1), .unset, .unset, .unset] [(.int (64 : Int32))])) _
    refine X3.ldc2Long hx hown (mvT hZ (hw _ (List.mem_of_getElem? (i := 12) rfl))) (g := (mkF m 11 #[.val (.ref r0), .val (.ref r1), .unset, .unset, .unset] [(.int (64 : Int32))])) rfl (hb hby d1_11) _ ?_
    show Steps p.tables e below (T3.setTop (mkF m 14 #[.val (.ref r0), .val (.ref r1), .unset, .unset, .unset] [(.long (2 : Int64)), (.int (64 : Int32))])) _
    refine XS.aloadN X3.here hx rfl (hb hby d1_14) rfl rfl ?_
    show Steps p.tables e below (T3.setTop (mkF m 15 #[.val (.ref r0), .val (.ref r1), .unset, .unset, .unset] [(.ref r1), (.long (2 : Int64)), (.int (64 : Int32))])) _
    refine X3.arraylength hx (by rw [e3]; exact Ar6.1) (State.isArrayOf_alike hZ.alike Ar6.2.1) (g := (mkF m 15 #[.val (.ref r0), .val (.ref r1), .unset, .unset, .unset] [(.ref r1), (.long (2 : Int64)), (.int (64 : Int32))])) rfl rfl (hb hby d1_15) _ ?_
    rw [len_of S6 M6]
    show Steps p.tables e below (T3.setTop (mkF m 16 #[.val (.ref r0), .val (.ref r1), .unset, .unset, .unset] [(.int (2 : Int32)), (.long (2 : Int64)), (.int (64 : Int32))])) _
    refine XS.i2l X3.here hx rfl (hb hby d1_16) rfl ?_
    show Steps p.tables e below (T3.setTop (mkF m 17 #[.val (.ref r0), .val (.ref r1), .unset, .unset, .unset] [(.long ((2 : Int32).toInt64)), (.long (2 : Int64)), (.int (64 : Int32))])) _
    refine XS.lmul X3.here hx rfl (hb hby d1_17) rfl ?_
    show Steps p.tables e below (T3.setTop (mkF m 18 #[.val (.ref r0), .val (.ref r1), .unset, .unset, .unset] [(.long ((2 : Int64) * ((2 : Int32).toInt64))), (.int (64 : Int32))])) _
    refine XS.lconst X3.here hx rfl (hb hby d1_18) ?_
    show Steps p.tables e below (T3.setTop (mkF m 19 #[.val (.ref r0), .val (.ref r1), .unset, .unset, .unset] [(.long (1 : Int64)), (.long ((2 : Int64) * ((2 : Int32).toInt64))), (.int (64 : Int32))])) _
    refine XS.lsub X3.here hx rfl (hb hby d1_19) rfl ?_
    show Steps p.tables e below (T3.setTop (mkF m 20 #[.val (.ref r0), .val (.ref r1), .unset, .unset, .unset] [(.long (((2 : Int64) * ((2 : Int32).toInt64)) - (1 : Int64))), (.int (64 : Int32))])) _
    refine XS.lconst X3.here hx rfl (hb hby d1_20) ?_
    exact kt
  have c8 : ∀ t, Steps p.tables e below (T3.setTop (mkF m 21 #[.val (.ref r0), .val (.ref r1), .unset, .unset, .unset] [(.long (1 : Int64)), (.long (3 : Int64)), (.int (64 : Int32))])) t → Steps p.tables e below (T3.setTop (mkF m 21 #[.val (.ref r0), .val (.ref r1), .unset, .unset, .unset] [(.long (1 : Int64)), (.long (((2 : Int64) * ((2 : Int32).toInt64)) - (1 : Int64))), (.int (64 : Int32))])) t := fun t kt => castTop (congrArg (fun z => (mkF m 21 #[.val (.ref r0), .val (.ref r1), .unset, .unset, .unset] [(.long (1 : Int64)), (.long z), (.int (64 : Int32))])) (show (((2 : Int64) * ((2 : Int32).toInt64)) - (1 : Int64)) = (3 : Int64) from by decide)) kt
  have f9 := (Nat.le_trans Z0 (Keep.of_wr W3).1)
  obtain ⟨_, _, ⟨T10, L10, k10, n10⟩, -, X10, ⟨Lc10, hQ10, l10, y10, z10⟩, st10⟩ := Jvm.LawKit.callS X3 hx (y := (⟨"java/lang/Math", "max", "(JJ)J"⟩ : MethodName)) hown (mvT hZ (hw _ (List.mem_of_getElem? (i := 13) rfl))) (mvT hZ (hw _ (List.mem_of_getElem? (i := 14) rfl))) (mvT hZ (hw _ (List.mem_of_getElem? (i := 15) rfl))) (mvT hZ (hw _ (List.mem_of_getElem? (i := 16) rfl))) (by decide) (backOf (W := 1) (rm3 l Z a0 hw [] (3 : Int64) (1 : Int64)  h3 n0 f9 ) hZ (hw _ (List.mem_of_getElem? (i := 16) rfl)) (hw _ (List.mem_of_getElem? (i := 15) rfl)) (by decide) (by decide)) (g := (mkF m 21 #[.val (.ref r0), .val (.ref r1), .unset, .unset, .unset] [(.long (1 : Int64)), (.long (3 : Int64)), (.int (64 : Int32))])) rfl (by rw [hml]; rfl) (argsL := [(.long (3 : Int64)), (.long (1 : Int64))]) (rest := [(.int (64 : Int32))]) (lenOf pd_1 rfl) rfl (by show 2 * 0 + _ ≤ _; exact Nat.le_of_eq rfl) (hb hby d1_21) (fun _ _ => ⟨rfl, e3, (by decide : 0 + 0 ≤ _), (by decide : 0 + 0 ≤ _)⟩)
  dsimp only [Pt.U, Pt.locs, Pt.cells, Pt.slots] at X10 l10 y10 z10 st10 hQ10
  subst l10 y10 z10
  obtain ⟨rfl, N10q, e10⟩ := hQ10
  have N10 := Fr.app N3 N10q
  have c11 : ∀ t, Steps p.tables e below (T10.setTop (mkF m 24 #[.val (.ref r0), .val (.ref r1), .unset, .unset, .unset] [(.long (3 : Int64)), (.int (64 : Int32))])) t → Steps p.tables e below (T10.setTop (mkF m 24 #[.val (.ref r0), .val (.ref r1), .unset, .unset, .unset] [(.long (own_max (3 : Int64) (1 : Int64))), (.int (64 : Int32))])) t := fun t kt => castTop (congrArg (fun z => (mkF m 24 #[.val (.ref r0), .val (.ref r1), .unset, .unset, .unset] [(.long z), (.int (64 : Int32))])) (show (own_max (3 : Int64) (1 : Int64)) = (3 : Int64) from by decide)) kt
  obtain ⟨_, _, ⟨T12, L12, k12, n12⟩, -, X12, ⟨Lc12, hQ12, l12, y12, z12⟩, st12⟩ := Jvm.LawKit.callS X10 hx (y := (⟨"java/lang/Long", "numberOfLeadingZeros", "(J)I"⟩ : MethodName)) hown (mvT hZ (hw _ (List.mem_of_getElem? (i := 17) rfl))) (mvT hZ (hw _ (List.mem_of_getElem? (i := 18) rfl))) (mvT hZ (hw _ (List.mem_of_getElem? (i := 19) rfl))) (mvT hZ (hw _ (List.mem_of_getElem? (i := 20) rfl))) (by decide) (backOf (W := 1) (rm4_3 l Z a0 hw []   h3 n0 f9 ) hZ (hw _ (List.mem_of_getElem? (i := 20) rfl)) (hw _ (List.mem_of_getElem? (i := 19) rfl)) (by decide) (by decide)) (g := (mkF m 24 #[.val (.ref r0), .val (.ref r1), .unset, .unset, .unset] [(.long (3 : Int64)), (.int (64 : Int32))])) rfl (by rw [hml]; rfl) (argsL := [(.long (3 : Int64))]) (rest := [(.int (64 : Int32))]) (lenOf pd_2 rfl) rfl (by show 2 * 0 + _ ≤ _; exact Nat.le_of_eq rfl) (hb hby d1_24) (fun _ _ => ⟨rfl, e10, (by decide : 0 + 0 ≤ _), (by decide : 0 + 0 ≤ _)⟩)
  dsimp only [Pt.U, Pt.locs, Pt.cells, Pt.slots] at X12 l12 y12 z12 st12 hQ12
  subst l12 y12 z12
  obtain ⟨rfl, N12q, e12⟩ := hQ12
  have N12 := Fr.app N10 N12q
  have c13 : ∀ t, Steps p.tables e below (T12.setTop (mkF m 33 #[.val (.ref r0), .val (.ref r1), .val (.int ((64 : Int32) - (62 : Int32))), .unset, .unset] [(.int ((1 : Int32) <<< (((64 : Int32) - (62 : Int32)) &&& 31))), (.ref r0)])) t → Steps p.tables e below (T12.setTop (mkF m 27 #[.val (.ref r0), .val (.ref r1), .unset, .unset, .unset] [(.int (62 : Int32)), (.int (64 : Int32))])) t := by
    intro t kt
    show Steps p.tables e below (T12.setTop (mkF m 27 #[.val (.ref r0), .val (.ref r1), .unset, .unset, .unset] [(.int (62 : Int32)), (.int (64 : Int32))])) _
    refine XS.isub X12.here hx rfl (hb hby d1_27) rfl ?_
    show Steps p.tables e below (T12.setTop (mkF m 28 #[.val (.ref r0), .val (.ref r1), .unset, .unset, .unset] [(.int ((64 : Int32) - (62 : Int32)))])) _
    refine XS.istoreN X12.here hx rfl (hb hby d1_28) rfl (l' := #[.val (.ref r0), .val (.ref r1), .val (.int ((64 : Int32) - (62 : Int32))), .unset, .unset]) rfl ?_
    show Steps p.tables e below (T12.setTop (mkF m 29 #[.val (.ref r0), .val (.ref r1), .val (.int ((64 : Int32) - (62 : Int32))), .unset, .unset] [])) _
    refine XS.aloadN X12.here hx rfl (hb hby d1_29) rfl rfl ?_
    show Steps p.tables e below (T12.setTop (mkF m 30 #[.val (.ref r0), .val (.ref r1), .val (.int ((64 : Int32) - (62 : Int32))), .unset, .unset] [(.ref r0)])) _
    refine XS.iconst X12.here hx rfl (hb hby d1_30) ?_
    show Steps p.tables e below (T12.setTop (mkF m 31 #[.val (.ref r0), .val (.ref r1), .val (.int ((64 : Int32) - (62 : Int32))), .unset, .unset] [(.int (1 : Int32)), (.ref r0)])) _
    refine XS.iloadN X12.here hx rfl (hb hby d1_31) rfl ?_
    show Steps p.tables e below (T12.setTop (mkF m 32 #[.val (.ref r0), .val (.ref r1), .val (.int ((64 : Int32) - (62 : Int32))), .unset, .unset] [(.int ((64 : Int32) - (62 : Int32))), (.int (1 : Int32)), (.ref r0)])) _
    refine XS.ishl X12.here hx rfl (hb hby d1_32) rfl ?_
    exact kt
  have c14 : ∀ t, Steps p.tables e below (T12.setTop (mkF m 33 #[.val (.ref r0), .val (.ref r1), .val (.int ((64 : Int32) - (62 : Int32))), .unset, .unset] [(.int (4 : Int32)), (.ref r0)])) t → Steps p.tables e below (T12.setTop (mkF m 33 #[.val (.ref r0), .val (.ref r1), .val (.int ((64 : Int32) - (62 : Int32))), .unset, .unset] [(.int ((1 : Int32) <<< (((64 : Int32) - (62 : Int32)) &&& 31))), (.ref r0)])) t := fun t kt => castTop (congrArg (fun z => (mkF m 33 #[.val (.ref r0), .val (.ref r1), .val (.int ((64 : Int32) - (62 : Int32))), .unset, .unset] [(.int z), (.ref r0)])) (show ((1 : Int32) <<< (((64 : Int32) - (62 : Int32)) &&& 31)) = (4 : Int32) from by decide)) kt
  have c15 : ∀ t, Steps p.tables e below (T12.setTop (mkF m 33 #[.val (.ref r0), .val (.ref r1), .val (.int (2 : Int32)), .unset, .unset] [(.int (4 : Int32)), (.ref r0)])) t → Steps p.tables e below (T12.setTop (mkF m 33 #[.val (.ref r0), .val (.ref r1), .val (.int ((64 : Int32) - (62 : Int32))), .unset, .unset] [(.int (4 : Int32)), (.ref r0)])) t := fun t kt => castTop (congrArg (fun z => (mkF m 33 #[.val (.ref r0), .val (.ref r1), .val (.int z), .unset, .unset] [(.int (4 : Int32)), (.ref r0)])) (show ((64 : Int32) - (62 : Int32)) = (2 : Int32) from by decide)) kt
  obtain ⟨T16, h16, k16, X16, e16, E16, A16, st16⟩ := newP X12 hx hZ (hw _ (List.mem_of_getElem? (i := 26) rfl)) e12 (g := (mkF m 33 #[.val (.ref r0), .val (.ref r1), .val (.int (2 : Int32)), .unset, .unset] [(.int (4 : Int32)), (.ref r0)])) rfl (hb hby d1_33) rfl (by decide) (cap := 4) (by decide) (by decide) (by decide) (by decide)
  obtain ⟨b16, g16⟩ : ∃ z, z = h3.size := ⟨_, rfl⟩
  rw [← g16] at A16 st16
  have f17 := ((Keep.refl h0 [r0]).wr W3 (Or.inl (List.mem_of_getElem? (i := 0) rfl)))
  have g_b16 : n0 ≤ b16 := Nat.le_trans f9 (Nat.le_of_eq g16.symm)
  have sz_b16 : h0.size ≤ b16 := Nat.le_trans f17.1 (Nat.le_of_eq g16.symm)
  have lt_r1_16 := f5.lt
  have lt_r0_16 := Fw3.lt
  have V16 : Arv Z h16 b16 k16 .int (4 : Int32) [(.int (0 : Int32)), (.int (0 : Int32)), (.int (0 : Int32)), (.int (0 : Int32))] (.int (0 : Int32)) := (Arv.new A16 (by decide)).pad (pad_rep [] (.int (0 : Int32)) 4)
  have f18 := ((F_s.other W3 (Or.inr (slot_ne (a0 := a0) (Or.inr (hw _ (List.mem_of_getElem? (i := 28) rfl))) (Or.inr (hw _ (List.mem_of_getElem? (i := 11) rfl))) (by decide) (t := (.array .int)) (t' := (.array .long)) (by decide) (by decide)))).ext E16)
  have f19 := ((E0.wr W3).ext E16)
  obtain ⟨T20, h20, X20, e20, W20, st20⟩ := putF X16 hx hZ hown (host := "") (Or.inl (hw _ (List.mem_of_getElem? (i := 27) rfl))) Via.refl e16 f18 f19 (Or.inr ⟨(hw _ (List.mem_of_getElem? (i := 28) rfl)), rfl, hnm⟩) (hw _ (List.mem_of_getElem? (i := 2) rfl)) (ty := (.array .int)) (by decide) rfl rfl (g := (mkF m 35 #[.val (.ref r0), .val (.ref r1), .val (.int (2 : Int32)), .unset, .unset] [(.ref b16), (.ref r0)])) rfl rfl (hb hby d1_35)
  have Fw20 := f18.same W20
  have N20 := Fr.snoc X20 N12 g_r0
  have c21 : ∀ t, Steps p.tables e below (T20.setTop (mkF m 43 #[.val (.ref r0), .val (.ref r1), .val (.int (2 : Int32)), .unset, .unset] [(.int ((64 : Int32) - (2 : Int32))), (.ref r0)])) t → Steps p.tables e below (T20.setTop (mkF m 38 #[.val (.ref r0), .val (.ref r1), .val (.int (2 : Int32)), .unset, .unset] [])) t := by
    intro t kt
    show Steps p.tables e below (T20.setTop (mkF m 38 #[.val (.ref r0), .val (.ref r1), .val (.int (2 : Int32)), .unset, .unset] [])) _
    refine XS.aloadN X20.here hx rfl (hb hby d1_38) rfl rfl ?_
    show Steps p.tables e below (T20.setTop (mkF m 39 #[.val (.ref r0), .val (.ref r1), .val (.int (2 : Int32)), .unset, .unset] [(.ref r0)])) _
    refine XS.bipush X20.here hx rfl (hb hby d1_39) ?_
    show Steps p.tables e below (T20.setTop (mkF m 41 #[.val (.ref r0), .val (.ref r1), .val (.int (2 : Int32)), .unset, .unset] [(.int (64 : Int32)), (.ref r0)])) _
    refine XS.iloadN X20.here hx rfl (hb hby d1_41) rfl ?_
    show Steps p.tables e below (T20.setTop (mkF m 42 #[.val (.ref r0), .val (.ref r1), .val (.int (2 : Int32)), .unset, .unset] [(.int (2 : Int32)), (.int (64 : Int32)), (.ref r0)])) _
    refine XS.isub X20.here hx rfl (hb hby d1_42) rfl ?_
    exact kt
  have c22 : ∀ t, Steps p.tables e below (T20.setTop (mkF m 43 #[.val (.ref r0), .val (.ref r1), .val (.int (2 : Int32)), .unset, .unset] [(.int (62 : Int32)), (.ref r0)])) t → Steps p.tables e below (T20.setTop (mkF m 43 #[.val (.ref r0), .val (.ref r1), .val (.int (2 : Int32)), .unset, .unset] [(.int ((64 : Int32) - (2 : Int32))), (.ref r0)])) t := fun t kt => castTop (congrArg (fun z => (mkF m 43 #[.val (.ref r0), .val (.ref r1), .val (.int (2 : Int32)), .unset, .unset] [(.int z), (.ref r0)])) (show ((64 : Int32) - (2 : Int32)) = (62 : Int32) from by decide)) kt
  have f23 := (((F_h.other W3 (Or.inr (slot_ne (a0 := a0) (Or.inr (hw _ (List.mem_of_getElem? (i := 30) rfl))) (Or.inr (hw _ (List.mem_of_getElem? (i := 11) rfl))) (by decide) (t := .int) (t' := (.array .long)) (by decide) (by decide)))).ext E16).other W20 (Or.inr (slot_ne (a0 := a0) (Or.inr (hw _ (List.mem_of_getElem? (i := 30) rfl))) (Or.inr (hw _ (List.mem_of_getElem? (i := 28) rfl))) (by decide) (t := .int) (t' := (.array .int)) (by decide) (by decide))))
  have f24 := (f19.wr W20)
  obtain ⟨T25, h25, X25, e25, W25, st25⟩ := putF X20 hx hZ hown (host := "") (Or.inl (hw _ (List.mem_of_getElem? (i := 29) rfl))) Via.refl e20 f23 f24 (Or.inr ⟨(hw _ (List.mem_of_getElem? (i := 30) rfl)), rfl, hnm⟩) (hw _ (List.mem_of_getElem? (i := 2) rfl)) (ty := .int) (by decide) rfl rfl (g := (mkF m 43 #[.val (.ref r0), .val (.ref r1), .val (.int (2 : Int32)), .unset, .unset] [(.int (62 : Int32)), (.ref r0)])) rfl rfl (hb hby d1_43)
  have Fw25 := f23.same W25
  have N25 := Fr.snoc X25 N20 g_r0
  have f26 := (((f5.ext E16).other W20 hne).other W25 hne)
  have Vc27 := f26
  obtain ⟨cl27, Ar27, qk27, S27, M27, H27, G27⟩ := Vc27
  have Vc28 := f26
  obtain ⟨cl28, Ar28, qk28, S28, M28, H28, G28⟩ := Vc28
  have hin28 : ¬ ((0 : Int32) < 0 ∨ cl28.slots.size ≤ ((0 : Int32)).toNatClampNeg) := inb_of S28 ⟨by decide, by decide⟩
  have hat28 : cl28.slots[((0 : Int32)).toNatClampNeg]? = some (.long x0) := H28.at hin28 rfl
  have c29 : ∀ t, Steps p.tables e below (T25.setTop (mkF m 58 #[.val (.ref r0), .val (.ref r1), .val (.int (2 : Int32)), .val (.int (0 : Int32)), .unset] [(.long x0), (.ref r0)])) t → Steps p.tables e below (T25.setTop (mkF m 46 #[.val (.ref r0), .val (.ref r1), .val (.int (2 : Int32)), .unset, .unset] [])) t := by
    intro t kt
    show Steps p.tables e below (T25.setTop (mkF m 46 #[.val (.ref r0), .val (.ref r1), .val (.int (2 : Int32)), .unset, .unset] [])) _
    refine XS.iconst X25.here hx rfl (hb hby d1_46) ?_
    show Steps p.tables e below (T25.setTop (mkF m 47 #[.val (.ref r0), .val (.ref r1), .val (.int (2 : Int32)), .unset, .unset] [(.int (0 : Int32))])) _
    refine XS.istoreN X25.here hx rfl (hb hby d1_47) rfl (l' := #[.val (.ref r0), .val (.ref r1), .val (.int (2 : Int32)), .val (.int (0 : Int32)), .unset]) rfl ?_
    show Steps p.tables e below (T25.setTop (mkF m 48 #[.val (.ref r0), .val (.ref r1), .val (.int (2 : Int32)), .val (.int (0 : Int32)), .unset] [])) _
    refine XS.iloadN X25.here hx rfl (hb hby d1_48) rfl ?_
    show Steps p.tables e below (T25.setTop (mkF m 49 #[.val (.ref r0), .val (.ref r1), .val (.int (2 : Int32)), .val (.int (0 : Int32)), .unset] [(.int (0 : Int32))])) _
    refine XS.aloadN X25.here hx rfl (hb hby d1_49) rfl rfl ?_
    show Steps p.tables e below (T25.setTop (mkF m 50 #[.val (.ref r0), .val (.ref r1), .val (.int (2 : Int32)), .val (.int (0 : Int32)), .unset] [(.ref r1), (.int (0 : Int32))])) _
    refine X25.arraylength hx (by rw [e25]; exact Ar27.1) (State.isArrayOf_alike hZ.alike Ar27.2.1) (g := (mkF m 50 #[.val (.ref r0), .val (.ref r1), .val (.int (2 : Int32)), .val (.int (0 : Int32)), .unset] [(.ref r1), (.int (0 : Int32))])) rfl rfl (hb hby d1_50) _ ?_
    rw [len_of S27 M27]
    show Steps p.tables e below (T25.setTop (mkF m 51 #[.val (.ref r0), .val (.ref r1), .val (.int (2 : Int32)), .val (.int (0 : Int32)), .unset] [(.int (2 : Int32)), (.int (0 : Int32))])) _
    refine XS.icmpNo X25.here hx rfl (hb hby d1_51) rfl (tlt (by decide : (0 : Int32) < (2 : Int32))).2.1 ?_
    show Steps p.tables e below (T25.setTop (mkF m 54 #[.val (.ref r0), .val (.ref r1), .val (.int (2 : Int32)), .val (.int (0 : Int32)), .unset] [])) _
    refine XS.aloadN X25.here hx rfl (hb hby d1_54) rfl rfl ?_
    show Steps p.tables e below (T25.setTop (mkF m 55 #[.val (.ref r0), .val (.ref r1), .val (.int (2 : Int32)), .val (.int (0 : Int32)), .unset] [(.ref r0)])) _
    refine XS.aloadN X25.here hx rfl (hb hby d1_55) rfl rfl ?_
    show Steps p.tables e below (T25.setTop (mkF m 56 #[.val (.ref r0), .val (.ref r1), .val (.int (2 : Int32)), .val (.int (0 : Int32)), .unset] [(.ref r1), (.ref r0)])) _
    refine XS.iloadN X25.here hx rfl (hb hby d1_56) rfl ?_
    show Steps p.tables e below (T25.setTop (mkF m 57 #[.val (.ref r0), .val (.ref r1), .val (.int (2 : Int32)), .val (.int (0 : Int32)), .unset] [(.int (0 : Int32)), (.ref r1), (.ref r0)])) _
    refine X25.laload hx (j := (0 : Int32)) (v := (.long x0)) (by rw [e25]; exact Ar28.1) (State.isArrayOf_alike hZ.alike Ar28.2.1) Ar28.2.2 hin28 hat28 (g := (mkF m 57 #[.val (.ref r0), .val (.ref r1), .val (.int (2 : Int32)), .val (.int (0 : Int32)), .unset] [(.int (0 : Int32)), (.ref r1), (.ref r0)])) rfl rfl (hb hby d1_57) _ ?_
    exact kt
  have f30 := (Nat.le_trans (Nat.le_trans (Nat.le_trans f9 E16.1) (Keep.of_wr W20).1) (Keep.of_wr W25).1)
  have f31 := (f24.wr W25)
  obtain ⟨cq32, rq32, rq32'⟩ := f31.cell
  obtain ⟨_, _, ⟨T33, L33, k33, n33⟩, -, X33, ⟨Lc33, hQ33, l33, y33, z33⟩, st33⟩ := X25.privateBack hx (y := (⟨"com/example/mapstone/mapstone/engine/ConceptIndex", "slot", "(J)I"⟩ : MethodName)) hown (mvT hZ (hw _ (List.mem_of_getElem? (i := 31) rfl))) (mvT hZ (hw _ (List.mem_of_getElem? (i := 32) rfl))) (own_selp (y := (⟨"com/example/mapstone/mapstone/engine/ConceptIndex", "slot", "(J)I"⟩ : MethodName)) (z := (⟨"com/example/mapstone/mapstone/engine/ConceptIndex", "place", "(J)I"⟩ : MethodName)) (mvT hZ (hw _ (List.mem_of_getElem? (i := 39) rfl))) rfl (Cond.privateMethod_at (mvP hZ (hw _ (List.mem_of_getElem? (i := 33) rfl)) (args := #[]))) (mvT hZ (hw _ (List.mem_of_getElem? (i := 32) rfl))) (by decide)) (Cond.privateMethod_at (mvP hZ (hw _ (List.mem_of_getElem? (i := 33) rfl)) (args := #[]))) (mvT hZ (hw _ (List.mem_of_getElem? (i := 34) rfl))) (by decide) (backOf (W := 0) (rm6 l Z a0 hw [] r0 x0 (62 : Int32) h25 n0 f30 Fw25) hZ (hw _ (List.mem_of_getElem? (i := 34) rfl)) (hw _ (List.mem_of_getElem? (i := 3) rfl)) (by decide) (by decide)) (g := (mkF m 58 #[.val (.ref r0), .val (.ref r1), .val (.int (2 : Int32)), .val (.int (0 : Int32)), .unset] [(.long x0), (.ref r0)])) rfl (by rw [hml]; rfl) (Steps.refl _) (a := r0) (by rw [e25]; exact rq32) rq32' (argsL := [(.long x0)]) (rest := []) (lenOf pd_2 rfl) rfl (by show 2 * 0 + _ ≤ _; exact Nat.le_of_eq rfl) (hb hby d1_58) (fun _ _ => ⟨rfl, e25, (by decide : 1 + 0 ≤ _), (by decide : 4 + 0 ≤ _)⟩)
  dsimp only [Pt.U, Pt.locs, Pt.cells, Pt.slots] at X33 l33 y33 z33 st33 hQ33
  subst l33 y33 z33
  obtain ⟨rfl, N33q, e33⟩ := hQ33
  have N33 := Fr.app N25 N33q
  have hsl34 := own_slotv (62 : Int32) x0 0 4 (by decide)
  have c35 : ∀ t, Steps p.tables e below (T33.setTop (mkF m 61 #[.val (.ref r0), .val (.ref r1), .val (.int (2 : Int32)), .val (.int (0 : Int32)), .unset] [(.int (Int32.ofNat (own_sN (62 : Int32) x0)))])) t → Steps p.tables e below (T33.setTop (mkF m 61 #[.val (.ref r0), .val (.ref r1), .val (.int (2 : Int32)), .val (.int (0 : Int32)), .unset] [(.int (own_slot (62 : Int32) x0))])) t := fun t kt => castTop (congrArg (fun z => (mkF m 61 #[.val (.ref r0), .val (.ref r1), .val (.int (2 : Int32)), .val (.int (0 : Int32)), .unset] [(.int z)])) (show (own_slot (62 : Int32) x0) = (Int32.ofNat (own_sN (62 : Int32) x0)) from hsl34.1)) kt
  have c36 : ∀ t, Steps p.tables e below (T33.setTop (mkF m 63 #[.val (.ref r0), .val (.ref r1), .val (.int (2 : Int32)), .val (.int (0 : Int32)), .val (.int (Int32.ofNat (own_sN (62 : Int32) x0)))] [])) t → Steps p.tables e below (T33.setTop (mkF m 61 #[.val (.ref r0), .val (.ref r1), .val (.int (2 : Int32)), .val (.int (0 : Int32)), .unset] [(.int (Int32.ofNat (own_sN (62 : Int32) x0)))])) t := by
    intro t kt
    show Steps p.tables e below (T33.setTop (mkF m 61 #[.val (.ref r0), .val (.ref r1), .val (.int (2 : Int32)), .val (.int (0 : Int32)), .unset] [(.int (Int32.ofNat (own_sN (62 : Int32) x0)))])) _
    refine XS.istore X33.here hx rfl (hb hby d1_61) rfl (l' := #[.val (.ref r0), .val (.ref r1), .val (.int (2 : Int32)), .val (.int (0 : Int32)), .val (.int (Int32.ofNat (own_sN (62 : Int32) x0)))]) rfl ?_
    exact kt
  have f38 := (Fw20.other W25 (Or.inr (slot_ne (a0 := a0) (Or.inr (hw _ (List.mem_of_getElem? (i := 28) rfl))) (Or.inr (hw _ (List.mem_of_getElem? (i := 30) rfl))) (by decide) (t := (.array .int)) (t' := .int) (by decide) (by decide))))
  have f39 := ((V16.other W20 (Ne.symm (Nat.ne_of_lt (Nat.lt_of_lt_of_le lt_r0_16 (Nat.le_of_eq g16.symm))))).other W25 (Ne.symm (Nat.ne_of_lt (Nat.lt_of_lt_of_le lt_r0_16 (Nat.le_of_eq g16.symm)))))
  have hok37 : own_ok (List.replicate 4 0) 4 0 := own_okz 4 (by decide)
  have hend37 := hok37.2.2 (own_sN (62 : Int32) x0) hsl34.2
  have VT37 : Arv Z h25 b16 k16 .int (Int32.ofNat 4) (own_tv (List.replicate 4 0)) (.int (0 : Int32)) := f39
  obtain ⟨T37, L37, X37, e37, N37, st37⟩ := lfree r0 r1 (2 : Int32) (0 : Int32) b16 k16 4 (List.replicate 4 0) hx hZ hw hby hml hown N33 f30 f38 VT37 (by decide) hok37.1 (fun i => Nat.le_trans (hok37.2.1 i) (by decide)) 8 (own_sN (62 : Int32) x0) hsl34.2 hend37.1 T33 X33 e33
  have c41 : ∀ t, Steps p.tables e below (T37.setTop (mkF m 91 #[.val (.ref r0), .val (.ref r1), .val (.int (2 : Int32)), .val (.int (0 : Int32)), .val (.int (Int32.ofNat (own_free (List.replicate 4 0) 4 8 (own_sN (62 : Int32) x0))))] [(.ref r0)])) t → Steps p.tables e below (T37.setTop (mkF m 90 #[.val (.ref r0), .val (.ref r1), .val (.int (2 : Int32)), .val (.int (0 : Int32)), .val (.int (Int32.ofNat (own_free (List.replicate 4 0) 4 8 (own_sN (62 : Int32) x0))))] [])) t := by
    intro t kt
    show Steps p.tables e below (T37.setTop (mkF m 90 #[.val (.ref r0), .val (.ref r1), .val (.int (2 : Int32)), .val (.int (0 : Int32)), .val (.int (Int32.ofNat (own_free (List.replicate 4 0) 4 8 (own_sN (62 : Int32) x0))))] [])) _
    refine XS.aloadN X37.here hx rfl (hb hby d1_90) rfl rfl ?_
    exact kt
  obtain ⟨T40, X40, e40, st40⟩ := getF X37 hx hZ hown (host := "") (Or.inl (hw _ (List.mem_of_getElem? (i := 27) rfl))) Via.refl e37 f38 (g := (mkF m 91 #[.val (.ref r0), .val (.ref r1), .val (.int (2 : Int32)), .val (.int (0 : Int32)), .val (.int (Int32.ofNat (own_free (List.replicate 4 0) 4 8 (own_sN (62 : Int32) x0))))] [(.ref r0)])) rfl rfl (hb hby d1_91)
  have c42 : ∀ t, Steps p.tables e below (T40.setTop (mkF m 99 #[.val (.ref r0), .val (.ref r1), .val (.int (2 : Int32)), .val (.int (0 : Int32)), .val (.int (Int32.ofNat (own_free (List.replicate 4 0) 4 8 (own_sN (62 : Int32) x0))))] [(.int ((0 : Int32) + (1 : Int32))), (.int (Int32.ofNat (own_free (List.replicate 4 0) 4 8 (own_sN (62 : Int32) x0)))), (.ref b16)])) t → Steps p.tables e below (T40.setTop (mkF m 94 #[.val (.ref r0), .val (.ref r1), .val (.int (2 : Int32)), .val (.int (0 : Int32)), .val (.int (Int32.ofNat (own_free (List.replicate 4 0) 4 8 (own_sN (62 : Int32) x0))))] [(.ref b16)])) t := by
    intro t kt
    show Steps p.tables e below (T40.setTop (mkF m 94 #[.val (.ref r0), .val (.ref r1), .val (.int (2 : Int32)), .val (.int (0 : Int32)), .val (.int (Int32.ofNat (own_free (List.replicate 4 0) 4 8 (own_sN (62 : Int32) x0))))] [(.ref b16)])) _
    refine XS.iload X40.here hx rfl (hb hby d1_94) rfl ?_
    show Steps p.tables e below (T40.setTop (mkF m 96 #[.val (.ref r0), .val (.ref r1), .val (.int (2 : Int32)), .val (.int (0 : Int32)), .val (.int (Int32.ofNat (own_free (List.replicate 4 0) 4 8 (own_sN (62 : Int32) x0))))] [(.int (Int32.ofNat (own_free (List.replicate 4 0) 4 8 (own_sN (62 : Int32) x0)))), (.ref b16)])) _
    refine XS.iloadN X40.here hx rfl (hb hby d1_96) rfl ?_
    show Steps p.tables e below (T40.setTop (mkF m 97 #[.val (.ref r0), .val (.ref r1), .val (.int (2 : Int32)), .val (.int (0 : Int32)), .val (.int (Int32.ofNat (own_free (List.replicate 4 0) 4 8 (own_sN (62 : Int32) x0))))] [(.int (0 : Int32)), (.int (Int32.ofNat (own_free (List.replicate 4 0) 4 8 (own_sN (62 : Int32) x0)))), (.ref b16)])) _
    refine XS.iconst X40.here hx rfl (hb hby d1_97) ?_
    show Steps p.tables e below (T40.setTop (mkF m 98 #[.val (.ref r0), .val (.ref r1), .val (.int (2 : Int32)), .val (.int (0 : Int32)), .val (.int (Int32.ofNat (own_free (List.replicate 4 0) 4 8 (own_sN (62 : Int32) x0))))] [(.int (1 : Int32)), (.int (0 : Int32)), (.int (Int32.ofNat (own_free (List.replicate 4 0) 4 8 (own_sN (62 : Int32) x0)))), (.ref b16)])) _
    refine XS.iadd X40.here hx rfl (hb hby d1_98) rfl ?_
    exact kt
  have c43 : ∀ t, Steps p.tables e below (T40.setTop (mkF m 99 #[.val (.ref r0), .val (.ref r1), .val (.int (2 : Int32)), .val (.int (0 : Int32)), .val (.int (Int32.ofNat (own_free (List.replicate 4 0) 4 8 (own_sN (62 : Int32) x0))))] [(.int (1 : Int32)), (.int (Int32.ofNat (own_free (List.replicate 4 0) 4 8 (own_sN (62 : Int32) x0)))), (.ref b16)])) t → Steps p.tables e below (T40.setTop (mkF m 99 #[.val (.ref r0), .val (.ref r1), .val (.int (2 : Int32)), .val (.int (0 : Int32)), .val (.int (Int32.ofNat (own_free (List.replicate 4 0) 4 8 (own_sN (62 : Int32) x0))))] [(.int ((0 : Int32) + (1 : Int32))), (.int (Int32.ofNat (own_free (List.replicate 4 0) 4 8 (own_sN (62 : Int32) x0)))), (.ref b16)])) t := fun t kt => castTop (congrArg (fun z => (mkF m 99 #[.val (.ref r0), .val (.ref r1), .val (.int (2 : Int32)), .val (.int (0 : Int32)), .val (.int (Int32.ofNat (own_free (List.replicate 4 0) 4 8 (own_sN (62 : Int32) x0))))] [(.int z), (.int (Int32.ofNat (own_free (List.replicate 4 0) 4 8 (own_sN (62 : Int32) x0)))), (.ref b16)])) (show ((0 : Int32) + (1 : Int32)) = (1 : Int32) from by decide)) kt
  have Vc44 := VT37
  obtain ⟨cl44, Ar44, qk44, S44, M44, H44, G44⟩ := Vc44
  have hin44 : ¬ ((Int32.ofNat (own_free (List.replicate 4 0) 4 8 (own_sN (62 : Int32) x0))) < 0 ∨ cl44.slots.size ≤ ((Int32.ofNat (own_free (List.replicate 4 0) 4 8 (own_sN (62 : Int32) x0)))).toNatClampNeg) := inb_of S44 (own_in _ 4 hend37.2 (by decide))
  obtain ⟨T45, h45, X45, e45, W45, st45⟩ := stI X40 hx hZ e40 Ar44 (j := (Int32.ofNat (own_free (List.replicate 4 0) 4 8 (own_sN (62 : Int32) x0)))) hin44 (g := (mkF m 99 #[.val (.ref r0), .val (.ref r1), .val (.int (2 : Int32)), .val (.int (0 : Int32)), .val (.int (Int32.ofNat (own_free (List.replicate 4 0) 4 8 (own_sN (62 : Int32) x0))))] [(.int (1 : Int32)), (.int (Int32.ofNat (own_free (List.replicate 4 0) 4 8 (own_sN (62 : Int32) x0)))), (.ref b16)])) rfl rfl (hb hby d1_99)
  have V45 : Arv Z h45 b16 k16 .int (Int32.ofNat 4) (own_tv (own_ins (List.replicate 4 0) 4 (own_sN (62 : Int32) x0) 1)) (.int (0 : Int32)) := by have q := Arv.set Ar44 qk44 S44 M44 H44 G44 rfl W45 (own_free (List.replicate 4 0) 4 8 (own_sN (62 : Int32) x0)) (own_clamp _ (Nat.lt_trans hend37.2 (by decide))) (by simp only [own_tv, List.length_map]; rw [hok37.1]; exact hend37.2); rw [show (own_tv (List.replicate 4 0)).set (own_free (List.replicate 4 0) 4 8 (own_sN (62 : Int32) x0)) (.int (1 : Int32)) = own_tv (own_ins (List.replicate 4 0) 4 (own_sN (62 : Int32) x0) 1) from own_tvset _ _ 1] at q; exact q
  have N45 := Fr.snoc X45 N37 g_b16
  have f46 := (f26.other W45 (Nat.ne_of_lt (Nat.lt_of_lt_of_le lt_r1_16 (Nat.le_of_eq g16.symm))))
  have Vc47 := f46
  obtain ⟨cl47, Ar47, qk47, S47, M47, H47, G47⟩ := Vc47
  have Vc48 := f46
  obtain ⟨cl48, Ar48, qk48, S48, M48, H48, G48⟩ := Vc48
  have hin48 : ¬ (((0 : Int32) + (1 : Int32)) < 0 ∨ cl48.slots.size ≤ (((0 : Int32) + (1 : Int32))).toNatClampNeg) := inb_of S48 ⟨by decide, by decide⟩
  have hat48 : cl48.slots[(((0 : Int32) + (1 : Int32))).toNatClampNeg]? = some (.long x1) := H48.at hin48 rfl
  have c49 : ∀ t, Steps p.tables e below (T45.setTop (mkF m 58 #[.val (.ref r0), .val (.ref r1), .val (.int (2 : Int32)), .val (.int ((0 : Int32) + (1 : Int32))), .val (.int (Int32.ofNat (own_free (List.replicate 4 0) 4 8 (own_sN (62 : Int32) x0))))] [(.long x1), (.ref r0)])) t → Steps p.tables e below (T45.setTop (mkF m 100 #[.val (.ref r0), .val (.ref r1), .val (.int (2 : Int32)), .val (.int (0 : Int32)), .val (.int (Int32.ofNat (own_free (List.replicate 4 0) 4 8 (own_sN (62 : Int32) x0))))] [])) t := by
    intro t kt
    show Steps p.tables e below (T45.setTop (mkF m 100 #[.val (.ref r0), .val (.ref r1), .val (.int (2 : Int32)), .val (.int (0 : Int32)), .val (.int (Int32.ofNat (own_free (List.replicate 4 0) 4 8 (own_sN (62 : Int32) x0))))] [])) _
    refine XS.iinc X45.here hx rfl (hb hby d1_100) rfl (l' := #[.val (.ref r0), .val (.ref r1), .val (.int (2 : Int32)), .val (.int ((0 : Int32) + (1 : Int32))), .val (.int (Int32.ofNat (own_free (List.replicate 4 0) 4 8 (own_sN (62 : Int32) x0))))]) rfl ?_
    show Steps p.tables e below (T45.setTop (mkF m 103 #[.val (.ref r0), .val (.ref r1), .val (.int (2 : Int32)), .val (.int ((0 : Int32) + (1 : Int32))), .val (.int (Int32.ofNat (own_free (List.replicate 4 0) 4 8 (own_sN (62 : Int32) x0))))] [])) _
    refine XS.goto X45.here hx rfl (pc0 := 103) (pc' := 48) rfl (hb hby d1_103) (by decide) (by decide) ?_
    show Steps p.tables e below (T45.setTop (mkF m 48 #[.val (.ref r0), .val (.ref r1), .val (.int (2 : Int32)), .val (.int ((0 : Int32) + (1 : Int32))), .val (.int (Int32.ofNat (own_free (List.replicate 4 0) 4 8 (own_sN (62 : Int32) x0))))] [])) _
    refine XS.iloadN X45.here hx rfl (hb hby d1_48) rfl ?_
    show Steps p.tables e below (T45.setTop (mkF m 49 #[.val (.ref r0), .val (.ref r1), .val (.int (2 : Int32)), .val (.int ((0 : Int32) + (1 : Int32))), .val (.int (Int32.ofNat (own_free (List.replicate 4 0) 4 8 (own_sN (62 : Int32) x0))))] [(.int ((0 : Int32) + (1 : Int32)))])) _
    refine XS.aloadN X45.here hx rfl (hb hby d1_49) rfl rfl ?_
    show Steps p.tables e below (T45.setTop (mkF m 50 #[.val (.ref r0), .val (.ref r1), .val (.int (2 : Int32)), .val (.int ((0 : Int32) + (1 : Int32))), .val (.int (Int32.ofNat (own_free (List.replicate 4 0) 4 8 (own_sN (62 : Int32) x0))))] [(.ref r1), (.int ((0 : Int32) + (1 : Int32)))])) _
    refine X45.arraylength hx (by rw [e45]; exact Ar47.1) (State.isArrayOf_alike hZ.alike Ar47.2.1) (g := (mkF m 50 #[.val (.ref r0), .val (.ref r1), .val (.int (2 : Int32)), .val (.int ((0 : Int32) + (1 : Int32))), .val (.int (Int32.ofNat (own_free (List.replicate 4 0) 4 8 (own_sN (62 : Int32) x0))))] [(.ref r1), (.int ((0 : Int32) + (1 : Int32)))])) rfl rfl (hb hby d1_50) _ ?_
    rw [len_of S47 M47]
    show Steps p.tables e below (T45.setTop (mkF m 51 #[.val (.ref r0), .val (.ref r1), .val (.int (2 : Int32)), .val (.int ((0 : Int32) + (1 : Int32))), .val (.int (Int32.ofNat (own_free (List.replicate 4 0) 4 8 (own_sN (62 : Int32) x0))))] [(.int (2 : Int32)), (.int ((0 : Int32) + (1 : Int32)))])) _
    refine XS.icmpNo X45.here hx rfl (hb hby d1_51) rfl (tlt (by decide : ((0 : Int32) + (1 : Int32)) < (2 : Int32))).2.1 ?_
    show Steps p.tables e below (T45.setTop (mkF m 54 #[.val (.ref r0), .val (.ref r1), .val (.int (2 : Int32)), .val (.int ((0 : Int32) + (1 : Int32))), .val (.int (Int32.ofNat (own_free (List.replicate 4 0) 4 8 (own_sN (62 : Int32) x0))))] [])) _
    refine XS.aloadN X45.here hx rfl (hb hby d1_54) rfl rfl ?_
    show Steps p.tables e below (T45.setTop (mkF m 55 #[.val (.ref r0), .val (.ref r1), .val (.int (2 : Int32)), .val (.int ((0 : Int32) + (1 : Int32))), .val (.int (Int32.ofNat (own_free (List.replicate 4 0) 4 8 (own_sN (62 : Int32) x0))))] [(.ref r0)])) _
    refine XS.aloadN X45.here hx rfl (hb hby d1_55) rfl rfl ?_
    show Steps p.tables e below (T45.setTop (mkF m 56 #[.val (.ref r0), .val (.ref r1), .val (.int (2 : Int32)), .val (.int ((0 : Int32) + (1 : Int32))), .val (.int (Int32.ofNat (own_free (List.replicate 4 0) 4 8 (own_sN (62 : Int32) x0))))] [(.ref r1), (.ref r0)])) _
    refine XS.iloadN X45.here hx rfl (hb hby d1_56) rfl ?_
    show Steps p.tables e below (T45.setTop (mkF m 57 #[.val (.ref r0), .val (.ref r1), .val (.int (2 : Int32)), .val (.int ((0 : Int32) + (1 : Int32))), .val (.int (Int32.ofNat (own_free (List.replicate 4 0) 4 8 (own_sN (62 : Int32) x0))))] [(.int ((0 : Int32) + (1 : Int32))), (.ref r1), (.ref r0)])) _
    refine X45.laload hx (j := ((0 : Int32) + (1 : Int32))) (v := (.long x1)) (by rw [e45]; exact Ar48.1) (State.isArrayOf_alike hZ.alike Ar48.2.1) Ar48.2.2 hin48 hat48 (g := (mkF m 57 #[.val (.ref r0), .val (.ref r1), .val (.int (2 : Int32)), .val (.int ((0 : Int32) + (1 : Int32))), .val (.int (Int32.ofNat (own_free (List.replicate 4 0) 4 8 (own_sN (62 : Int32) x0))))] [(.int ((0 : Int32) + (1 : Int32))), (.ref r1), (.ref r0)])) rfl rfl (hb hby d1_57) _ ?_
    exact kt
  have f50 := (Nat.le_trans f30 (Keep.of_wr W45).1)
  have f51 := (Fw25.other W45 (Or.inl (Nat.ne_of_lt (Nat.lt_of_lt_of_le lt_r0_16 (Nat.le_of_eq g16.symm)))))
  have f52 := (f31.wr W45)
  obtain ⟨cq53, rq53, rq53'⟩ := f52.cell
  obtain ⟨_, _, ⟨T54, L54, k54, n54⟩, -, X54, ⟨Lc54, hQ54, l54, y54, z54⟩, st54⟩ := X45.privateBack hx (y := (⟨"com/example/mapstone/mapstone/engine/ConceptIndex", "slot", "(J)I"⟩ : MethodName)) hown (mvT hZ (hw _ (List.mem_of_getElem? (i := 31) rfl))) (mvT hZ (hw _ (List.mem_of_getElem? (i := 32) rfl))) (own_selp (y := (⟨"com/example/mapstone/mapstone/engine/ConceptIndex", "slot", "(J)I"⟩ : MethodName)) (z := (⟨"com/example/mapstone/mapstone/engine/ConceptIndex", "place", "(J)I"⟩ : MethodName)) (mvT hZ (hw _ (List.mem_of_getElem? (i := 39) rfl))) rfl (Cond.privateMethod_at (mvP hZ (hw _ (List.mem_of_getElem? (i := 33) rfl)) (args := #[]))) (mvT hZ (hw _ (List.mem_of_getElem? (i := 32) rfl))) (by decide)) (Cond.privateMethod_at (mvP hZ (hw _ (List.mem_of_getElem? (i := 33) rfl)) (args := #[]))) (mvT hZ (hw _ (List.mem_of_getElem? (i := 34) rfl))) (by decide) (backOf (W := 0) (rm6 l Z a0 hw [] r0 x1 (62 : Int32) h45 n0 f50 f51) hZ (hw _ (List.mem_of_getElem? (i := 34) rfl)) (hw _ (List.mem_of_getElem? (i := 3) rfl)) (by decide) (by decide)) (g := (mkF m 58 #[.val (.ref r0), .val (.ref r1), .val (.int (2 : Int32)), .val (.int ((0 : Int32) + (1 : Int32))), .val (.int (Int32.ofNat (own_free (List.replicate 4 0) 4 8 (own_sN (62 : Int32) x0))))] [(.long x1), (.ref r0)])) rfl (by rw [hml]; rfl) (Steps.refl _) (a := r0) (by rw [e45]; exact rq53) rq53' (argsL := [(.long x1)]) (rest := []) (lenOf pd_2 rfl) rfl (by show 2 * 0 + _ ≤ _; exact Nat.le_of_eq rfl) (hb hby d1_58) (fun _ _ => ⟨rfl, e45, (by decide : 1 + 0 ≤ _), (by decide : 4 + 0 ≤ _)⟩)
  dsimp only [Pt.U, Pt.locs, Pt.cells, Pt.slots] at X54 l54 y54 z54 st54 hQ54
  subst l54 y54 z54
  obtain ⟨rfl, N54q, e54⟩ := hQ54
  have N54 := Fr.app N45 N54q
  have c55 : ∀ t, Steps p.tables e below (T54.setTop (mkF m 61 #[.val (.ref r0), .val (.ref r1), .val (.int (2 : Int32)), .val (.int (1 : Int32)), .val (.int (Int32.ofNat (own_free (List.replicate 4 0) 4 8 (own_sN (62 : Int32) x0))))] [(.int (own_slot (62 : Int32) x1))])) t → Steps p.tables e below (T54.setTop (mkF m 61 #[.val (.ref r0), .val (.ref r1), .val (.int (2 : Int32)), .val (.int ((0 : Int32) + (1 : Int32))), .val (.int (Int32.ofNat (own_free (List.replicate 4 0) 4 8 (own_sN (62 : Int32) x0))))] [(.int (own_slot (62 : Int32) x1))])) t := fun t kt => castTop (congrArg (fun z => (mkF m 61 #[.val (.ref r0), .val (.ref r1), .val (.int (2 : Int32)), .val (.int z), .val (.int (Int32.ofNat (own_free (List.replicate 4 0) 4 8 (own_sN (62 : Int32) x0))))] [(.int (own_slot (62 : Int32) x1))])) (show ((0 : Int32) + (1 : Int32)) = (1 : Int32) from by decide)) kt
  have hsl56 := own_slotv (62 : Int32) x1 0 4 (by decide)
  have c57 : ∀ t, Steps p.tables e below (T54.setTop (mkF m 61 #[.val (.ref r0), .val (.ref r1), .val (.int (2 : Int32)), .val (.int (1 : Int32)), .val (.int (Int32.ofNat (own_free (List.replicate 4 0) 4 8 (own_sN (62 : Int32) x0))))] [(.int (Int32.ofNat (own_sN (62 : Int32) x1)))])) t → Steps p.tables e below (T54.setTop (mkF m 61 #[.val (.ref r0), .val (.ref r1), .val (.int (2 : Int32)), .val (.int (1 : Int32)), .val (.int (Int32.ofNat (own_free (List.replicate 4 0) 4 8 (own_sN (62 : Int32) x0))))] [(.int (own_slot (62 : Int32) x1))])) t := fun t kt => castTop (congrArg (fun z => (mkF m 61 #[.val (.ref r0), .val (.ref r1), .val (.int (2 : Int32)), .val (.int (1 : Int32)), .val (.int (Int32.ofNat (own_free (List.replicate 4 0) 4 8 (own_sN (62 : Int32) x0))))] [(.int z)])) (show (own_slot (62 : Int32) x1) = (Int32.ofNat (own_sN (62 : Int32) x1)) from hsl56.1)) kt
  have c58 : ∀ t, Steps p.tables e below (T54.setTop (mkF m 63 #[.val (.ref r0), .val (.ref r1), .val (.int (2 : Int32)), .val (.int (1 : Int32)), .val (.int (Int32.ofNat (own_sN (62 : Int32) x1)))] [])) t → Steps p.tables e below (T54.setTop (mkF m 61 #[.val (.ref r0), .val (.ref r1), .val (.int (2 : Int32)), .val (.int (1 : Int32)), .val (.int (Int32.ofNat (own_free (List.replicate 4 0) 4 8 (own_sN (62 : Int32) x0))))] [(.int (Int32.ofNat (own_sN (62 : Int32) x1)))])) t := by
    intro t kt
    show Steps p.tables e below (T54.setTop (mkF m 61 #[.val (.ref r0), .val (.ref r1), .val (.int (2 : Int32)), .val (.int (1 : Int32)), .val (.int (Int32.ofNat (own_free (List.replicate 4 0) 4 8 (own_sN (62 : Int32) x0))))] [(.int (Int32.ofNat (own_sN (62 : Int32) x1)))])) _
    refine XS.istore X54.here hx rfl (hb hby d1_61) rfl (l' := #[.val (.ref r0), .val (.ref r1), .val (.int (2 : Int32)), .val (.int (1 : Int32)), .val (.int (Int32.ofNat (own_sN (62 : Int32) x1)))]) rfl ?_
    exact kt
  have f60 := (f38.other W45 (Or.inl (Nat.ne_of_lt (Nat.lt_of_lt_of_le lt_r0_16 (Nat.le_of_eq g16.symm)))))
  have hok59 : own_ok (own_ins (List.replicate 4 0) 4 (own_sN (62 : Int32) x0) 1) 4 1 := own_mk _ _ _ (own_c2a _ hsl34.2).1 (own_c2a _ hsl34.2).2.1 (own_c2a _ hsl34.2).2.2
  have hend59 := hok59.2.2 (own_sN (62 : Int32) x1) hsl56.2
  have VT59 : Arv Z h45 b16 k16 .int (Int32.ofNat 4) (own_tv (own_ins (List.replicate 4 0) 4 (own_sN (62 : Int32) x0) 1)) (.int (0 : Int32)) := V45
  obtain ⟨T59, L59, X59, e59, N59, st59⟩ := lfree r0 r1 (2 : Int32) (1 : Int32) b16 k16 4 (own_ins (List.replicate 4 0) 4 (own_sN (62 : Int32) x0) 1) hx hZ hw hby hml hown N54 f50 f60 VT59 (by decide) hok59.1 (fun i => Nat.le_trans (hok59.2.1 i) (by decide)) 8 (own_sN (62 : Int32) x1) hsl56.2 hend59.1 T54 X54 e54
  have c62 : ∀ t, Steps p.tables e below (T59.setTop (mkF m 91 #[.val (.ref r0), .val (.ref r1), .val (.int (2 : Int32)), .val (.int (1 : Int32)), .val (.int (Int32.ofNat (own_free (own_ins (List.replicate 4 0) 4 (own_sN (62 : Int32) x0) 1) 4 8 (own_sN (62 : Int32) x1))))] [(.ref r0)])) t → Steps p.tables e below (T59.setTop (mkF m 90 #[.val (.ref r0), .val (.ref r1), .val (.int (2 : Int32)), .val (.int (1 : Int32)), .val (.int (Int32.ofNat (own_free (own_ins (List.replicate 4 0) 4 (own_sN (62 : Int32) x0) 1) 4 8 (own_sN (62 : Int32) x1))))] [])) t := by
    intro t kt
    show Steps p.tables e below (T59.setTop (mkF m 90 #[.val (.ref r0), .val (.ref r1), .val (.int (2 : Int32)), .val (.int (1 : Int32)), .val (.int (Int32.ofNat (own_free (own_ins (List.replicate 4 0) 4 (own_sN (62 : Int32) x0) 1) 4 8 (own_sN (62 : Int32) x1))))] [])) _
    refine XS.aloadN X59.here hx rfl (hb hby d1_90) rfl rfl ?_
    exact kt
  obtain ⟨T61, X61, e61, st61⟩ := getF X59 hx hZ hown (host := "") (Or.inl (hw _ (List.mem_of_getElem? (i := 27) rfl))) Via.refl e59 f60 (g := (mkF m 91 #[.val (.ref r0), .val (.ref r1), .val (.int (2 : Int32)), .val (.int (1 : Int32)), .val (.int (Int32.ofNat (own_free (own_ins (List.replicate 4 0) 4 (own_sN (62 : Int32) x0) 1) 4 8 (own_sN (62 : Int32) x1))))] [(.ref r0)])) rfl rfl (hb hby d1_91)
  have c63 : ∀ t, Steps p.tables e below (T61.setTop (mkF m 99 #[.val (.ref r0), .val (.ref r1), .val (.int (2 : Int32)), .val (.int (1 : Int32)), .val (.int (Int32.ofNat (own_free (own_ins (List.replicate 4 0) 4 (own_sN (62 : Int32) x0) 1) 4 8 (own_sN (62 : Int32) x1))))] [(.int ((1 : Int32) + (1 : Int32))), (.int (Int32.ofNat (own_free (own_ins (List.replicate 4 0) 4 (own_sN (62 : Int32) x0) 1) 4 8 (own_sN (62 : Int32) x1)))), (.ref b16)])) t → Steps p.tables e below (T61.setTop (mkF m 94 #[.val (.ref r0), .val (.ref r1), .val (.int (2 : Int32)), .val (.int (1 : Int32)), .val (.int (Int32.ofNat (own_free (own_ins (List.replicate 4 0) 4 (own_sN (62 : Int32) x0) 1) 4 8 (own_sN (62 : Int32) x1))))] [(.ref b16)])) t := by
    intro t kt
    show Steps p.tables e below (T61.setTop (mkF m 94 #[.val (.ref r0), .val (.ref r1), .val (.int (2 : Int32)), .val (.int (1 : Int32)), .val (.int (Int32.ofNat (own_free (own_ins (List.replicate 4 0) 4 (own_sN (62 : Int32) x0) 1) 4 8 (own_sN (62 : Int32) x1))))] [(.ref b16)])) _
    refine XS.iload X61.here hx rfl (hb hby d1_94) rfl ?_
    show Steps p.tables e below (T61.setTop (mkF m 96 #[.val (.ref r0), .val (.ref r1), .val (.int (2 : Int32)), .val (.int (1 : Int32)), .val (.int (Int32.ofNat (own_free (own_ins (List.replicate 4 0) 4 (own_sN (62 : Int32) x0) 1) 4 8 (own_sN (62 : Int32) x1))))] [(.int (Int32.ofNat (own_free (own_ins (List.replicate 4 0) 4 (own_sN (62 : Int32) x0) 1) 4 8 (own_sN (62 : Int32) x1)))), (.ref b16)])) _
    refine XS.iloadN X61.here hx rfl (hb hby d1_96) rfl ?_
    show Steps p.tables e below (T61.setTop (mkF m 97 #[.val (.ref r0), .val (.ref r1), .val (.int (2 : Int32)), .val (.int (1 : Int32)), .val (.int (Int32.ofNat (own_free (own_ins (List.replicate 4 0) 4 (own_sN (62 : Int32) x0) 1) 4 8 (own_sN (62 : Int32) x1))))] [(.int (1 : Int32)), (.int (Int32.ofNat (own_free (own_ins (List.replicate 4 0) 4 (own_sN (62 : Int32) x0) 1) 4 8 (own_sN (62 : Int32) x1)))), (.ref b16)])) _
    refine XS.iconst X61.here hx rfl (hb hby d1_97) ?_
    show Steps p.tables e below (T61.setTop (mkF m 98 #[.val (.ref r0), .val (.ref r1), .val (.int (2 : Int32)), .val (.int (1 : Int32)), .val (.int (Int32.ofNat (own_free (own_ins (List.replicate 4 0) 4 (own_sN (62 : Int32) x0) 1) 4 8 (own_sN (62 : Int32) x1))))] [(.int (1 : Int32)), (.int (1 : Int32)), (.int (Int32.ofNat (own_free (own_ins (List.replicate 4 0) 4 (own_sN (62 : Int32) x0) 1) 4 8 (own_sN (62 : Int32) x1)))), (.ref b16)])) _
    refine XS.iadd X61.here hx rfl (hb hby d1_98) rfl ?_
    exact kt
  have c64 : ∀ t, Steps p.tables e below (T61.setTop (mkF m 99 #[.val (.ref r0), .val (.ref r1), .val (.int (2 : Int32)), .val (.int (1 : Int32)), .val (.int (Int32.ofNat (own_free (own_ins (List.replicate 4 0) 4 (own_sN (62 : Int32) x0) 1) 4 8 (own_sN (62 : Int32) x1))))] [(.int (2 : Int32)), (.int (Int32.ofNat (own_free (own_ins (List.replicate 4 0) 4 (own_sN (62 : Int32) x0) 1) 4 8 (own_sN (62 : Int32) x1)))), (.ref b16)])) t → Steps p.tables e below (T61.setTop (mkF m 99 #[.val (.ref r0), .val (.ref r1), .val (.int (2 : Int32)), .val (.int (1 : Int32)), .val (.int (Int32.ofNat (own_free (own_ins (List.replicate 4 0) 4 (own_sN (62 : Int32) x0) 1) 4 8 (own_sN (62 : Int32) x1))))] [(.int ((1 : Int32) + (1 : Int32))), (.int (Int32.ofNat (own_free (own_ins (List.replicate 4 0) 4 (own_sN (62 : Int32) x0) 1) 4 8 (own_sN (62 : Int32) x1)))), (.ref b16)])) t := fun t kt => castTop (congrArg (fun z => (mkF m 99 #[.val (.ref r0), .val (.ref r1), .val (.int (2 : Int32)), .val (.int (1 : Int32)), .val (.int (Int32.ofNat (own_free (own_ins (List.replicate 4 0) 4 (own_sN (62 : Int32) x0) 1) 4 8 (own_sN (62 : Int32) x1))))] [(.int z), (.int (Int32.ofNat (own_free (own_ins (List.replicate 4 0) 4 (own_sN (62 : Int32) x0) 1) 4 8 (own_sN (62 : Int32) x1)))), (.ref b16)])) (show ((1 : Int32) + (1 : Int32)) = (2 : Int32) from by decide)) kt
  have Vc65 := VT59
  obtain ⟨cl65, Ar65, qk65, S65, M65, H65, G65⟩ := Vc65
  have hin65 : ¬ ((Int32.ofNat (own_free (own_ins (List.replicate 4 0) 4 (own_sN (62 : Int32) x0) 1) 4 8 (own_sN (62 : Int32) x1))) < 0 ∨ cl65.slots.size ≤ ((Int32.ofNat (own_free (own_ins (List.replicate 4 0) 4 (own_sN (62 : Int32) x0) 1) 4 8 (own_sN (62 : Int32) x1)))).toNatClampNeg) := inb_of S65 (own_in _ 4 hend59.2 (by decide))
  obtain ⟨T66, h66, X66, e66, W66, st66⟩ := stI X61 hx hZ e61 Ar65 (j := (Int32.ofNat (own_free (own_ins (List.replicate 4 0) 4 (own_sN (62 : Int32) x0) 1) 4 8 (own_sN (62 : Int32) x1)))) hin65 (g := (mkF m 99 #[.val (.ref r0), .val (.ref r1), .val (.int (2 : Int32)), .val (.int (1 : Int32)), .val (.int (Int32.ofNat (own_free (own_ins (List.replicate 4 0) 4 (own_sN (62 : Int32) x0) 1) 4 8 (own_sN (62 : Int32) x1))))] [(.int (2 : Int32)), (.int (Int32.ofNat (own_free (own_ins (List.replicate 4 0) 4 (own_sN (62 : Int32) x0) 1) 4 8 (own_sN (62 : Int32) x1)))), (.ref b16)])) rfl rfl (hb hby d1_99)
  have V66 : Arv Z h66 b16 k16 .int (Int32.ofNat 4) (own_tv (own_ins (own_ins (List.replicate 4 0) 4 (own_sN (62 : Int32) x0) 1) 4 (own_sN (62 : Int32) x1) 2)) (.int (0 : Int32)) := by have q := Arv.set Ar65 qk65 S65 M65 H65 G65 rfl W66 (own_free (own_ins (List.replicate 4 0) 4 (own_sN (62 : Int32) x0) 1) 4 8 (own_sN (62 : Int32) x1)) (own_clamp _ (Nat.lt_trans hend59.2 (by decide))) (by simp only [own_tv, List.length_map]; rw [hok59.1]; exact hend59.2); rw [show (own_tv (own_ins (List.replicate 4 0) 4 (own_sN (62 : Int32) x0) 1)).set (own_free (own_ins (List.replicate 4 0) 4 (own_sN (62 : Int32) x0) 1) 4 8 (own_sN (62 : Int32) x1)) (.int (2 : Int32)) = own_tv (own_ins (own_ins (List.replicate 4 0) 4 (own_sN (62 : Int32) x0) 1) 4 (own_sN (62 : Int32) x1) 2) from own_tvset _ _ 2] at q; exact q
  have N66 := Fr.snoc X66 N59 g_b16
  have f67 := (f46.other W66 (Nat.ne_of_lt (Nat.lt_of_lt_of_le lt_r1_16 (Nat.le_of_eq g16.symm))))
  have Vc68 := f67
  obtain ⟨cl68, Ar68, qk68, S68, M68, H68, G68⟩ := Vc68
  have c69 : ∀ t, Steps p.tables e below (T66.setTop (mkF m 106 #[.val (.ref r0), .val (.ref r1), .val (.int (2 : Int32)), .val (.int ((1 : Int32) + (1 : Int32))), .val (.int (Int32.ofNat (own_free (own_ins (List.replicate 4 0) 4 (own_sN (62 : Int32) x0) 1) 4 8 (own_sN (62 : Int32) x1))))] [])) t → Steps p.tables e below (T66.setTop (mkF m 100 #[.val (.ref r0), .val (.ref r1), .val (.int (2 : Int32)), .val (.int (1 : Int32)), .val (.int (Int32.ofNat (own_free (own_ins (List.replicate 4 0) 4 (own_sN (62 : Int32) x0) 1) 4 8 (own_sN (62 : Int32) x1))))] [])) t := by
    intro t kt
    show Steps p.tables e below (T66.setTop (mkF m 100 #[.val (.ref r0), .val (.ref r1), .val (.int (2 : Int32)), .val (.int (1 : Int32)), .val (.int (Int32.ofNat (own_free (own_ins (List.replicate 4 0) 4 (own_sN (62 : Int32) x0) 1) 4 8 (own_sN (62 : Int32) x1))))] [])) _
    refine XS.iinc X66.here hx rfl (hb hby d1_100) rfl (l' := #[.val (.ref r0), .val (.ref r1), .val (.int (2 : Int32)), .val (.int ((1 : Int32) + (1 : Int32))), .val (.int (Int32.ofNat (own_free (own_ins (List.replicate 4 0) 4 (own_sN (62 : Int32) x0) 1) 4 8 (own_sN (62 : Int32) x1))))]) rfl ?_
    show Steps p.tables e below (T66.setTop (mkF m 103 #[.val (.ref r0), .val (.ref r1), .val (.int (2 : Int32)), .val (.int ((1 : Int32) + (1 : Int32))), .val (.int (Int32.ofNat (own_free (own_ins (List.replicate 4 0) 4 (own_sN (62 : Int32) x0) 1) 4 8 (own_sN (62 : Int32) x1))))] [])) _
    refine XS.goto X66.here hx rfl (pc0 := 103) (pc' := 48) rfl (hb hby d1_103) (by decide) (by decide) ?_
    show Steps p.tables e below (T66.setTop (mkF m 48 #[.val (.ref r0), .val (.ref r1), .val (.int (2 : Int32)), .val (.int ((1 : Int32) + (1 : Int32))), .val (.int (Int32.ofNat (own_free (own_ins (List.replicate 4 0) 4 (own_sN (62 : Int32) x0) 1) 4 8 (own_sN (62 : Int32) x1))))] [])) _
    refine XS.iloadN X66.here hx rfl (hb hby d1_48) rfl ?_
    show Steps p.tables e below (T66.setTop (mkF m 49 #[.val (.ref r0), .val (.ref r1), .val (.int (2 : Int32)), .val (.int ((1 : Int32) + (1 : Int32))), .val (.int (Int32.ofNat (own_free (own_ins (List.replicate 4 0) 4 (own_sN (62 : Int32) x0) 1) 4 8 (own_sN (62 : Int32) x1))))] [(.int ((1 : Int32) + (1 : Int32)))])) _
    refine XS.aloadN X66.here hx rfl (hb hby d1_49) rfl rfl ?_
    show Steps p.tables e below (T66.setTop (mkF m 50 #[.val (.ref r0), .val (.ref r1), .val (.int (2 : Int32)), .val (.int ((1 : Int32) + (1 : Int32))), .val (.int (Int32.ofNat (own_free (own_ins (List.replicate 4 0) 4 (own_sN (62 : Int32) x0) 1) 4 8 (own_sN (62 : Int32) x1))))] [(.ref r1), (.int ((1 : Int32) + (1 : Int32)))])) _
    refine X66.arraylength hx (by rw [e66]; exact Ar68.1) (State.isArrayOf_alike hZ.alike Ar68.2.1) (g := (mkF m 50 #[.val (.ref r0), .val (.ref r1), .val (.int (2 : Int32)), .val (.int ((1 : Int32) + (1 : Int32))), .val (.int (Int32.ofNat (own_free (own_ins (List.replicate 4 0) 4 (own_sN (62 : Int32) x0) 1) 4 8 (own_sN (62 : Int32) x1))))] [(.ref r1), (.int ((1 : Int32) + (1 : Int32)))])) rfl rfl (hb hby d1_50) _ ?_
    rw [len_of S68 M68]
    show Steps p.tables e below (T66.setTop (mkF m 51 #[.val (.ref r0), .val (.ref r1), .val (.int (2 : Int32)), .val (.int ((1 : Int32) + (1 : Int32))), .val (.int (Int32.ofNat (own_free (own_ins (List.replicate 4 0) 4 (own_sN (62 : Int32) x0) 1) 4 8 (own_sN (62 : Int32) x1))))] [(.int (2 : Int32)), (.int ((1 : Int32) + (1 : Int32)))])) _
    refine XS.icmpYes X66.here hx rfl (pc0 := 51) (pc' := 106) rfl (hb hby d1_51) rfl (flt (by decide : ¬ (((1 : Int32) + (1 : Int32)) < (2 : Int32)))).2.1 (by decide) (by decide) ?_
    exact kt
  obtain ⟨fs, hr, hrun, hended, hW, hsame⟩ := X66.leave (v := none) (fun _ => rfl)
  have f71 := (((((f17.ext E16).wr W20 (Or.inl (List.mem_of_getElem? (i := 0) rfl))).wr W25 (Or.inl (List.mem_of_getElem? (i := 0) rfl))).wr W45 (Or.inr sz_b16)).wr W66 (Or.inr sz_b16))
  have f72 := (f52.wr W66)
  have f73 := (((((Fw3.ext E16).other W20 (Or.inr (slot_ne (a0 := a0) (Or.inr (hw _ (List.mem_of_getElem? (i := 11) rfl))) (Or.inr (hw _ (List.mem_of_getElem? (i := 28) rfl))) (by decide) (t := (.array .long)) (t' := (.array .int)) (by decide) (by decide)))).other W25 (Or.inr (slot_ne (a0 := a0) (Or.inr (hw _ (List.mem_of_getElem? (i := 11) rfl))) (Or.inr (hw _ (List.mem_of_getElem? (i := 30) rfl))) (by decide) (t := (.array .long)) (t' := .int) (by decide) (by decide)))).other W45 (Or.inl (Nat.ne_of_lt (Nat.lt_of_lt_of_le lt_r0_16 (Nat.le_of_eq g16.symm))))).other W66 (Or.inl (Nat.ne_of_lt (Nat.lt_of_lt_of_le lt_r0_16 (Nat.le_of_eq g16.symm)))))
  have f74 := (f60.other W66 (Or.inl (Nat.ne_of_lt (Nat.lt_of_lt_of_le lt_r0_16 (Nat.le_of_eq g16.symm)))))
  have f75 := (f51.other W66 (Or.inl (Nat.ne_of_lt (Nat.lt_of_lt_of_le lt_r0_16 (Nat.le_of_eq g16.symm)))))
  refine ⟨_, _, pre0 _ (c2 _ (st1 _ (c4 _ (st3 _ (c7 _ (c8 _ (st10 _ (c11 _ (st12 _ (c13 _ (c14 _ (c15 _ (st16 _ (st20 _ (c21 _ (c22 _ (st25 _ (c29 _ (st33.trans (c35 _ (c36 _ (st37 _ (c41 _ (st40 _ (c42 _ (c43 _ (st45 _ (c49 _ (st54.trans (c55 _ (c57 _ (c58 _ (st59 _ (c62 _ (st61 _ (c63 _ (c64 _ (st66 _ (c69 _ (?_)))))))))))))))))))))))))))))))))))))))), hrun, hended, _, _, rfl, ?_, ⟨_, rfl⟩, hW, hsame.mono (by decide) (by decide)⟩
  · show Steps p.tables e below (T66.setTop (mkF m 106 #[.val (.ref r0), .val (.ref r1), .val (.int (2 : Int32)), .val (.int ((1 : Int32) + (1 : Int32))), .val (.int (Int32.ofNat (own_free (own_ins (List.replicate 4 0) 4 (own_sN (62 : Int32) x0) 1) 4 8 (own_sN (62 : Int32) x1))))] [])) _
    exact X66.returnOut hx Bd.returns (hb hby d1_106) hr
  · show Q1_2 Z r0 r1 kc x0 x1 dj h0 n0 _ T66.heap _
    rw [e66]
    exact ⟨b16, k16, rfl, N66, f71, f72, f73, f74, f75, V66⟩
def Q1_3 (Z : State) (r0 : Addr) (r1 : Addr) (kc : ClassId) (x0 x1 x2 : Int64) (dj : Value) (h0 : Heap) (n0 : Nat) (v : Option Value) (h : Heap) (L : List Loc) : Prop := ∃ (sa : Addr) (ks : ClassId), v = none ∧ Fr n0 L ∧ Keep h0 h [r0] ∧ Exa Z h r0 "com/example/mapstone/mapstone/engine/ConceptIndex" ∧ Fld Z h r0 "com/example/mapstone/mapstone/engine/ConceptIndex" "concepts" "[J" (.ref r1) ∧ Fld Z h r0 "com/example/mapstone/mapstone/engine/ConceptIndex" "slots" "[I" (.ref sa) ∧ Fld Z h r0 "com/example/mapstone/mapstone/engine/ConceptIndex" "shift" "I" (.int (61 : Int32)) ∧ Arv Z h sa ks .int (Int32.ofNat 8) (own_tv (own_t3 (own_sN 61 x0) (own_sN 61 x1) (own_sN 61 x2))) (.int (0 : Int32))
set_option maxRecDepth 65536 in
set_option maxHeartbeats 40000000 in
theorem rm1_3 (l : Launch) (Z : State) (a0 : Array Value) (hw : ∀ d ∈ tables_1, d.before a0 Z = true) (ws : List Jvm.Cond) (r0 : Addr) (r1 : Addr) (kc : ClassId) (x0 x1 x2 : Int64) (dj : Value) (h0 : Heap) (n0 : Nat) (Z0 : n0 ≤ h0.size) (V_c : Arv Z h0 r1 kc .long (3 : Int32) [(.long x0), (.long x1), (.long x2)] dj) (F_c : Fld Z h0 r0 "com/example/mapstone/mapstone/engine/ConceptIndex" "concepts" "[J" .null) (F_s : Fld Z h0 r0 "com/example/mapstone/mapstone/engine/ConceptIndex" "slots" "[I" .null) (F_h : Fld Z h0 r0 "com/example/mapstone/mapstone/engine/ConceptIndex" "shift" "I" (.int (0 : Int32))) (E0 : Exa Z h0 r0 "com/example/mapstone/mapstone/engine/ConceptIndex") (g_r0 : n0 ≤ r0) (hne : r1 ≠ r0) :
    MetFree l (⟨"com/example/mapstone/mapstone/engine/ConceptIndex", "<init>", "([J)V"⟩ : MethodName) (head1 (Jvm.Cond.code (⟨"com/example/mapstone/mapstone/engine/ConceptIndex", "<init>", "([J)V"⟩ : MethodName) prog_18_method_1_code 5 none :: ws) ({ frames := 2, cells := 1, slots := 8, locals := 29 } : Room)) (fun a U => a = #[(.ref r0), (.ref r1)] ∧ Z.Warmed39 U.vm ∧ U.heap = h0) (fun _ _ _ _ _ => True) (fun _ U o U' => ∃ v L, o = .returned v ∧ Q1_3 Z r0 r1 kc x0 x1 x2 dj h0 n0 v U'.heap L ∧ FrameEnd U o U' L ({ frames := 2, cells := 1, slots := 8, locals := 29 } : Room).cells ({ frames := 2, cells := 1, slots := 8, locals := 29 } : Room).slots) := by
  refine MetFree.of_bodySF (plainFor_of_name pn_1) hisR ?_
  intro p e s m args below meth c s₁ Bd hml0 hP hK
  obtain ⟨rfl, hZ, hh⟩ := hP
  have hx := Bd.exec
  have hby := Bd.bytes
  have hml : c.maxLocals = 5 := hml0
  have hown : s.vm.findClass "com/example/mapstone/mapstone/engine/ConceptIndex" = some m.cls := findClass_of_methodNamed Bd.named
  have hnm := (name_of_methodNamed Bd.named Bd.method).1
  have X0 : Stand p l e ({ frames := 2, cells := 1, slots := 8, locals := 29 } : Room) s m #[(.ref r0), (.ref r1)] below meth c s₁ [] 0 0 := Stand.of_body Bd
  have e0 : s₁.heap = h0 := by rw [← hh, Bd.state]; rfl
  have N0 := Fr.nil n0
  have pre0 : ∀ t, Steps p.tables e below (s₁.setTop (mkF m 0 #[.val (.ref r0), .val (.ref r1), .unset, .unset, .unset] [])) t → Steps p.tables e below (s₁.setTop (entryFrame m #[(.ref r0), (.ref r1)] 5)) t := fun t k => castTop (ef_1 m r0 r1) k
  have c2 : ∀ t, Steps p.tables e below (s₁.setTop (mkF m 1 #[.val (.ref r0), .val (.ref r1), .unset, .unset, .unset] [(.ref r0)])) t → Steps p.tables e below (s₁.setTop (mkF m 0 #[.val (.ref r0), .val (.ref r1), .unset, .unset, .unset] [])) t := by
    intro t kt
    show Steps p.tables e below (s₁.setTop (mkF m 0 #[.val (.ref r0), .val (.ref r1), .unset, .unset, .unset] [])) _
    refine XS.aloadN X0.here hx rfl (hb hby d1_0) rfl rfl ?_
    exact kt
  obtain ⟨T1, X1, e1, st1⟩ := initO X0 hx hZ hown (hw _ (List.mem_of_getElem? (i := 7) rfl)) (hw _ (List.mem_of_getElem? (i := 8) rfl)) (hw _ (List.mem_of_getElem? (i := 9) rfl)) e0 (g := (mkF m 1 #[.val (.ref r0), .val (.ref r1), .unset, .unset, .unset] [(.ref r0)])) rfl (by rw [hml]; rfl) rfl (hb hby d1_1) (by decide) (W := 0) (by show 2 * 0 + _ ≤ _; exact Nat.le_of_eq rfl) (by decide)
  have c4 : ∀ t, Steps p.tables e below (T1.setTop (mkF m 6 #[.val (.ref r0), .val (.ref r1), .unset, .unset, .unset] [(.ref r1), (.ref r0)])) t → Steps p.tables e below (T1.setTop (mkF m 4 #[.val (.ref r0), .val (.ref r1), .unset, .unset, .unset] [])) t := by
    intro t kt
    show Steps p.tables e below (T1.setTop (mkF m 4 #[.val (.ref r0), .val (.ref r1), .unset, .unset, .unset] [])) _
    refine XS.aloadN X1.here hx rfl (hb hby d1_4) rfl rfl ?_
    show Steps p.tables e below (T1.setTop (mkF m 5 #[.val (.ref r0), .val (.ref r1), .unset, .unset, .unset] [(.ref r0)])) _
    refine XS.aloadN X1.here hx rfl (hb hby d1_5) rfl rfl ?_
    exact kt
  obtain ⟨T3, h3, X3, e3, W3, st3⟩ := putF X1 hx hZ hown (host := "") (Or.inl (hw _ (List.mem_of_getElem? (i := 10) rfl))) Via.refl e1 F_c E0 (Or.inr ⟨(hw _ (List.mem_of_getElem? (i := 11) rfl)), rfl, hnm⟩) (hw _ (List.mem_of_getElem? (i := 2) rfl)) (ty := (.array .long)) (by decide) rfl rfl (g := (mkF m 6 #[.val (.ref r0), .val (.ref r1), .unset, .unset, .unset] [(.ref r1), (.ref r0)])) rfl rfl (hb hby d1_6)
  have Fw3 := F_c.same W3
  have N3 := Fr.snoc X3 N0 g_r0
  have f5 := (V_c.other W3 hne)
  have Vc6 := f5
  obtain ⟨cl6, Ar6, qk6, S6, M6, H6, G6⟩ := Vc6
  have c7 : ∀ t, Steps p.tables e below (T3.setTop (mkF m 21 #[.val (.ref r0), .val (.ref r1), .unset, .unset, .unset] [(.long (1 : Int64)), (.long (((2 : Int64) * ((3 : Int32).toInt64)) - (1 : Int64))), (.int (64 : Int32))])) t → Steps p.tables e below (T3.setTop (mkF m 9 #[.val (.ref r0), .val (.ref r1), .unset, .unset, .unset] [])) t := by
    intro t kt
    show Steps p.tables e below (T3.setTop (mkF m 9 #[.val (.ref r0), .val (.ref r1), .unset, .unset, .unset] [])) _
    refine XS.bipush X3.here hx rfl (hb hby d1_9) ?_
    show Steps p.tables e below (T3.setTop (mkF m 11 #[.val (.ref r0), .val (.ref r1), .unset, .unset, .unset] [(.int (64 : Int32))])) _
    refine X3.ldc2Long hx hown (mvT hZ (hw _ (List.mem_of_getElem? (i := 12) rfl))) (g := (mkF m 11 #[.val (.ref r0), .val (.ref r1), .unset, .unset, .unset] [(.int (64 : Int32))])) rfl (hb hby d1_11) _ ?_
    show Steps p.tables e below (T3.setTop (mkF m 14 #[.val (.ref r0), .val (.ref r1), .unset, .unset, .unset] [(.long (2 : Int64)), (.int (64 : Int32))])) _
    refine XS.aloadN X3.here hx rfl (hb hby d1_14) rfl rfl ?_
    show Steps p.tables e below (T3.setTop (mkF m 15 #[.val (.ref r0), .val (.ref r1), .unset, .unset, .unset] [(.ref r1), (.long (2 : Int64)), (.int (64 : Int32))])) _
    refine X3.arraylength hx (by rw [e3]; exact Ar6.1) (State.isArrayOf_alike hZ.alike Ar6.2.1) (g := (mkF m 15 #[.val (.ref r0), .val (.ref r1), .unset, .unset, .unset] [(.ref r1), (.long (2 : Int64)), (.int (64 : Int32))])) rfl rfl (hb hby d1_15) _ ?_
    rw [len_of S6 M6]
    show Steps p.tables e below (T3.setTop (mkF m 16 #[.val (.ref r0), .val (.ref r1), .unset, .unset, .unset] [(.int (3 : Int32)), (.long (2 : Int64)), (.int (64 : Int32))])) _
    refine XS.i2l X3.here hx rfl (hb hby d1_16) rfl ?_
    show Steps p.tables e below (T3.setTop (mkF m 17 #[.val (.ref r0), .val (.ref r1), .unset, .unset, .unset] [(.long ((3 : Int32).toInt64)), (.long (2 : Int64)), (.int (64 : Int32))])) _
    refine XS.lmul X3.here hx rfl (hb hby d1_17) rfl ?_
    show Steps p.tables e below (T3.setTop (mkF m 18 #[.val (.ref r0), .val (.ref r1), .unset, .unset, .unset] [(.long ((2 : Int64) * ((3 : Int32).toInt64))), (.int (64 : Int32))])) _
    refine XS.lconst X3.here hx rfl (hb hby d1_18) ?_
    show Steps p.tables e below (T3.setTop (mkF m 19 #[.val (.ref r0), .val (.ref r1), .unset, .unset, .unset] [(.long (1 : Int64)), (.long ((2 : Int64) * ((3 : Int32).toInt64))), (.int (64 : Int32))])) _
    refine XS.lsub X3.here hx rfl (hb hby d1_19) rfl ?_
    show Steps p.tables e below (T3.setTop (mkF m 20 #[.val (.ref r0), .val (.ref r1), .unset, .unset, .unset] [(.long (((2 : Int64) * ((3 : Int32).toInt64)) - (1 : Int64))), (.int (64 : Int32))])) _
    refine XS.lconst X3.here hx rfl (hb hby d1_20) ?_
    exact kt
  have c8 : ∀ t, Steps p.tables e below (T3.setTop (mkF m 21 #[.val (.ref r0), .val (.ref r1), .unset, .unset, .unset] [(.long (1 : Int64)), (.long (5 : Int64)), (.int (64 : Int32))])) t → Steps p.tables e below (T3.setTop (mkF m 21 #[.val (.ref r0), .val (.ref r1), .unset, .unset, .unset] [(.long (1 : Int64)), (.long (((2 : Int64) * ((3 : Int32).toInt64)) - (1 : Int64))), (.int (64 : Int32))])) t := fun t kt => castTop (congrArg (fun z => (mkF m 21 #[.val (.ref r0), .val (.ref r1), .unset, .unset, .unset] [(.long (1 : Int64)), (.long z), (.int (64 : Int32))])) (show (((2 : Int64) * ((3 : Int32).toInt64)) - (1 : Int64)) = (5 : Int64) from by decide)) kt
  have f9 := (Nat.le_trans Z0 (Keep.of_wr W3).1)
  obtain ⟨_, _, ⟨T10, L10, k10, n10⟩, -, X10, ⟨Lc10, hQ10, l10, y10, z10⟩, st10⟩ := Jvm.LawKit.callS X3 hx (y := (⟨"java/lang/Math", "max", "(JJ)J"⟩ : MethodName)) hown (mvT hZ (hw _ (List.mem_of_getElem? (i := 13) rfl))) (mvT hZ (hw _ (List.mem_of_getElem? (i := 14) rfl))) (mvT hZ (hw _ (List.mem_of_getElem? (i := 15) rfl))) (mvT hZ (hw _ (List.mem_of_getElem? (i := 16) rfl))) (by decide) (backOf (W := 1) (rm3 l Z a0 hw [] (5 : Int64) (1 : Int64)  h3 n0 f9 ) hZ (hw _ (List.mem_of_getElem? (i := 16) rfl)) (hw _ (List.mem_of_getElem? (i := 15) rfl)) (by decide) (by decide)) (g := (mkF m 21 #[.val (.ref r0), .val (.ref r1), .unset, .unset, .unset] [(.long (1 : Int64)), (.long (5 : Int64)), (.int (64 : Int32))])) rfl (by rw [hml]; rfl) (argsL := [(.long (5 : Int64)), (.long (1 : Int64))]) (rest := [(.int (64 : Int32))]) (lenOf pd_1 rfl) rfl (by show 2 * 0 + _ ≤ _; exact Nat.le_of_eq rfl) (hb hby d1_21) (fun _ _ => ⟨rfl, e3, (by decide : 0 + 0 ≤ _), (by decide : 0 + 0 ≤ _)⟩)
  dsimp only [Pt.U, Pt.locs, Pt.cells, Pt.slots] at X10 l10 y10 z10 st10 hQ10
  subst l10 y10 z10
  obtain ⟨rfl, N10q, e10⟩ := hQ10
  have N10 := Fr.app N3 N10q
  have c11 : ∀ t, Steps p.tables e below (T10.setTop (mkF m 24 #[.val (.ref r0), .val (.ref r1), .unset, .unset, .unset] [(.long (5 : Int64)), (.int (64 : Int32))])) t → Steps p.tables e below (T10.setTop (mkF m 24 #[.val (.ref r0), .val (.ref r1), .unset, .unset, .unset] [(.long (own_max (5 : Int64) (1 : Int64))), (.int (64 : Int32))])) t := fun t kt => castTop (congrArg (fun z => (mkF m 24 #[.val (.ref r0), .val (.ref r1), .unset, .unset, .unset] [(.long z), (.int (64 : Int32))])) (show (own_max (5 : Int64) (1 : Int64)) = (5 : Int64) from by decide)) kt
  obtain ⟨_, _, ⟨T12, L12, k12, n12⟩, -, X12, ⟨Lc12, hQ12, l12, y12, z12⟩, st12⟩ := Jvm.LawKit.callS X10 hx (y := (⟨"java/lang/Long", "numberOfLeadingZeros", "(J)I"⟩ : MethodName)) hown (mvT hZ (hw _ (List.mem_of_getElem? (i := 17) rfl))) (mvT hZ (hw _ (List.mem_of_getElem? (i := 18) rfl))) (mvT hZ (hw _ (List.mem_of_getElem? (i := 19) rfl))) (mvT hZ (hw _ (List.mem_of_getElem? (i := 20) rfl))) (by decide) (backOf (W := 1) (rm4_5 l Z a0 hw []   h3 n0 f9 ) hZ (hw _ (List.mem_of_getElem? (i := 20) rfl)) (hw _ (List.mem_of_getElem? (i := 19) rfl)) (by decide) (by decide)) (g := (mkF m 24 #[.val (.ref r0), .val (.ref r1), .unset, .unset, .unset] [(.long (5 : Int64)), (.int (64 : Int32))])) rfl (by rw [hml]; rfl) (argsL := [(.long (5 : Int64))]) (rest := [(.int (64 : Int32))]) (lenOf pd_2 rfl) rfl (by show 2 * 0 + _ ≤ _; exact Nat.le_of_eq rfl) (hb hby d1_24) (fun _ _ => ⟨rfl, e10, (by decide : 0 + 0 ≤ _), (by decide : 0 + 0 ≤ _)⟩)
  dsimp only [Pt.U, Pt.locs, Pt.cells, Pt.slots] at X12 l12 y12 z12 st12 hQ12
  subst l12 y12 z12
  obtain ⟨rfl, N12q, e12⟩ := hQ12
  have N12 := Fr.app N10 N12q
  have c13 : ∀ t, Steps p.tables e below (T12.setTop (mkF m 33 #[.val (.ref r0), .val (.ref r1), .val (.int ((64 : Int32) - (61 : Int32))), .unset, .unset] [(.int ((1 : Int32) <<< (((64 : Int32) - (61 : Int32)) &&& 31))), (.ref r0)])) t → Steps p.tables e below (T12.setTop (mkF m 27 #[.val (.ref r0), .val (.ref r1), .unset, .unset, .unset] [(.int (61 : Int32)), (.int (64 : Int32))])) t := by
    intro t kt
    show Steps p.tables e below (T12.setTop (mkF m 27 #[.val (.ref r0), .val (.ref r1), .unset, .unset, .unset] [(.int (61 : Int32)), (.int (64 : Int32))])) _
    refine XS.isub X12.here hx rfl (hb hby d1_27) rfl ?_
    show Steps p.tables e below (T12.setTop (mkF m 28 #[.val (.ref r0), .val (.ref r1), .unset, .unset, .unset] [(.int ((64 : Int32) - (61 : Int32)))])) _
    refine XS.istoreN X12.here hx rfl (hb hby d1_28) rfl (l' := #[.val (.ref r0), .val (.ref r1), .val (.int ((64 : Int32) - (61 : Int32))), .unset, .unset]) rfl ?_
    show Steps p.tables e below (T12.setTop (mkF m 29 #[.val (.ref r0), .val (.ref r1), .val (.int ((64 : Int32) - (61 : Int32))), .unset, .unset] [])) _
    refine XS.aloadN X12.here hx rfl (hb hby d1_29) rfl rfl ?_
    show Steps p.tables e below (T12.setTop (mkF m 30 #[.val (.ref r0), .val (.ref r1), .val (.int ((64 : Int32) - (61 : Int32))), .unset, .unset] [(.ref r0)])) _
    refine XS.iconst X12.here hx rfl (hb hby d1_30) ?_
    show Steps p.tables e below (T12.setTop (mkF m 31 #[.val (.ref r0), .val (.ref r1), .val (.int ((64 : Int32) - (61 : Int32))), .unset, .unset] [(.int (1 : Int32)), (.ref r0)])) _
    refine XS.iloadN X12.here hx rfl (hb hby d1_31) rfl ?_
    show Steps p.tables e below (T12.setTop (mkF m 32 #[.val (.ref r0), .val (.ref r1), .val (.int ((64 : Int32) - (61 : Int32))), .unset, .unset] [(.int ((64 : Int32) - (61 : Int32))), (.int (1 : Int32)), (.ref r0)])) _
    refine XS.ishl X12.here hx rfl (hb hby d1_32) rfl ?_
    exact kt
  have c14 : ∀ t, Steps p.tables e below (T12.setTop (mkF m 33 #[.val (.ref r0), .val (.ref r1), .val (.int ((64 : Int32) - (61 : Int32))), .unset, .unset] [(.int (8 : Int32)), (.ref r0)])) t → Steps p.tables e below (T12.setTop (mkF m 33 #[.val (.ref r0), .val (.ref r1), .val (.int ((64 : Int32) - (61 : Int32))), .unset, .unset] [(.int ((1 : Int32) <<< (((64 : Int32) - (61 : Int32)) &&& 31))), (.ref r0)])) t := fun t kt => castTop (congrArg (fun z => (mkF m 33 #[.val (.ref r0), .val (.ref r1), .val (.int ((64 : Int32) - (61 : Int32))), .unset, .unset] [(.int z), (.ref r0)])) (show ((1 : Int32) <<< (((64 : Int32) - (61 : Int32)) &&& 31)) = (8 : Int32) from by decide)) kt
  have c15 : ∀ t, Steps p.tables e below (T12.setTop (mkF m 33 #[.val (.ref r0), .val (.ref r1), .val (.int (3 : Int32)), .unset, .unset] [(.int (8 : Int32)), (.ref r0)])) t → Steps p.tables e below (T12.setTop (mkF m 33 #[.val (.ref r0), .val (.ref r1), .val (.int ((64 : Int32) - (61 : Int32))), .unset, .unset] [(.int (8 : Int32)), (.ref r0)])) t := fun t kt => castTop (congrArg (fun z => (mkF m 33 #[.val (.ref r0), .val (.ref r1), .val (.int z), .unset, .unset] [(.int (8 : Int32)), (.ref r0)])) (show ((64 : Int32) - (61 : Int32)) = (3 : Int32) from by decide)) kt
  obtain ⟨T16, h16, k16, X16, e16, E16, A16, st16⟩ := newP X12 hx hZ (hw _ (List.mem_of_getElem? (i := 26) rfl)) e12 (g := (mkF m 33 #[.val (.ref r0), .val (.ref r1), .val (.int (3 : Int32)), .unset, .unset] [(.int (8 : Int32)), (.ref r0)])) rfl (hb hby d1_33) rfl (by decide) (cap := 8) (by decide) (by decide) (by decide) (by decide)
  obtain ⟨b16, g16⟩ : ∃ z, z = h3.size := ⟨_, rfl⟩
  rw [← g16] at A16 st16
  have f17 := ((Keep.refl h0 [r0]).wr W3 (Or.inl (List.mem_of_getElem? (i := 0) rfl)))
  have g_b16 : n0 ≤ b16 := Nat.le_trans f9 (Nat.le_of_eq g16.symm)
  have sz_b16 : h0.size ≤ b16 := Nat.le_trans f17.1 (Nat.le_of_eq g16.symm)
  have lt_r1_16 := f5.lt
  have lt_r0_16 := Fw3.lt
  have V16 : Arv Z h16 b16 k16 .int (8 : Int32) [(.int (0 : Int32)), (.int (0 : Int32)), (.int (0 : Int32)), (.int (0 : Int32)), (.int (0 : Int32)), (.int (0 : Int32)), (.int (0 : Int32)), (.int (0 : Int32))] (.int (0 : Int32)) := (Arv.new A16 (by decide)).pad (pad_rep [] (.int (0 : Int32)) 8)
  have f18 := ((F_s.other W3 (Or.inr (slot_ne (a0 := a0) (Or.inr (hw _ (List.mem_of_getElem? (i := 28) rfl))) (Or.inr (hw _ (List.mem_of_getElem? (i := 11) rfl))) (by decide) (t := (.array .int)) (t' := (.array .long)) (by decide) (by decide)))).ext E16)
  have f19 := ((E0.wr W3).ext E16)
  obtain ⟨T20, h20, X20, e20, W20, st20⟩ := putF X16 hx hZ hown (host := "") (Or.inl (hw _ (List.mem_of_getElem? (i := 27) rfl))) Via.refl e16 f18 f19 (Or.inr ⟨(hw _ (List.mem_of_getElem? (i := 28) rfl)), rfl, hnm⟩) (hw _ (List.mem_of_getElem? (i := 2) rfl)) (ty := (.array .int)) (by decide) rfl rfl (g := (mkF m 35 #[.val (.ref r0), .val (.ref r1), .val (.int (3 : Int32)), .unset, .unset] [(.ref b16), (.ref r0)])) rfl rfl (hb hby d1_35)
  have Fw20 := f18.same W20
  have N20 := Fr.snoc X20 N12 g_r0
  have c21 : ∀ t, Steps p.tables e below (T20.setTop (mkF m 43 #[.val (.ref r0), .val (.ref r1), .val (.int (3 : Int32)), .unset, .unset] [(.int ((64 : Int32) - (3 : Int32))), (.ref r0)])) t → Steps p.tables e below (T20.setTop (mkF m 38 #[.val (.ref r0), .val (.ref r1), .val (.int (3 : Int32)), .unset, .unset] [])) t := by
    intro t kt
    show Steps p.tables e below (T20.setTop (mkF m 38 #[.val (.ref r0), .val (.ref r1), .val (.int (3 : Int32)), .unset, .unset] [])) _
    refine XS.aloadN X20.here hx rfl (hb hby d1_38) rfl rfl ?_
    show Steps p.tables e below (T20.setTop (mkF m 39 #[.val (.ref r0), .val (.ref r1), .val (.int (3 : Int32)), .unset, .unset] [(.ref r0)])) _
    refine XS.bipush X20.here hx rfl (hb hby d1_39) ?_
    show Steps p.tables e below (T20.setTop (mkF m 41 #[.val (.ref r0), .val (.ref r1), .val (.int (3 : Int32)), .unset, .unset] [(.int (64 : Int32)), (.ref r0)])) _
    refine XS.iloadN X20.here hx rfl (hb hby d1_41) rfl ?_
    show Steps p.tables e below (T20.setTop (mkF m 42 #[.val (.ref r0), .val (.ref r1), .val (.int (3 : Int32)), .unset, .unset] [(.int (3 : Int32)), (.int (64 : Int32)), (.ref r0)])) _
    refine XS.isub X20.here hx rfl (hb hby d1_42) rfl ?_
    exact kt
  have c22 : ∀ t, Steps p.tables e below (T20.setTop (mkF m 43 #[.val (.ref r0), .val (.ref r1), .val (.int (3 : Int32)), .unset, .unset] [(.int (61 : Int32)), (.ref r0)])) t → Steps p.tables e below (T20.setTop (mkF m 43 #[.val (.ref r0), .val (.ref r1), .val (.int (3 : Int32)), .unset, .unset] [(.int ((64 : Int32) - (3 : Int32))), (.ref r0)])) t := fun t kt => castTop (congrArg (fun z => (mkF m 43 #[.val (.ref r0), .val (.ref r1), .val (.int (3 : Int32)), .unset, .unset] [(.int z), (.ref r0)])) (show ((64 : Int32) - (3 : Int32)) = (61 : Int32) from by decide)) kt
  have f23 := (((F_h.other W3 (Or.inr (slot_ne (a0 := a0) (Or.inr (hw _ (List.mem_of_getElem? (i := 30) rfl))) (Or.inr (hw _ (List.mem_of_getElem? (i := 11) rfl))) (by decide) (t := .int) (t' := (.array .long)) (by decide) (by decide)))).ext E16).other W20 (Or.inr (slot_ne (a0 := a0) (Or.inr (hw _ (List.mem_of_getElem? (i := 30) rfl))) (Or.inr (hw _ (List.mem_of_getElem? (i := 28) rfl))) (by decide) (t := .int) (t' := (.array .int)) (by decide) (by decide))))
  have f24 := (f19.wr W20)
  obtain ⟨T25, h25, X25, e25, W25, st25⟩ := putF X20 hx hZ hown (host := "") (Or.inl (hw _ (List.mem_of_getElem? (i := 29) rfl))) Via.refl e20 f23 f24 (Or.inr ⟨(hw _ (List.mem_of_getElem? (i := 30) rfl)), rfl, hnm⟩) (hw _ (List.mem_of_getElem? (i := 2) rfl)) (ty := .int) (by decide) rfl rfl (g := (mkF m 43 #[.val (.ref r0), .val (.ref r1), .val (.int (3 : Int32)), .unset, .unset] [(.int (61 : Int32)), (.ref r0)])) rfl rfl (hb hby d1_43)
  have Fw25 := f23.same W25
  have N25 := Fr.snoc X25 N20 g_r0
  have f26 := (((f5.ext E16).other W20 hne).other W25 hne)
  have Vc27 := f26
  obtain ⟨cl27, Ar27, qk27, S27, M27, H27, G27⟩ := Vc27
  have Vc28 := f26
  obtain ⟨cl28, Ar28, qk28, S28, M28, H28, G28⟩ := Vc28
  have hin28 : ¬ ((0 : Int32) < 0 ∨ cl28.slots.size ≤ ((0 : Int32)).toNatClampNeg) := inb_of S28 ⟨by decide, by decide⟩
  have hat28 : cl28.slots[((0 : Int32)).toNatClampNeg]? = some (.long x0) := H28.at hin28 rfl
  have c29 : ∀ t, Steps p.tables e below (T25.setTop (mkF m 58 #[.val (.ref r0), .val (.ref r1), .val (.int (3 : Int32)), .val (.int (0 : Int32)), .unset] [(.long x0), (.ref r0)])) t → Steps p.tables e below (T25.setTop (mkF m 46 #[.val (.ref r0), .val (.ref r1), .val (.int (3 : Int32)), .unset, .unset] [])) t := by
    intro t kt
    show Steps p.tables e below (T25.setTop (mkF m 46 #[.val (.ref r0), .val (.ref r1), .val (.int (3 : Int32)), .unset, .unset] [])) _
    refine XS.iconst X25.here hx rfl (hb hby d1_46) ?_
    show Steps p.tables e below (T25.setTop (mkF m 47 #[.val (.ref r0), .val (.ref r1), .val (.int (3 : Int32)), .unset, .unset] [(.int (0 : Int32))])) _
    refine XS.istoreN X25.here hx rfl (hb hby d1_47) rfl (l' := #[.val (.ref r0), .val (.ref r1), .val (.int (3 : Int32)), .val (.int (0 : Int32)), .unset]) rfl ?_
    show Steps p.tables e below (T25.setTop (mkF m 48 #[.val (.ref r0), .val (.ref r1), .val (.int (3 : Int32)), .val (.int (0 : Int32)), .unset] [])) _
    refine XS.iloadN X25.here hx rfl (hb hby d1_48) rfl ?_
    show Steps p.tables e below (T25.setTop (mkF m 49 #[.val (.ref r0), .val (.ref r1), .val (.int (3 : Int32)), .val (.int (0 : Int32)), .unset] [(.int (0 : Int32))])) _
    refine XS.aloadN X25.here hx rfl (hb hby d1_49) rfl rfl ?_
    show Steps p.tables e below (T25.setTop (mkF m 50 #[.val (.ref r0), .val (.ref r1), .val (.int (3 : Int32)), .val (.int (0 : Int32)), .unset] [(.ref r1), (.int (0 : Int32))])) _
    refine X25.arraylength hx (by rw [e25]; exact Ar27.1) (State.isArrayOf_alike hZ.alike Ar27.2.1) (g := (mkF m 50 #[.val (.ref r0), .val (.ref r1), .val (.int (3 : Int32)), .val (.int (0 : Int32)), .unset] [(.ref r1), (.int (0 : Int32))])) rfl rfl (hb hby d1_50) _ ?_
    rw [len_of S27 M27]
    show Steps p.tables e below (T25.setTop (mkF m 51 #[.val (.ref r0), .val (.ref r1), .val (.int (3 : Int32)), .val (.int (0 : Int32)), .unset] [(.int (3 : Int32)), (.int (0 : Int32))])) _
    refine XS.icmpNo X25.here hx rfl (hb hby d1_51) rfl (tlt (by decide : (0 : Int32) < (3 : Int32))).2.1 ?_
    show Steps p.tables e below (T25.setTop (mkF m 54 #[.val (.ref r0), .val (.ref r1), .val (.int (3 : Int32)), .val (.int (0 : Int32)), .unset] [])) _
    refine XS.aloadN X25.here hx rfl (hb hby d1_54) rfl rfl ?_
    show Steps p.tables e below (T25.setTop (mkF m 55 #[.val (.ref r0), .val (.ref r1), .val (.int (3 : Int32)), .val (.int (0 : Int32)), .unset] [(.ref r0)])) _
    refine XS.aloadN X25.here hx rfl (hb hby d1_55) rfl rfl ?_
    show Steps p.tables e below (T25.setTop (mkF m 56 #[.val (.ref r0), .val (.ref r1), .val (.int (3 : Int32)), .val (.int (0 : Int32)), .unset] [(.ref r1), (.ref r0)])) _
    refine XS.iloadN X25.here hx rfl (hb hby d1_56) rfl ?_
    show Steps p.tables e below (T25.setTop (mkF m 57 #[.val (.ref r0), .val (.ref r1), .val (.int (3 : Int32)), .val (.int (0 : Int32)), .unset] [(.int (0 : Int32)), (.ref r1), (.ref r0)])) _
    refine X25.laload hx (j := (0 : Int32)) (v := (.long x0)) (by rw [e25]; exact Ar28.1) (State.isArrayOf_alike hZ.alike Ar28.2.1) Ar28.2.2 hin28 hat28 (g := (mkF m 57 #[.val (.ref r0), .val (.ref r1), .val (.int (3 : Int32)), .val (.int (0 : Int32)), .unset] [(.int (0 : Int32)), (.ref r1), (.ref r0)])) rfl rfl (hb hby d1_57) _ ?_
    exact kt
  have f30 := (Nat.le_trans (Nat.le_trans (Nat.le_trans f9 E16.1) (Keep.of_wr W20).1) (Keep.of_wr W25).1)
  have f31 := (f24.wr W25)
  obtain ⟨cq32, rq32, rq32'⟩ := f31.cell
  obtain ⟨_, _, ⟨T33, L33, k33, n33⟩, -, X33, ⟨Lc33, hQ33, l33, y33, z33⟩, st33⟩ := X25.privateBack hx (y := (⟨"com/example/mapstone/mapstone/engine/ConceptIndex", "slot", "(J)I"⟩ : MethodName)) hown (mvT hZ (hw _ (List.mem_of_getElem? (i := 31) rfl))) (mvT hZ (hw _ (List.mem_of_getElem? (i := 32) rfl))) (own_selp (y := (⟨"com/example/mapstone/mapstone/engine/ConceptIndex", "slot", "(J)I"⟩ : MethodName)) (z := (⟨"com/example/mapstone/mapstone/engine/ConceptIndex", "place", "(J)I"⟩ : MethodName)) (mvT hZ (hw _ (List.mem_of_getElem? (i := 39) rfl))) rfl (Cond.privateMethod_at (mvP hZ (hw _ (List.mem_of_getElem? (i := 33) rfl)) (args := #[]))) (mvT hZ (hw _ (List.mem_of_getElem? (i := 32) rfl))) (by decide)) (Cond.privateMethod_at (mvP hZ (hw _ (List.mem_of_getElem? (i := 33) rfl)) (args := #[]))) (mvT hZ (hw _ (List.mem_of_getElem? (i := 34) rfl))) (by decide) (backOf (W := 0) (rm6 l Z a0 hw [] r0 x0 (61 : Int32) h25 n0 f30 Fw25) hZ (hw _ (List.mem_of_getElem? (i := 34) rfl)) (hw _ (List.mem_of_getElem? (i := 3) rfl)) (by decide) (by decide)) (g := (mkF m 58 #[.val (.ref r0), .val (.ref r1), .val (.int (3 : Int32)), .val (.int (0 : Int32)), .unset] [(.long x0), (.ref r0)])) rfl (by rw [hml]; rfl) (Steps.refl _) (a := r0) (by rw [e25]; exact rq32) rq32' (argsL := [(.long x0)]) (rest := []) (lenOf pd_2 rfl) rfl (by show 2 * 0 + _ ≤ _; exact Nat.le_of_eq rfl) (hb hby d1_58) (fun _ _ => ⟨rfl, e25, (by decide : 1 + 0 ≤ _), (by decide : 8 + 0 ≤ _)⟩)
  dsimp only [Pt.U, Pt.locs, Pt.cells, Pt.slots] at X33 l33 y33 z33 st33 hQ33
  subst l33 y33 z33
  obtain ⟨rfl, N33q, e33⟩ := hQ33
  have N33 := Fr.app N25 N33q
  have hsl34 := own_slotv (61 : Int32) x0 0 8 (by decide)
  have c35 : ∀ t, Steps p.tables e below (T33.setTop (mkF m 61 #[.val (.ref r0), .val (.ref r1), .val (.int (3 : Int32)), .val (.int (0 : Int32)), .unset] [(.int (Int32.ofNat (own_sN (61 : Int32) x0)))])) t → Steps p.tables e below (T33.setTop (mkF m 61 #[.val (.ref r0), .val (.ref r1), .val (.int (3 : Int32)), .val (.int (0 : Int32)), .unset] [(.int (own_slot (61 : Int32) x0))])) t := fun t kt => castTop (congrArg (fun z => (mkF m 61 #[.val (.ref r0), .val (.ref r1), .val (.int (3 : Int32)), .val (.int (0 : Int32)), .unset] [(.int z)])) (show (own_slot (61 : Int32) x0) = (Int32.ofNat (own_sN (61 : Int32) x0)) from hsl34.1)) kt
  have c36 : ∀ t, Steps p.tables e below (T33.setTop (mkF m 63 #[.val (.ref r0), .val (.ref r1), .val (.int (3 : Int32)), .val (.int (0 : Int32)), .val (.int (Int32.ofNat (own_sN (61 : Int32) x0)))] [])) t → Steps p.tables e below (T33.setTop (mkF m 61 #[.val (.ref r0), .val (.ref r1), .val (.int (3 : Int32)), .val (.int (0 : Int32)), .unset] [(.int (Int32.ofNat (own_sN (61 : Int32) x0)))])) t := by
    intro t kt
    show Steps p.tables e below (T33.setTop (mkF m 61 #[.val (.ref r0), .val (.ref r1), .val (.int (3 : Int32)), .val (.int (0 : Int32)), .unset] [(.int (Int32.ofNat (own_sN (61 : Int32) x0)))])) _
    refine XS.istore X33.here hx rfl (hb hby d1_61) rfl (l' := #[.val (.ref r0), .val (.ref r1), .val (.int (3 : Int32)), .val (.int (0 : Int32)), .val (.int (Int32.ofNat (own_sN (61 : Int32) x0)))]) rfl ?_
    exact kt
  have f38 := (Fw20.other W25 (Or.inr (slot_ne (a0 := a0) (Or.inr (hw _ (List.mem_of_getElem? (i := 28) rfl))) (Or.inr (hw _ (List.mem_of_getElem? (i := 30) rfl))) (by decide) (t := (.array .int)) (t' := .int) (by decide) (by decide))))
  have f39 := ((V16.other W20 (Ne.symm (Nat.ne_of_lt (Nat.lt_of_lt_of_le lt_r0_16 (Nat.le_of_eq g16.symm))))).other W25 (Ne.symm (Nat.ne_of_lt (Nat.lt_of_lt_of_le lt_r0_16 (Nat.le_of_eq g16.symm)))))
  have hok37 : own_ok (List.replicate 8 0) 8 0 := own_okz 8 (by decide)
  have hend37 := hok37.2.2 (own_sN (61 : Int32) x0) hsl34.2
  have VT37 : Arv Z h25 b16 k16 .int (Int32.ofNat 8) (own_tv (List.replicate 8 0)) (.int (0 : Int32)) := f39
  obtain ⟨T37, L37, X37, e37, N37, st37⟩ := lfree r0 r1 (3 : Int32) (0 : Int32) b16 k16 8 (List.replicate 8 0) hx hZ hw hby hml hown N33 f30 f38 VT37 (by decide) hok37.1 (fun i => Nat.le_trans (hok37.2.1 i) (by decide)) 8 (own_sN (61 : Int32) x0) hsl34.2 hend37.1 T33 X33 e33
  have c41 : ∀ t, Steps p.tables e below (T37.setTop (mkF m 91 #[.val (.ref r0), .val (.ref r1), .val (.int (3 : Int32)), .val (.int (0 : Int32)), .val (.int (Int32.ofNat (own_free (List.replicate 8 0) 8 8 (own_sN (61 : Int32) x0))))] [(.ref r0)])) t → Steps p.tables e below (T37.setTop (mkF m 90 #[.val (.ref r0), .val (.ref r1), .val (.int (3 : Int32)), .val (.int (0 : Int32)), .val (.int (Int32.ofNat (own_free (List.replicate 8 0) 8 8 (own_sN (61 : Int32) x0))))] [])) t := by
    intro t kt
    show Steps p.tables e below (T37.setTop (mkF m 90 #[.val (.ref r0), .val (.ref r1), .val (.int (3 : Int32)), .val (.int (0 : Int32)), .val (.int (Int32.ofNat (own_free (List.replicate 8 0) 8 8 (own_sN (61 : Int32) x0))))] [])) _
    refine XS.aloadN X37.here hx rfl (hb hby d1_90) rfl rfl ?_
    exact kt
  obtain ⟨T40, X40, e40, st40⟩ := getF X37 hx hZ hown (host := "") (Or.inl (hw _ (List.mem_of_getElem? (i := 27) rfl))) Via.refl e37 f38 (g := (mkF m 91 #[.val (.ref r0), .val (.ref r1), .val (.int (3 : Int32)), .val (.int (0 : Int32)), .val (.int (Int32.ofNat (own_free (List.replicate 8 0) 8 8 (own_sN (61 : Int32) x0))))] [(.ref r0)])) rfl rfl (hb hby d1_91)
  have c42 : ∀ t, Steps p.tables e below (T40.setTop (mkF m 99 #[.val (.ref r0), .val (.ref r1), .val (.int (3 : Int32)), .val (.int (0 : Int32)), .val (.int (Int32.ofNat (own_free (List.replicate 8 0) 8 8 (own_sN (61 : Int32) x0))))] [(.int ((0 : Int32) + (1 : Int32))), (.int (Int32.ofNat (own_free (List.replicate 8 0) 8 8 (own_sN (61 : Int32) x0)))), (.ref b16)])) t → Steps p.tables e below (T40.setTop (mkF m 94 #[.val (.ref r0), .val (.ref r1), .val (.int (3 : Int32)), .val (.int (0 : Int32)), .val (.int (Int32.ofNat (own_free (List.replicate 8 0) 8 8 (own_sN (61 : Int32) x0))))] [(.ref b16)])) t := by
    intro t kt
    show Steps p.tables e below (T40.setTop (mkF m 94 #[.val (.ref r0), .val (.ref r1), .val (.int (3 : Int32)), .val (.int (0 : Int32)), .val (.int (Int32.ofNat (own_free (List.replicate 8 0) 8 8 (own_sN (61 : Int32) x0))))] [(.ref b16)])) _
    refine XS.iload X40.here hx rfl (hb hby d1_94) rfl ?_
    show Steps p.tables e below (T40.setTop (mkF m 96 #[.val (.ref r0), .val (.ref r1), .val (.int (3 : Int32)), .val (.int (0 : Int32)), .val (.int (Int32.ofNat (own_free (List.replicate 8 0) 8 8 (own_sN (61 : Int32) x0))))] [(.int (Int32.ofNat (own_free (List.replicate 8 0) 8 8 (own_sN (61 : Int32) x0)))), (.ref b16)])) _
    refine XS.iloadN X40.here hx rfl (hb hby d1_96) rfl ?_
    show Steps p.tables e below (T40.setTop (mkF m 97 #[.val (.ref r0), .val (.ref r1), .val (.int (3 : Int32)), .val (.int (0 : Int32)), .val (.int (Int32.ofNat (own_free (List.replicate 8 0) 8 8 (own_sN (61 : Int32) x0))))] [(.int (0 : Int32)), (.int (Int32.ofNat (own_free (List.replicate 8 0) 8 8 (own_sN (61 : Int32) x0)))), (.ref b16)])) _
    refine XS.iconst X40.here hx rfl (hb hby d1_97) ?_
    show Steps p.tables e below (T40.setTop (mkF m 98 #[.val (.ref r0), .val (.ref r1), .val (.int (3 : Int32)), .val (.int (0 : Int32)), .val (.int (Int32.ofNat (own_free (List.replicate 8 0) 8 8 (own_sN (61 : Int32) x0))))] [(.int (1 : Int32)), (.int (0 : Int32)), (.int (Int32.ofNat (own_free (List.replicate 8 0) 8 8 (own_sN (61 : Int32) x0)))), (.ref b16)])) _
    refine XS.iadd X40.here hx rfl (hb hby d1_98) rfl ?_
    exact kt
  have c43 : ∀ t, Steps p.tables e below (T40.setTop (mkF m 99 #[.val (.ref r0), .val (.ref r1), .val (.int (3 : Int32)), .val (.int (0 : Int32)), .val (.int (Int32.ofNat (own_free (List.replicate 8 0) 8 8 (own_sN (61 : Int32) x0))))] [(.int (1 : Int32)), (.int (Int32.ofNat (own_free (List.replicate 8 0) 8 8 (own_sN (61 : Int32) x0)))), (.ref b16)])) t → Steps p.tables e below (T40.setTop (mkF m 99 #[.val (.ref r0), .val (.ref r1), .val (.int (3 : Int32)), .val (.int (0 : Int32)), .val (.int (Int32.ofNat (own_free (List.replicate 8 0) 8 8 (own_sN (61 : Int32) x0))))] [(.int ((0 : Int32) + (1 : Int32))), (.int (Int32.ofNat (own_free (List.replicate 8 0) 8 8 (own_sN (61 : Int32) x0)))), (.ref b16)])) t := fun t kt => castTop (congrArg (fun z => (mkF m 99 #[.val (.ref r0), .val (.ref r1), .val (.int (3 : Int32)), .val (.int (0 : Int32)), .val (.int (Int32.ofNat (own_free (List.replicate 8 0) 8 8 (own_sN (61 : Int32) x0))))] [(.int z), (.int (Int32.ofNat (own_free (List.replicate 8 0) 8 8 (own_sN (61 : Int32) x0)))), (.ref b16)])) (show ((0 : Int32) + (1 : Int32)) = (1 : Int32) from by decide)) kt
  have Vc44 := VT37
  obtain ⟨cl44, Ar44, qk44, S44, M44, H44, G44⟩ := Vc44
  have hin44 : ¬ ((Int32.ofNat (own_free (List.replicate 8 0) 8 8 (own_sN (61 : Int32) x0))) < 0 ∨ cl44.slots.size ≤ ((Int32.ofNat (own_free (List.replicate 8 0) 8 8 (own_sN (61 : Int32) x0)))).toNatClampNeg) := inb_of S44 (own_in _ 8 hend37.2 (by decide))
  obtain ⟨T45, h45, X45, e45, W45, st45⟩ := stI X40 hx hZ e40 Ar44 (j := (Int32.ofNat (own_free (List.replicate 8 0) 8 8 (own_sN (61 : Int32) x0)))) hin44 (g := (mkF m 99 #[.val (.ref r0), .val (.ref r1), .val (.int (3 : Int32)), .val (.int (0 : Int32)), .val (.int (Int32.ofNat (own_free (List.replicate 8 0) 8 8 (own_sN (61 : Int32) x0))))] [(.int (1 : Int32)), (.int (Int32.ofNat (own_free (List.replicate 8 0) 8 8 (own_sN (61 : Int32) x0)))), (.ref b16)])) rfl rfl (hb hby d1_99)
  have V45 : Arv Z h45 b16 k16 .int (Int32.ofNat 8) (own_tv (own_ins (List.replicate 8 0) 8 (own_sN (61 : Int32) x0) 1)) (.int (0 : Int32)) := by have q := Arv.set Ar44 qk44 S44 M44 H44 G44 rfl W45 (own_free (List.replicate 8 0) 8 8 (own_sN (61 : Int32) x0)) (own_clamp _ (Nat.lt_trans hend37.2 (by decide))) (by simp only [own_tv, List.length_map]; rw [hok37.1]; exact hend37.2); rw [show (own_tv (List.replicate 8 0)).set (own_free (List.replicate 8 0) 8 8 (own_sN (61 : Int32) x0)) (.int (1 : Int32)) = own_tv (own_ins (List.replicate 8 0) 8 (own_sN (61 : Int32) x0) 1) from own_tvset _ _ 1] at q; exact q
  have N45 := Fr.snoc X45 N37 g_b16
  have f46 := (f26.other W45 (Nat.ne_of_lt (Nat.lt_of_lt_of_le lt_r1_16 (Nat.le_of_eq g16.symm))))
  have Vc47 := f46
  obtain ⟨cl47, Ar47, qk47, S47, M47, H47, G47⟩ := Vc47
  have Vc48 := f46
  obtain ⟨cl48, Ar48, qk48, S48, M48, H48, G48⟩ := Vc48
  have hin48 : ¬ (((0 : Int32) + (1 : Int32)) < 0 ∨ cl48.slots.size ≤ (((0 : Int32) + (1 : Int32))).toNatClampNeg) := inb_of S48 ⟨by decide, by decide⟩
  have hat48 : cl48.slots[(((0 : Int32) + (1 : Int32))).toNatClampNeg]? = some (.long x1) := H48.at hin48 rfl
  have c49 : ∀ t, Steps p.tables e below (T45.setTop (mkF m 58 #[.val (.ref r0), .val (.ref r1), .val (.int (3 : Int32)), .val (.int ((0 : Int32) + (1 : Int32))), .val (.int (Int32.ofNat (own_free (List.replicate 8 0) 8 8 (own_sN (61 : Int32) x0))))] [(.long x1), (.ref r0)])) t → Steps p.tables e below (T45.setTop (mkF m 100 #[.val (.ref r0), .val (.ref r1), .val (.int (3 : Int32)), .val (.int (0 : Int32)), .val (.int (Int32.ofNat (own_free (List.replicate 8 0) 8 8 (own_sN (61 : Int32) x0))))] [])) t := by
    intro t kt
    show Steps p.tables e below (T45.setTop (mkF m 100 #[.val (.ref r0), .val (.ref r1), .val (.int (3 : Int32)), .val (.int (0 : Int32)), .val (.int (Int32.ofNat (own_free (List.replicate 8 0) 8 8 (own_sN (61 : Int32) x0))))] [])) _
    refine XS.iinc X45.here hx rfl (hb hby d1_100) rfl (l' := #[.val (.ref r0), .val (.ref r1), .val (.int (3 : Int32)), .val (.int ((0 : Int32) + (1 : Int32))), .val (.int (Int32.ofNat (own_free (List.replicate 8 0) 8 8 (own_sN (61 : Int32) x0))))]) rfl ?_
    show Steps p.tables e below (T45.setTop (mkF m 103 #[.val (.ref r0), .val (.ref r1), .val (.int (3 : Int32)), .val (.int ((0 : Int32) + (1 : Int32))), .val (.int (Int32.ofNat (own_free (List.replicate 8 0) 8 8 (own_sN (61 : Int32) x0))))] [])) _
    refine XS.goto X45.here hx rfl (pc0 := 103) (pc' := 48) rfl (hb hby d1_103) (by decide) (by decide) ?_
    show Steps p.tables e below (T45.setTop (mkF m 48 #[.val (.ref r0), .val (.ref r1), .val (.int (3 : Int32)), .val (.int ((0 : Int32) + (1 : Int32))), .val (.int (Int32.ofNat (own_free (List.replicate 8 0) 8 8 (own_sN (61 : Int32) x0))))] [])) _
    refine XS.iloadN X45.here hx rfl (hb hby d1_48) rfl ?_
    show Steps p.tables e below (T45.setTop (mkF m 49 #[.val (.ref r0), .val (.ref r1), .val (.int (3 : Int32)), .val (.int ((0 : Int32) + (1 : Int32))), .val (.int (Int32.ofNat (own_free (List.replicate 8 0) 8 8 (own_sN (61 : Int32) x0))))] [(.int ((0 : Int32) + (1 : Int32)))])) _
    refine XS.aloadN X45.here hx rfl (hb hby d1_49) rfl rfl ?_
    show Steps p.tables e below (T45.setTop (mkF m 50 #[.val (.ref r0), .val (.ref r1), .val (.int (3 : Int32)), .val (.int ((0 : Int32) + (1 : Int32))), .val (.int (Int32.ofNat (own_free (List.replicate 8 0) 8 8 (own_sN (61 : Int32) x0))))] [(.ref r1), (.int ((0 : Int32) + (1 : Int32)))])) _
    refine X45.arraylength hx (by rw [e45]; exact Ar47.1) (State.isArrayOf_alike hZ.alike Ar47.2.1) (g := (mkF m 50 #[.val (.ref r0), .val (.ref r1), .val (.int (3 : Int32)), .val (.int ((0 : Int32) + (1 : Int32))), .val (.int (Int32.ofNat (own_free (List.replicate 8 0) 8 8 (own_sN (61 : Int32) x0))))] [(.ref r1), (.int ((0 : Int32) + (1 : Int32)))])) rfl rfl (hb hby d1_50) _ ?_
    rw [len_of S47 M47]
    show Steps p.tables e below (T45.setTop (mkF m 51 #[.val (.ref r0), .val (.ref r1), .val (.int (3 : Int32)), .val (.int ((0 : Int32) + (1 : Int32))), .val (.int (Int32.ofNat (own_free (List.replicate 8 0) 8 8 (own_sN (61 : Int32) x0))))] [(.int (3 : Int32)), (.int ((0 : Int32) + (1 : Int32)))])) _
    refine XS.icmpNo X45.here hx rfl (hb hby d1_51) rfl (tlt (by decide : ((0 : Int32) + (1 : Int32)) < (3 : Int32))).2.1 ?_
    show Steps p.tables e below (T45.setTop (mkF m 54 #[.val (.ref r0), .val (.ref r1), .val (.int (3 : Int32)), .val (.int ((0 : Int32) + (1 : Int32))), .val (.int (Int32.ofNat (own_free (List.replicate 8 0) 8 8 (own_sN (61 : Int32) x0))))] [])) _
    refine XS.aloadN X45.here hx rfl (hb hby d1_54) rfl rfl ?_
    show Steps p.tables e below (T45.setTop (mkF m 55 #[.val (.ref r0), .val (.ref r1), .val (.int (3 : Int32)), .val (.int ((0 : Int32) + (1 : Int32))), .val (.int (Int32.ofNat (own_free (List.replicate 8 0) 8 8 (own_sN (61 : Int32) x0))))] [(.ref r0)])) _
    refine XS.aloadN X45.here hx rfl (hb hby d1_55) rfl rfl ?_
    show Steps p.tables e below (T45.setTop (mkF m 56 #[.val (.ref r0), .val (.ref r1), .val (.int (3 : Int32)), .val (.int ((0 : Int32) + (1 : Int32))), .val (.int (Int32.ofNat (own_free (List.replicate 8 0) 8 8 (own_sN (61 : Int32) x0))))] [(.ref r1), (.ref r0)])) _
    refine XS.iloadN X45.here hx rfl (hb hby d1_56) rfl ?_
    show Steps p.tables e below (T45.setTop (mkF m 57 #[.val (.ref r0), .val (.ref r1), .val (.int (3 : Int32)), .val (.int ((0 : Int32) + (1 : Int32))), .val (.int (Int32.ofNat (own_free (List.replicate 8 0) 8 8 (own_sN (61 : Int32) x0))))] [(.int ((0 : Int32) + (1 : Int32))), (.ref r1), (.ref r0)])) _
    refine X45.laload hx (j := ((0 : Int32) + (1 : Int32))) (v := (.long x1)) (by rw [e45]; exact Ar48.1) (State.isArrayOf_alike hZ.alike Ar48.2.1) Ar48.2.2 hin48 hat48 (g := (mkF m 57 #[.val (.ref r0), .val (.ref r1), .val (.int (3 : Int32)), .val (.int ((0 : Int32) + (1 : Int32))), .val (.int (Int32.ofNat (own_free (List.replicate 8 0) 8 8 (own_sN (61 : Int32) x0))))] [(.int ((0 : Int32) + (1 : Int32))), (.ref r1), (.ref r0)])) rfl rfl (hb hby d1_57) _ ?_
    exact kt
  have f50 := (Nat.le_trans f30 (Keep.of_wr W45).1)
  have f51 := (Fw25.other W45 (Or.inl (Nat.ne_of_lt (Nat.lt_of_lt_of_le lt_r0_16 (Nat.le_of_eq g16.symm)))))
  have f52 := (f31.wr W45)
  obtain ⟨cq53, rq53, rq53'⟩ := f52.cell
  obtain ⟨_, _, ⟨T54, L54, k54, n54⟩, -, X54, ⟨Lc54, hQ54, l54, y54, z54⟩, st54⟩ := X45.privateBack hx (y := (⟨"com/example/mapstone/mapstone/engine/ConceptIndex", "slot", "(J)I"⟩ : MethodName)) hown (mvT hZ (hw _ (List.mem_of_getElem? (i := 31) rfl))) (mvT hZ (hw _ (List.mem_of_getElem? (i := 32) rfl))) (own_selp (y := (⟨"com/example/mapstone/mapstone/engine/ConceptIndex", "slot", "(J)I"⟩ : MethodName)) (z := (⟨"com/example/mapstone/mapstone/engine/ConceptIndex", "place", "(J)I"⟩ : MethodName)) (mvT hZ (hw _ (List.mem_of_getElem? (i := 39) rfl))) rfl (Cond.privateMethod_at (mvP hZ (hw _ (List.mem_of_getElem? (i := 33) rfl)) (args := #[]))) (mvT hZ (hw _ (List.mem_of_getElem? (i := 32) rfl))) (by decide)) (Cond.privateMethod_at (mvP hZ (hw _ (List.mem_of_getElem? (i := 33) rfl)) (args := #[]))) (mvT hZ (hw _ (List.mem_of_getElem? (i := 34) rfl))) (by decide) (backOf (W := 0) (rm6 l Z a0 hw [] r0 x1 (61 : Int32) h45 n0 f50 f51) hZ (hw _ (List.mem_of_getElem? (i := 34) rfl)) (hw _ (List.mem_of_getElem? (i := 3) rfl)) (by decide) (by decide)) (g := (mkF m 58 #[.val (.ref r0), .val (.ref r1), .val (.int (3 : Int32)), .val (.int ((0 : Int32) + (1 : Int32))), .val (.int (Int32.ofNat (own_free (List.replicate 8 0) 8 8 (own_sN (61 : Int32) x0))))] [(.long x1), (.ref r0)])) rfl (by rw [hml]; rfl) (Steps.refl _) (a := r0) (by rw [e45]; exact rq53) rq53' (argsL := [(.long x1)]) (rest := []) (lenOf pd_2 rfl) rfl (by show 2 * 0 + _ ≤ _; exact Nat.le_of_eq rfl) (hb hby d1_58) (fun _ _ => ⟨rfl, e45, (by decide : 1 + 0 ≤ _), (by decide : 8 + 0 ≤ _)⟩)
  dsimp only [Pt.U, Pt.locs, Pt.cells, Pt.slots] at X54 l54 y54 z54 st54 hQ54
  subst l54 y54 z54
  obtain ⟨rfl, N54q, e54⟩ := hQ54
  have N54 := Fr.app N45 N54q
  have c55 : ∀ t, Steps p.tables e below (T54.setTop (mkF m 61 #[.val (.ref r0), .val (.ref r1), .val (.int (3 : Int32)), .val (.int (1 : Int32)), .val (.int (Int32.ofNat (own_free (List.replicate 8 0) 8 8 (own_sN (61 : Int32) x0))))] [(.int (own_slot (61 : Int32) x1))])) t → Steps p.tables e below (T54.setTop (mkF m 61 #[.val (.ref r0), .val (.ref r1), .val (.int (3 : Int32)), .val (.int ((0 : Int32) + (1 : Int32))), .val (.int (Int32.ofNat (own_free (List.replicate 8 0) 8 8 (own_sN (61 : Int32) x0))))] [(.int (own_slot (61 : Int32) x1))])) t := fun t kt => castTop (congrArg (fun z => (mkF m 61 #[.val (.ref r0), .val (.ref r1), .val (.int (3 : Int32)), .val (.int z), .val (.int (Int32.ofNat (own_free (List.replicate 8 0) 8 8 (own_sN (61 : Int32) x0))))] [(.int (own_slot (61 : Int32) x1))])) (show ((0 : Int32) + (1 : Int32)) = (1 : Int32) from by decide)) kt
  have hsl56 := own_slotv (61 : Int32) x1 0 8 (by decide)
  have c57 : ∀ t, Steps p.tables e below (T54.setTop (mkF m 61 #[.val (.ref r0), .val (.ref r1), .val (.int (3 : Int32)), .val (.int (1 : Int32)), .val (.int (Int32.ofNat (own_free (List.replicate 8 0) 8 8 (own_sN (61 : Int32) x0))))] [(.int (Int32.ofNat (own_sN (61 : Int32) x1)))])) t → Steps p.tables e below (T54.setTop (mkF m 61 #[.val (.ref r0), .val (.ref r1), .val (.int (3 : Int32)), .val (.int (1 : Int32)), .val (.int (Int32.ofNat (own_free (List.replicate 8 0) 8 8 (own_sN (61 : Int32) x0))))] [(.int (own_slot (61 : Int32) x1))])) t := fun t kt => castTop (congrArg (fun z => (mkF m 61 #[.val (.ref r0), .val (.ref r1), .val (.int (3 : Int32)), .val (.int (1 : Int32)), .val (.int (Int32.ofNat (own_free (List.replicate 8 0) 8 8 (own_sN (61 : Int32) x0))))] [(.int z)])) (show (own_slot (61 : Int32) x1) = (Int32.ofNat (own_sN (61 : Int32) x1)) from hsl56.1)) kt
  have c58 : ∀ t, Steps p.tables e below (T54.setTop (mkF m 63 #[.val (.ref r0), .val (.ref r1), .val (.int (3 : Int32)), .val (.int (1 : Int32)), .val (.int (Int32.ofNat (own_sN (61 : Int32) x1)))] [])) t → Steps p.tables e below (T54.setTop (mkF m 61 #[.val (.ref r0), .val (.ref r1), .val (.int (3 : Int32)), .val (.int (1 : Int32)), .val (.int (Int32.ofNat (own_free (List.replicate 8 0) 8 8 (own_sN (61 : Int32) x0))))] [(.int (Int32.ofNat (own_sN (61 : Int32) x1)))])) t := by
    intro t kt
    show Steps p.tables e below (T54.setTop (mkF m 61 #[.val (.ref r0), .val (.ref r1), .val (.int (3 : Int32)), .val (.int (1 : Int32)), .val (.int (Int32.ofNat (own_free (List.replicate 8 0) 8 8 (own_sN (61 : Int32) x0))))] [(.int (Int32.ofNat (own_sN (61 : Int32) x1)))])) _
    refine XS.istore X54.here hx rfl (hb hby d1_61) rfl (l' := #[.val (.ref r0), .val (.ref r1), .val (.int (3 : Int32)), .val (.int (1 : Int32)), .val (.int (Int32.ofNat (own_sN (61 : Int32) x1)))]) rfl ?_
    exact kt
  have f60 := (f38.other W45 (Or.inl (Nat.ne_of_lt (Nat.lt_of_lt_of_le lt_r0_16 (Nat.le_of_eq g16.symm)))))
  have hok59 : own_ok (own_ins (List.replicate 8 0) 8 (own_sN (61 : Int32) x0) 1) 8 1 := own_mk _ _ _ (own_c3a _ hsl34.2).1 (own_c3a _ hsl34.2).2.1 (own_c3a _ hsl34.2).2.2
  have hend59 := hok59.2.2 (own_sN (61 : Int32) x1) hsl56.2
  have VT59 : Arv Z h45 b16 k16 .int (Int32.ofNat 8) (own_tv (own_ins (List.replicate 8 0) 8 (own_sN (61 : Int32) x0) 1)) (.int (0 : Int32)) := V45
  obtain ⟨T59, L59, X59, e59, N59, st59⟩ := lfree r0 r1 (3 : Int32) (1 : Int32) b16 k16 8 (own_ins (List.replicate 8 0) 8 (own_sN (61 : Int32) x0) 1) hx hZ hw hby hml hown N54 f50 f60 VT59 (by decide) hok59.1 (fun i => Nat.le_trans (hok59.2.1 i) (by decide)) 8 (own_sN (61 : Int32) x1) hsl56.2 hend59.1 T54 X54 e54
  have c62 : ∀ t, Steps p.tables e below (T59.setTop (mkF m 91 #[.val (.ref r0), .val (.ref r1), .val (.int (3 : Int32)), .val (.int (1 : Int32)), .val (.int (Int32.ofNat (own_free (own_ins (List.replicate 8 0) 8 (own_sN (61 : Int32) x0) 1) 8 8 (own_sN (61 : Int32) x1))))] [(.ref r0)])) t → Steps p.tables e below (T59.setTop (mkF m 90 #[.val (.ref r0), .val (.ref r1), .val (.int (3 : Int32)), .val (.int (1 : Int32)), .val (.int (Int32.ofNat (own_free (own_ins (List.replicate 8 0) 8 (own_sN (61 : Int32) x0) 1) 8 8 (own_sN (61 : Int32) x1))))] [])) t := by
    intro t kt
    show Steps p.tables e below (T59.setTop (mkF m 90 #[.val (.ref r0), .val (.ref r1), .val (.int (3 : Int32)), .val (.int (1 : Int32)), .val (.int (Int32.ofNat (own_free (own_ins (List.replicate 8 0) 8 (own_sN (61 : Int32) x0) 1) 8 8 (own_sN (61 : Int32) x1))))] [])) _
    refine XS.aloadN X59.here hx rfl (hb hby d1_90) rfl rfl ?_
    exact kt
  obtain ⟨T61, X61, e61, st61⟩ := getF X59 hx hZ hown (host := "") (Or.inl (hw _ (List.mem_of_getElem? (i := 27) rfl))) Via.refl e59 f60 (g := (mkF m 91 #[.val (.ref r0), .val (.ref r1), .val (.int (3 : Int32)), .val (.int (1 : Int32)), .val (.int (Int32.ofNat (own_free (own_ins (List.replicate 8 0) 8 (own_sN (61 : Int32) x0) 1) 8 8 (own_sN (61 : Int32) x1))))] [(.ref r0)])) rfl rfl (hb hby d1_91)
  have c63 : ∀ t, Steps p.tables e below (T61.setTop (mkF m 99 #[.val (.ref r0), .val (.ref r1), .val (.int (3 : Int32)), .val (.int (1 : Int32)), .val (.int (Int32.ofNat (own_free (own_ins (List.replicate 8 0) 8 (own_sN (61 : Int32) x0) 1) 8 8 (own_sN (61 : Int32) x1))))] [(.int ((1 : Int32) + (1 : Int32))), (.int (Int32.ofNat (own_free (own_ins (List.replicate 8 0) 8 (own_sN (61 : Int32) x0) 1) 8 8 (own_sN (61 : Int32) x1)))), (.ref b16)])) t → Steps p.tables e below (T61.setTop (mkF m 94 #[.val (.ref r0), .val (.ref r1), .val (.int (3 : Int32)), .val (.int (1 : Int32)), .val (.int (Int32.ofNat (own_free (own_ins (List.replicate 8 0) 8 (own_sN (61 : Int32) x0) 1) 8 8 (own_sN (61 : Int32) x1))))] [(.ref b16)])) t := by
    intro t kt
    show Steps p.tables e below (T61.setTop (mkF m 94 #[.val (.ref r0), .val (.ref r1), .val (.int (3 : Int32)), .val (.int (1 : Int32)), .val (.int (Int32.ofNat (own_free (own_ins (List.replicate 8 0) 8 (own_sN (61 : Int32) x0) 1) 8 8 (own_sN (61 : Int32) x1))))] [(.ref b16)])) _
    refine XS.iload X61.here hx rfl (hb hby d1_94) rfl ?_
    show Steps p.tables e below (T61.setTop (mkF m 96 #[.val (.ref r0), .val (.ref r1), .val (.int (3 : Int32)), .val (.int (1 : Int32)), .val (.int (Int32.ofNat (own_free (own_ins (List.replicate 8 0) 8 (own_sN (61 : Int32) x0) 1) 8 8 (own_sN (61 : Int32) x1))))] [(.int (Int32.ofNat (own_free (own_ins (List.replicate 8 0) 8 (own_sN (61 : Int32) x0) 1) 8 8 (own_sN (61 : Int32) x1)))), (.ref b16)])) _
    refine XS.iloadN X61.here hx rfl (hb hby d1_96) rfl ?_
    show Steps p.tables e below (T61.setTop (mkF m 97 #[.val (.ref r0), .val (.ref r1), .val (.int (3 : Int32)), .val (.int (1 : Int32)), .val (.int (Int32.ofNat (own_free (own_ins (List.replicate 8 0) 8 (own_sN (61 : Int32) x0) 1) 8 8 (own_sN (61 : Int32) x1))))] [(.int (1 : Int32)), (.int (Int32.ofNat (own_free (own_ins (List.replicate 8 0) 8 (own_sN (61 : Int32) x0) 1) 8 8 (own_sN (61 : Int32) x1)))), (.ref b16)])) _
    refine XS.iconst X61.here hx rfl (hb hby d1_97) ?_
    show Steps p.tables e below (T61.setTop (mkF m 98 #[.val (.ref r0), .val (.ref r1), .val (.int (3 : Int32)), .val (.int (1 : Int32)), .val (.int (Int32.ofNat (own_free (own_ins (List.replicate 8 0) 8 (own_sN (61 : Int32) x0) 1) 8 8 (own_sN (61 : Int32) x1))))] [(.int (1 : Int32)), (.int (1 : Int32)), (.int (Int32.ofNat (own_free (own_ins (List.replicate 8 0) 8 (own_sN (61 : Int32) x0) 1) 8 8 (own_sN (61 : Int32) x1)))), (.ref b16)])) _
    refine XS.iadd X61.here hx rfl (hb hby d1_98) rfl ?_
    exact kt
  have c64 : ∀ t, Steps p.tables e below (T61.setTop (mkF m 99 #[.val (.ref r0), .val (.ref r1), .val (.int (3 : Int32)), .val (.int (1 : Int32)), .val (.int (Int32.ofNat (own_free (own_ins (List.replicate 8 0) 8 (own_sN (61 : Int32) x0) 1) 8 8 (own_sN (61 : Int32) x1))))] [(.int (2 : Int32)), (.int (Int32.ofNat (own_free (own_ins (List.replicate 8 0) 8 (own_sN (61 : Int32) x0) 1) 8 8 (own_sN (61 : Int32) x1)))), (.ref b16)])) t → Steps p.tables e below (T61.setTop (mkF m 99 #[.val (.ref r0), .val (.ref r1), .val (.int (3 : Int32)), .val (.int (1 : Int32)), .val (.int (Int32.ofNat (own_free (own_ins (List.replicate 8 0) 8 (own_sN (61 : Int32) x0) 1) 8 8 (own_sN (61 : Int32) x1))))] [(.int ((1 : Int32) + (1 : Int32))), (.int (Int32.ofNat (own_free (own_ins (List.replicate 8 0) 8 (own_sN (61 : Int32) x0) 1) 8 8 (own_sN (61 : Int32) x1)))), (.ref b16)])) t := fun t kt => castTop (congrArg (fun z => (mkF m 99 #[.val (.ref r0), .val (.ref r1), .val (.int (3 : Int32)), .val (.int (1 : Int32)), .val (.int (Int32.ofNat (own_free (own_ins (List.replicate 8 0) 8 (own_sN (61 : Int32) x0) 1) 8 8 (own_sN (61 : Int32) x1))))] [(.int z), (.int (Int32.ofNat (own_free (own_ins (List.replicate 8 0) 8 (own_sN (61 : Int32) x0) 1) 8 8 (own_sN (61 : Int32) x1)))), (.ref b16)])) (show ((1 : Int32) + (1 : Int32)) = (2 : Int32) from by decide)) kt
  have Vc65 := VT59
  obtain ⟨cl65, Ar65, qk65, S65, M65, H65, G65⟩ := Vc65
  have hin65 : ¬ ((Int32.ofNat (own_free (own_ins (List.replicate 8 0) 8 (own_sN (61 : Int32) x0) 1) 8 8 (own_sN (61 : Int32) x1))) < 0 ∨ cl65.slots.size ≤ ((Int32.ofNat (own_free (own_ins (List.replicate 8 0) 8 (own_sN (61 : Int32) x0) 1) 8 8 (own_sN (61 : Int32) x1)))).toNatClampNeg) := inb_of S65 (own_in _ 8 hend59.2 (by decide))
  obtain ⟨T66, h66, X66, e66, W66, st66⟩ := stI X61 hx hZ e61 Ar65 (j := (Int32.ofNat (own_free (own_ins (List.replicate 8 0) 8 (own_sN (61 : Int32) x0) 1) 8 8 (own_sN (61 : Int32) x1)))) hin65 (g := (mkF m 99 #[.val (.ref r0), .val (.ref r1), .val (.int (3 : Int32)), .val (.int (1 : Int32)), .val (.int (Int32.ofNat (own_free (own_ins (List.replicate 8 0) 8 (own_sN (61 : Int32) x0) 1) 8 8 (own_sN (61 : Int32) x1))))] [(.int (2 : Int32)), (.int (Int32.ofNat (own_free (own_ins (List.replicate 8 0) 8 (own_sN (61 : Int32) x0) 1) 8 8 (own_sN (61 : Int32) x1)))), (.ref b16)])) rfl rfl (hb hby d1_99)
  have V66 : Arv Z h66 b16 k16 .int (Int32.ofNat 8) (own_tv (own_ins (own_ins (List.replicate 8 0) 8 (own_sN (61 : Int32) x0) 1) 8 (own_sN (61 : Int32) x1) 2)) (.int (0 : Int32)) := by have q := Arv.set Ar65 qk65 S65 M65 H65 G65 rfl W66 (own_free (own_ins (List.replicate 8 0) 8 (own_sN (61 : Int32) x0) 1) 8 8 (own_sN (61 : Int32) x1)) (own_clamp _ (Nat.lt_trans hend59.2 (by decide))) (by simp only [own_tv, List.length_map]; rw [hok59.1]; exact hend59.2); rw [show (own_tv (own_ins (List.replicate 8 0) 8 (own_sN (61 : Int32) x0) 1)).set (own_free (own_ins (List.replicate 8 0) 8 (own_sN (61 : Int32) x0) 1) 8 8 (own_sN (61 : Int32) x1)) (.int (2 : Int32)) = own_tv (own_ins (own_ins (List.replicate 8 0) 8 (own_sN (61 : Int32) x0) 1) 8 (own_sN (61 : Int32) x1) 2) from own_tvset _ _ 2] at q; exact q
  have N66 := Fr.snoc X66 N59 g_b16
  have f67 := (f46.other W66 (Nat.ne_of_lt (Nat.lt_of_lt_of_le lt_r1_16 (Nat.le_of_eq g16.symm))))
  have Vc68 := f67
  obtain ⟨cl68, Ar68, qk68, S68, M68, H68, G68⟩ := Vc68
  have Vc69 := f67
  obtain ⟨cl69, Ar69, qk69, S69, M69, H69, G69⟩ := Vc69
  have hin69 : ¬ (((1 : Int32) + (1 : Int32)) < 0 ∨ cl69.slots.size ≤ (((1 : Int32) + (1 : Int32))).toNatClampNeg) := inb_of S69 ⟨by decide, by decide⟩
  have hat69 : cl69.slots[(((1 : Int32) + (1 : Int32))).toNatClampNeg]? = some (.long x2) := H69.at hin69 rfl
  have c70 : ∀ t, Steps p.tables e below (T66.setTop (mkF m 58 #[.val (.ref r0), .val (.ref r1), .val (.int (3 : Int32)), .val (.int ((1 : Int32) + (1 : Int32))), .val (.int (Int32.ofNat (own_free (own_ins (List.replicate 8 0) 8 (own_sN (61 : Int32) x0) 1) 8 8 (own_sN (61 : Int32) x1))))] [(.long x2), (.ref r0)])) t → Steps p.tables e below (T66.setTop (mkF m 100 #[.val (.ref r0), .val (.ref r1), .val (.int (3 : Int32)), .val (.int (1 : Int32)), .val (.int (Int32.ofNat (own_free (own_ins (List.replicate 8 0) 8 (own_sN (61 : Int32) x0) 1) 8 8 (own_sN (61 : Int32) x1))))] [])) t := by
    intro t kt
    show Steps p.tables e below (T66.setTop (mkF m 100 #[.val (.ref r0), .val (.ref r1), .val (.int (3 : Int32)), .val (.int (1 : Int32)), .val (.int (Int32.ofNat (own_free (own_ins (List.replicate 8 0) 8 (own_sN (61 : Int32) x0) 1) 8 8 (own_sN (61 : Int32) x1))))] [])) _
    refine XS.iinc X66.here hx rfl (hb hby d1_100) rfl (l' := #[.val (.ref r0), .val (.ref r1), .val (.int (3 : Int32)), .val (.int ((1 : Int32) + (1 : Int32))), .val (.int (Int32.ofNat (own_free (own_ins (List.replicate 8 0) 8 (own_sN (61 : Int32) x0) 1) 8 8 (own_sN (61 : Int32) x1))))]) rfl ?_
    show Steps p.tables e below (T66.setTop (mkF m 103 #[.val (.ref r0), .val (.ref r1), .val (.int (3 : Int32)), .val (.int ((1 : Int32) + (1 : Int32))), .val (.int (Int32.ofNat (own_free (own_ins (List.replicate 8 0) 8 (own_sN (61 : Int32) x0) 1) 8 8 (own_sN (61 : Int32) x1))))] [])) _
    refine XS.goto X66.here hx rfl (pc0 := 103) (pc' := 48) rfl (hb hby d1_103) (by decide) (by decide) ?_
    show Steps p.tables e below (T66.setTop (mkF m 48 #[.val (.ref r0), .val (.ref r1), .val (.int (3 : Int32)), .val (.int ((1 : Int32) + (1 : Int32))), .val (.int (Int32.ofNat (own_free (own_ins (List.replicate 8 0) 8 (own_sN (61 : Int32) x0) 1) 8 8 (own_sN (61 : Int32) x1))))] [])) _
    refine XS.iloadN X66.here hx rfl (hb hby d1_48) rfl ?_
    show Steps p.tables e below (T66.setTop (mkF m 49 #[.val (.ref r0), .val (.ref r1), .val (.int (3 : Int32)), .val (.int ((1 : Int32) + (1 : Int32))), .val (.int (Int32.ofNat (own_free (own_ins (List.replicate 8 0) 8 (own_sN (61 : Int32) x0) 1) 8 8 (own_sN (61 : Int32) x1))))] [(.int ((1 : Int32) + (1 : Int32)))])) _
    refine XS.aloadN X66.here hx rfl (hb hby d1_49) rfl rfl ?_
    show Steps p.tables e below (T66.setTop (mkF m 50 #[.val (.ref r0), .val (.ref r1), .val (.int (3 : Int32)), .val (.int ((1 : Int32) + (1 : Int32))), .val (.int (Int32.ofNat (own_free (own_ins (List.replicate 8 0) 8 (own_sN (61 : Int32) x0) 1) 8 8 (own_sN (61 : Int32) x1))))] [(.ref r1), (.int ((1 : Int32) + (1 : Int32)))])) _
    refine X66.arraylength hx (by rw [e66]; exact Ar68.1) (State.isArrayOf_alike hZ.alike Ar68.2.1) (g := (mkF m 50 #[.val (.ref r0), .val (.ref r1), .val (.int (3 : Int32)), .val (.int ((1 : Int32) + (1 : Int32))), .val (.int (Int32.ofNat (own_free (own_ins (List.replicate 8 0) 8 (own_sN (61 : Int32) x0) 1) 8 8 (own_sN (61 : Int32) x1))))] [(.ref r1), (.int ((1 : Int32) + (1 : Int32)))])) rfl rfl (hb hby d1_50) _ ?_
    rw [len_of S68 M68]
    show Steps p.tables e below (T66.setTop (mkF m 51 #[.val (.ref r0), .val (.ref r1), .val (.int (3 : Int32)), .val (.int ((1 : Int32) + (1 : Int32))), .val (.int (Int32.ofNat (own_free (own_ins (List.replicate 8 0) 8 (own_sN (61 : Int32) x0) 1) 8 8 (own_sN (61 : Int32) x1))))] [(.int (3 : Int32)), (.int ((1 : Int32) + (1 : Int32)))])) _
    refine XS.icmpNo X66.here hx rfl (hb hby d1_51) rfl (tlt (by decide : ((1 : Int32) + (1 : Int32)) < (3 : Int32))).2.1 ?_
    show Steps p.tables e below (T66.setTop (mkF m 54 #[.val (.ref r0), .val (.ref r1), .val (.int (3 : Int32)), .val (.int ((1 : Int32) + (1 : Int32))), .val (.int (Int32.ofNat (own_free (own_ins (List.replicate 8 0) 8 (own_sN (61 : Int32) x0) 1) 8 8 (own_sN (61 : Int32) x1))))] [])) _
    refine XS.aloadN X66.here hx rfl (hb hby d1_54) rfl rfl ?_
    show Steps p.tables e below (T66.setTop (mkF m 55 #[.val (.ref r0), .val (.ref r1), .val (.int (3 : Int32)), .val (.int ((1 : Int32) + (1 : Int32))), .val (.int (Int32.ofNat (own_free (own_ins (List.replicate 8 0) 8 (own_sN (61 : Int32) x0) 1) 8 8 (own_sN (61 : Int32) x1))))] [(.ref r0)])) _
    refine XS.aloadN X66.here hx rfl (hb hby d1_55) rfl rfl ?_
    show Steps p.tables e below (T66.setTop (mkF m 56 #[.val (.ref r0), .val (.ref r1), .val (.int (3 : Int32)), .val (.int ((1 : Int32) + (1 : Int32))), .val (.int (Int32.ofNat (own_free (own_ins (List.replicate 8 0) 8 (own_sN (61 : Int32) x0) 1) 8 8 (own_sN (61 : Int32) x1))))] [(.ref r1), (.ref r0)])) _
    refine XS.iloadN X66.here hx rfl (hb hby d1_56) rfl ?_
    show Steps p.tables e below (T66.setTop (mkF m 57 #[.val (.ref r0), .val (.ref r1), .val (.int (3 : Int32)), .val (.int ((1 : Int32) + (1 : Int32))), .val (.int (Int32.ofNat (own_free (own_ins (List.replicate 8 0) 8 (own_sN (61 : Int32) x0) 1) 8 8 (own_sN (61 : Int32) x1))))] [(.int ((1 : Int32) + (1 : Int32))), (.ref r1), (.ref r0)])) _
    refine X66.laload hx (j := ((1 : Int32) + (1 : Int32))) (v := (.long x2)) (by rw [e66]; exact Ar69.1) (State.isArrayOf_alike hZ.alike Ar69.2.1) Ar69.2.2 hin69 hat69 (g := (mkF m 57 #[.val (.ref r0), .val (.ref r1), .val (.int (3 : Int32)), .val (.int ((1 : Int32) + (1 : Int32))), .val (.int (Int32.ofNat (own_free (own_ins (List.replicate 8 0) 8 (own_sN (61 : Int32) x0) 1) 8 8 (own_sN (61 : Int32) x1))))] [(.int ((1 : Int32) + (1 : Int32))), (.ref r1), (.ref r0)])) rfl rfl (hb hby d1_57) _ ?_
    exact kt
  have f71 := (Nat.le_trans f50 (Keep.of_wr W66).1)
  have f72 := (f51.other W66 (Or.inl (Nat.ne_of_lt (Nat.lt_of_lt_of_le lt_r0_16 (Nat.le_of_eq g16.symm)))))
  have f73 := (f52.wr W66)
  obtain ⟨cq74, rq74, rq74'⟩ := f73.cell
  obtain ⟨_, _, ⟨T75, L75, k75, n75⟩, -, X75, ⟨Lc75, hQ75, l75, y75, z75⟩, st75⟩ := X66.privateBack hx (y := (⟨"com/example/mapstone/mapstone/engine/ConceptIndex", "slot", "(J)I"⟩ : MethodName)) hown (mvT hZ (hw _ (List.mem_of_getElem? (i := 31) rfl))) (mvT hZ (hw _ (List.mem_of_getElem? (i := 32) rfl))) (own_selp (y := (⟨"com/example/mapstone/mapstone/engine/ConceptIndex", "slot", "(J)I"⟩ : MethodName)) (z := (⟨"com/example/mapstone/mapstone/engine/ConceptIndex", "place", "(J)I"⟩ : MethodName)) (mvT hZ (hw _ (List.mem_of_getElem? (i := 39) rfl))) rfl (Cond.privateMethod_at (mvP hZ (hw _ (List.mem_of_getElem? (i := 33) rfl)) (args := #[]))) (mvT hZ (hw _ (List.mem_of_getElem? (i := 32) rfl))) (by decide)) (Cond.privateMethod_at (mvP hZ (hw _ (List.mem_of_getElem? (i := 33) rfl)) (args := #[]))) (mvT hZ (hw _ (List.mem_of_getElem? (i := 34) rfl))) (by decide) (backOf (W := 0) (rm6 l Z a0 hw [] r0 x2 (61 : Int32) h66 n0 f71 f72) hZ (hw _ (List.mem_of_getElem? (i := 34) rfl)) (hw _ (List.mem_of_getElem? (i := 3) rfl)) (by decide) (by decide)) (g := (mkF m 58 #[.val (.ref r0), .val (.ref r1), .val (.int (3 : Int32)), .val (.int ((1 : Int32) + (1 : Int32))), .val (.int (Int32.ofNat (own_free (own_ins (List.replicate 8 0) 8 (own_sN (61 : Int32) x0) 1) 8 8 (own_sN (61 : Int32) x1))))] [(.long x2), (.ref r0)])) rfl (by rw [hml]; rfl) (Steps.refl _) (a := r0) (by rw [e66]; exact rq74) rq74' (argsL := [(.long x2)]) (rest := []) (lenOf pd_2 rfl) rfl (by show 2 * 0 + _ ≤ _; exact Nat.le_of_eq rfl) (hb hby d1_58) (fun _ _ => ⟨rfl, e66, (by decide : 1 + 0 ≤ _), (by decide : 8 + 0 ≤ _)⟩)
  dsimp only [Pt.U, Pt.locs, Pt.cells, Pt.slots] at X75 l75 y75 z75 st75 hQ75
  subst l75 y75 z75
  obtain ⟨rfl, N75q, e75⟩ := hQ75
  have N75 := Fr.app N66 N75q
  have c76 : ∀ t, Steps p.tables e below (T75.setTop (mkF m 61 #[.val (.ref r0), .val (.ref r1), .val (.int (3 : Int32)), .val (.int (2 : Int32)), .val (.int (Int32.ofNat (own_free (own_ins (List.replicate 8 0) 8 (own_sN (61 : Int32) x0) 1) 8 8 (own_sN (61 : Int32) x1))))] [(.int (own_slot (61 : Int32) x2))])) t → Steps p.tables e below (T75.setTop (mkF m 61 #[.val (.ref r0), .val (.ref r1), .val (.int (3 : Int32)), .val (.int ((1 : Int32) + (1 : Int32))), .val (.int (Int32.ofNat (own_free (own_ins (List.replicate 8 0) 8 (own_sN (61 : Int32) x0) 1) 8 8 (own_sN (61 : Int32) x1))))] [(.int (own_slot (61 : Int32) x2))])) t := fun t kt => castTop (congrArg (fun z => (mkF m 61 #[.val (.ref r0), .val (.ref r1), .val (.int (3 : Int32)), .val (.int z), .val (.int (Int32.ofNat (own_free (own_ins (List.replicate 8 0) 8 (own_sN (61 : Int32) x0) 1) 8 8 (own_sN (61 : Int32) x1))))] [(.int (own_slot (61 : Int32) x2))])) (show ((1 : Int32) + (1 : Int32)) = (2 : Int32) from by decide)) kt
  have hsl77 := own_slotv (61 : Int32) x2 0 8 (by decide)
  have c78 : ∀ t, Steps p.tables e below (T75.setTop (mkF m 61 #[.val (.ref r0), .val (.ref r1), .val (.int (3 : Int32)), .val (.int (2 : Int32)), .val (.int (Int32.ofNat (own_free (own_ins (List.replicate 8 0) 8 (own_sN (61 : Int32) x0) 1) 8 8 (own_sN (61 : Int32) x1))))] [(.int (Int32.ofNat (own_sN (61 : Int32) x2)))])) t → Steps p.tables e below (T75.setTop (mkF m 61 #[.val (.ref r0), .val (.ref r1), .val (.int (3 : Int32)), .val (.int (2 : Int32)), .val (.int (Int32.ofNat (own_free (own_ins (List.replicate 8 0) 8 (own_sN (61 : Int32) x0) 1) 8 8 (own_sN (61 : Int32) x1))))] [(.int (own_slot (61 : Int32) x2))])) t := fun t kt => castTop (congrArg (fun z => (mkF m 61 #[.val (.ref r0), .val (.ref r1), .val (.int (3 : Int32)), .val (.int (2 : Int32)), .val (.int (Int32.ofNat (own_free (own_ins (List.replicate 8 0) 8 (own_sN (61 : Int32) x0) 1) 8 8 (own_sN (61 : Int32) x1))))] [(.int z)])) (show (own_slot (61 : Int32) x2) = (Int32.ofNat (own_sN (61 : Int32) x2)) from hsl77.1)) kt
  have c79 : ∀ t, Steps p.tables e below (T75.setTop (mkF m 63 #[.val (.ref r0), .val (.ref r1), .val (.int (3 : Int32)), .val (.int (2 : Int32)), .val (.int (Int32.ofNat (own_sN (61 : Int32) x2)))] [])) t → Steps p.tables e below (T75.setTop (mkF m 61 #[.val (.ref r0), .val (.ref r1), .val (.int (3 : Int32)), .val (.int (2 : Int32)), .val (.int (Int32.ofNat (own_free (own_ins (List.replicate 8 0) 8 (own_sN (61 : Int32) x0) 1) 8 8 (own_sN (61 : Int32) x1))))] [(.int (Int32.ofNat (own_sN (61 : Int32) x2)))])) t := by
    intro t kt
    show Steps p.tables e below (T75.setTop (mkF m 61 #[.val (.ref r0), .val (.ref r1), .val (.int (3 : Int32)), .val (.int (2 : Int32)), .val (.int (Int32.ofNat (own_free (own_ins (List.replicate 8 0) 8 (own_sN (61 : Int32) x0) 1) 8 8 (own_sN (61 : Int32) x1))))] [(.int (Int32.ofNat (own_sN (61 : Int32) x2)))])) _
    refine XS.istore X75.here hx rfl (hb hby d1_61) rfl (l' := #[.val (.ref r0), .val (.ref r1), .val (.int (3 : Int32)), .val (.int (2 : Int32)), .val (.int (Int32.ofNat (own_sN (61 : Int32) x2)))]) rfl ?_
    exact kt
  have f81 := (f60.other W66 (Or.inl (Nat.ne_of_lt (Nat.lt_of_lt_of_le lt_r0_16 (Nat.le_of_eq g16.symm)))))
  have hok80 : own_ok (own_ins (own_ins (List.replicate 8 0) 8 (own_sN (61 : Int32) x0) 1) 8 (own_sN (61 : Int32) x1) 2) 8 2 := own_mk _ _ _ (own_c3b _ hsl34.2 _ hsl56.2).1 (own_c3b _ hsl34.2 _ hsl56.2).2.1 (own_c3b _ hsl34.2 _ hsl56.2).2.2
  have hend80 := hok80.2.2 (own_sN (61 : Int32) x2) hsl77.2
  have VT80 : Arv Z h66 b16 k16 .int (Int32.ofNat 8) (own_tv (own_ins (own_ins (List.replicate 8 0) 8 (own_sN (61 : Int32) x0) 1) 8 (own_sN (61 : Int32) x1) 2)) (.int (0 : Int32)) := V66
  obtain ⟨T80, L80, X80, e80, N80, st80⟩ := lfree r0 r1 (3 : Int32) (2 : Int32) b16 k16 8 (own_ins (own_ins (List.replicate 8 0) 8 (own_sN (61 : Int32) x0) 1) 8 (own_sN (61 : Int32) x1) 2) hx hZ hw hby hml hown N75 f71 f81 VT80 (by decide) hok80.1 (fun i => Nat.le_trans (hok80.2.1 i) (by decide)) 8 (own_sN (61 : Int32) x2) hsl77.2 hend80.1 T75 X75 e75
  have c83 : ∀ t, Steps p.tables e below (T80.setTop (mkF m 91 #[.val (.ref r0), .val (.ref r1), .val (.int (3 : Int32)), .val (.int (2 : Int32)), .val (.int (Int32.ofNat (own_free (own_ins (own_ins (List.replicate 8 0) 8 (own_sN (61 : Int32) x0) 1) 8 (own_sN (61 : Int32) x1) 2) 8 8 (own_sN (61 : Int32) x2))))] [(.ref r0)])) t → Steps p.tables e below (T80.setTop (mkF m 90 #[.val (.ref r0), .val (.ref r1), .val (.int (3 : Int32)), .val (.int (2 : Int32)), .val (.int (Int32.ofNat (own_free (own_ins (own_ins (List.replicate 8 0) 8 (own_sN (61 : Int32) x0) 1) 8 (own_sN (61 : Int32) x1) 2) 8 8 (own_sN (61 : Int32) x2))))] [])) t := by
    intro t kt
    show Steps p.tables e below (T80.setTop (mkF m 90 #[.val (.ref r0), .val (.ref r1), .val (.int (3 : Int32)), .val (.int (2 : Int32)), .val (.int (Int32.ofNat (own_free (own_ins (own_ins (List.replicate 8 0) 8 (own_sN (61 : Int32) x0) 1) 8 (own_sN (61 : Int32) x1) 2) 8 8 (own_sN (61 : Int32) x2))))] [])) _
    refine XS.aloadN X80.here hx rfl (hb hby d1_90) rfl rfl ?_
    exact kt
  obtain ⟨T82, X82, e82, st82⟩ := getF X80 hx hZ hown (host := "") (Or.inl (hw _ (List.mem_of_getElem? (i := 27) rfl))) Via.refl e80 f81 (g := (mkF m 91 #[.val (.ref r0), .val (.ref r1), .val (.int (3 : Int32)), .val (.int (2 : Int32)), .val (.int (Int32.ofNat (own_free (own_ins (own_ins (List.replicate 8 0) 8 (own_sN (61 : Int32) x0) 1) 8 (own_sN (61 : Int32) x1) 2) 8 8 (own_sN (61 : Int32) x2))))] [(.ref r0)])) rfl rfl (hb hby d1_91)
  have c84 : ∀ t, Steps p.tables e below (T82.setTop (mkF m 99 #[.val (.ref r0), .val (.ref r1), .val (.int (3 : Int32)), .val (.int (2 : Int32)), .val (.int (Int32.ofNat (own_free (own_ins (own_ins (List.replicate 8 0) 8 (own_sN (61 : Int32) x0) 1) 8 (own_sN (61 : Int32) x1) 2) 8 8 (own_sN (61 : Int32) x2))))] [(.int ((2 : Int32) + (1 : Int32))), (.int (Int32.ofNat (own_free (own_ins (own_ins (List.replicate 8 0) 8 (own_sN (61 : Int32) x0) 1) 8 (own_sN (61 : Int32) x1) 2) 8 8 (own_sN (61 : Int32) x2)))), (.ref b16)])) t → Steps p.tables e below (T82.setTop (mkF m 94 #[.val (.ref r0), .val (.ref r1), .val (.int (3 : Int32)), .val (.int (2 : Int32)), .val (.int (Int32.ofNat (own_free (own_ins (own_ins (List.replicate 8 0) 8 (own_sN (61 : Int32) x0) 1) 8 (own_sN (61 : Int32) x1) 2) 8 8 (own_sN (61 : Int32) x2))))] [(.ref b16)])) t := by
    intro t kt
    show Steps p.tables e below (T82.setTop (mkF m 94 #[.val (.ref r0), .val (.ref r1), .val (.int (3 : Int32)), .val (.int (2 : Int32)), .val (.int (Int32.ofNat (own_free (own_ins (own_ins (List.replicate 8 0) 8 (own_sN (61 : Int32) x0) 1) 8 (own_sN (61 : Int32) x1) 2) 8 8 (own_sN (61 : Int32) x2))))] [(.ref b16)])) _
    refine XS.iload X82.here hx rfl (hb hby d1_94) rfl ?_
    show Steps p.tables e below (T82.setTop (mkF m 96 #[.val (.ref r0), .val (.ref r1), .val (.int (3 : Int32)), .val (.int (2 : Int32)), .val (.int (Int32.ofNat (own_free (own_ins (own_ins (List.replicate 8 0) 8 (own_sN (61 : Int32) x0) 1) 8 (own_sN (61 : Int32) x1) 2) 8 8 (own_sN (61 : Int32) x2))))] [(.int (Int32.ofNat (own_free (own_ins (own_ins (List.replicate 8 0) 8 (own_sN (61 : Int32) x0) 1) 8 (own_sN (61 : Int32) x1) 2) 8 8 (own_sN (61 : Int32) x2)))), (.ref b16)])) _
    refine XS.iloadN X82.here hx rfl (hb hby d1_96) rfl ?_
    show Steps p.tables e below (T82.setTop (mkF m 97 #[.val (.ref r0), .val (.ref r1), .val (.int (3 : Int32)), .val (.int (2 : Int32)), .val (.int (Int32.ofNat (own_free (own_ins (own_ins (List.replicate 8 0) 8 (own_sN (61 : Int32) x0) 1) 8 (own_sN (61 : Int32) x1) 2) 8 8 (own_sN (61 : Int32) x2))))] [(.int (2 : Int32)), (.int (Int32.ofNat (own_free (own_ins (own_ins (List.replicate 8 0) 8 (own_sN (61 : Int32) x0) 1) 8 (own_sN (61 : Int32) x1) 2) 8 8 (own_sN (61 : Int32) x2)))), (.ref b16)])) _
    refine XS.iconst X82.here hx rfl (hb hby d1_97) ?_
    show Steps p.tables e below (T82.setTop (mkF m 98 #[.val (.ref r0), .val (.ref r1), .val (.int (3 : Int32)), .val (.int (2 : Int32)), .val (.int (Int32.ofNat (own_free (own_ins (own_ins (List.replicate 8 0) 8 (own_sN (61 : Int32) x0) 1) 8 (own_sN (61 : Int32) x1) 2) 8 8 (own_sN (61 : Int32) x2))))] [(.int (1 : Int32)), (.int (2 : Int32)), (.int (Int32.ofNat (own_free (own_ins (own_ins (List.replicate 8 0) 8 (own_sN (61 : Int32) x0) 1) 8 (own_sN (61 : Int32) x1) 2) 8 8 (own_sN (61 : Int32) x2)))), (.ref b16)])) _
    refine XS.iadd X82.here hx rfl (hb hby d1_98) rfl ?_
    exact kt
  have c85 : ∀ t, Steps p.tables e below (T82.setTop (mkF m 99 #[.val (.ref r0), .val (.ref r1), .val (.int (3 : Int32)), .val (.int (2 : Int32)), .val (.int (Int32.ofNat (own_free (own_ins (own_ins (List.replicate 8 0) 8 (own_sN (61 : Int32) x0) 1) 8 (own_sN (61 : Int32) x1) 2) 8 8 (own_sN (61 : Int32) x2))))] [(.int (3 : Int32)), (.int (Int32.ofNat (own_free (own_ins (own_ins (List.replicate 8 0) 8 (own_sN (61 : Int32) x0) 1) 8 (own_sN (61 : Int32) x1) 2) 8 8 (own_sN (61 : Int32) x2)))), (.ref b16)])) t → Steps p.tables e below (T82.setTop (mkF m 99 #[.val (.ref r0), .val (.ref r1), .val (.int (3 : Int32)), .val (.int (2 : Int32)), .val (.int (Int32.ofNat (own_free (own_ins (own_ins (List.replicate 8 0) 8 (own_sN (61 : Int32) x0) 1) 8 (own_sN (61 : Int32) x1) 2) 8 8 (own_sN (61 : Int32) x2))))] [(.int ((2 : Int32) + (1 : Int32))), (.int (Int32.ofNat (own_free (own_ins (own_ins (List.replicate 8 0) 8 (own_sN (61 : Int32) x0) 1) 8 (own_sN (61 : Int32) x1) 2) 8 8 (own_sN (61 : Int32) x2)))), (.ref b16)])) t := fun t kt => castTop (congrArg (fun z => (mkF m 99 #[.val (.ref r0), .val (.ref r1), .val (.int (3 : Int32)), .val (.int (2 : Int32)), .val (.int (Int32.ofNat (own_free (own_ins (own_ins (List.replicate 8 0) 8 (own_sN (61 : Int32) x0) 1) 8 (own_sN (61 : Int32) x1) 2) 8 8 (own_sN (61 : Int32) x2))))] [(.int z), (.int (Int32.ofNat (own_free (own_ins (own_ins (List.replicate 8 0) 8 (own_sN (61 : Int32) x0) 1) 8 (own_sN (61 : Int32) x1) 2) 8 8 (own_sN (61 : Int32) x2)))), (.ref b16)])) (show ((2 : Int32) + (1 : Int32)) = (3 : Int32) from by decide)) kt
  have Vc86 := VT80
  obtain ⟨cl86, Ar86, qk86, S86, M86, H86, G86⟩ := Vc86
  have hin86 : ¬ ((Int32.ofNat (own_free (own_ins (own_ins (List.replicate 8 0) 8 (own_sN (61 : Int32) x0) 1) 8 (own_sN (61 : Int32) x1) 2) 8 8 (own_sN (61 : Int32) x2))) < 0 ∨ cl86.slots.size ≤ ((Int32.ofNat (own_free (own_ins (own_ins (List.replicate 8 0) 8 (own_sN (61 : Int32) x0) 1) 8 (own_sN (61 : Int32) x1) 2) 8 8 (own_sN (61 : Int32) x2)))).toNatClampNeg) := inb_of S86 (own_in _ 8 hend80.2 (by decide))
  obtain ⟨T87, h87, X87, e87, W87, st87⟩ := stI X82 hx hZ e82 Ar86 (j := (Int32.ofNat (own_free (own_ins (own_ins (List.replicate 8 0) 8 (own_sN (61 : Int32) x0) 1) 8 (own_sN (61 : Int32) x1) 2) 8 8 (own_sN (61 : Int32) x2)))) hin86 (g := (mkF m 99 #[.val (.ref r0), .val (.ref r1), .val (.int (3 : Int32)), .val (.int (2 : Int32)), .val (.int (Int32.ofNat (own_free (own_ins (own_ins (List.replicate 8 0) 8 (own_sN (61 : Int32) x0) 1) 8 (own_sN (61 : Int32) x1) 2) 8 8 (own_sN (61 : Int32) x2))))] [(.int (3 : Int32)), (.int (Int32.ofNat (own_free (own_ins (own_ins (List.replicate 8 0) 8 (own_sN (61 : Int32) x0) 1) 8 (own_sN (61 : Int32) x1) 2) 8 8 (own_sN (61 : Int32) x2)))), (.ref b16)])) rfl rfl (hb hby d1_99)
  have V87 : Arv Z h87 b16 k16 .int (Int32.ofNat 8) (own_tv (own_ins (own_ins (own_ins (List.replicate 8 0) 8 (own_sN (61 : Int32) x0) 1) 8 (own_sN (61 : Int32) x1) 2) 8 (own_sN (61 : Int32) x2) 3)) (.int (0 : Int32)) := by have q := Arv.set Ar86 qk86 S86 M86 H86 G86 rfl W87 (own_free (own_ins (own_ins (List.replicate 8 0) 8 (own_sN (61 : Int32) x0) 1) 8 (own_sN (61 : Int32) x1) 2) 8 8 (own_sN (61 : Int32) x2)) (own_clamp _ (Nat.lt_trans hend80.2 (by decide))) (by simp only [own_tv, List.length_map]; rw [hok80.1]; exact hend80.2); rw [show (own_tv (own_ins (own_ins (List.replicate 8 0) 8 (own_sN (61 : Int32) x0) 1) 8 (own_sN (61 : Int32) x1) 2)).set (own_free (own_ins (own_ins (List.replicate 8 0) 8 (own_sN (61 : Int32) x0) 1) 8 (own_sN (61 : Int32) x1) 2) 8 8 (own_sN (61 : Int32) x2)) (.int (3 : Int32)) = own_tv (own_ins (own_ins (own_ins (List.replicate 8 0) 8 (own_sN (61 : Int32) x0) 1) 8 (own_sN (61 : Int32) x1) 2) 8 (own_sN (61 : Int32) x2) 3) from own_tvset _ _ 3] at q; exact q
  have N87 := Fr.snoc X87 N80 g_b16
  have f88 := (f67.other W87 (Nat.ne_of_lt (Nat.lt_of_lt_of_le lt_r1_16 (Nat.le_of_eq g16.symm))))
  have Vc89 := f88
  obtain ⟨cl89, Ar89, qk89, S89, M89, H89, G89⟩ := Vc89
  have c90 : ∀ t, Steps p.tables e below (T87.setTop (mkF m 106 #[.val (.ref r0), .val (.ref r1), .val (.int (3 : Int32)), .val (.int ((2 : Int32) + (1 : Int32))), .val (.int (Int32.ofNat (own_free (own_ins (own_ins (List.replicate 8 0) 8 (own_sN (61 : Int32) x0) 1) 8 (own_sN (61 : Int32) x1) 2) 8 8 (own_sN (61 : Int32) x2))))] [])) t → Steps p.tables e below (T87.setTop (mkF m 100 #[.val (.ref r0), .val (.ref r1), .val (.int (3 : Int32)), .val (.int (2 : Int32)), .val (.int (Int32.ofNat (own_free (own_ins (own_ins (List.replicate 8 0) 8 (own_sN (61 : Int32) x0) 1) 8 (own_sN (61 : Int32) x1) 2) 8 8 (own_sN (61 : Int32) x2))))] [])) t := by
    intro t kt
    show Steps p.tables e below (T87.setTop (mkF m 100 #[.val (.ref r0), .val (.ref r1), .val (.int (3 : Int32)), .val (.int (2 : Int32)), .val (.int (Int32.ofNat (own_free (own_ins (own_ins (List.replicate 8 0) 8 (own_sN (61 : Int32) x0) 1) 8 (own_sN (61 : Int32) x1) 2) 8 8 (own_sN (61 : Int32) x2))))] [])) _
    refine XS.iinc X87.here hx rfl (hb hby d1_100) rfl (l' := #[.val (.ref r0), .val (.ref r1), .val (.int (3 : Int32)), .val (.int ((2 : Int32) + (1 : Int32))), .val (.int (Int32.ofNat (own_free (own_ins (own_ins (List.replicate 8 0) 8 (own_sN (61 : Int32) x0) 1) 8 (own_sN (61 : Int32) x1) 2) 8 8 (own_sN (61 : Int32) x2))))]) rfl ?_
    show Steps p.tables e below (T87.setTop (mkF m 103 #[.val (.ref r0), .val (.ref r1), .val (.int (3 : Int32)), .val (.int ((2 : Int32) + (1 : Int32))), .val (.int (Int32.ofNat (own_free (own_ins (own_ins (List.replicate 8 0) 8 (own_sN (61 : Int32) x0) 1) 8 (own_sN (61 : Int32) x1) 2) 8 8 (own_sN (61 : Int32) x2))))] [])) _
    refine XS.goto X87.here hx rfl (pc0 := 103) (pc' := 48) rfl (hb hby d1_103) (by decide) (by decide) ?_
    show Steps p.tables e below (T87.setTop (mkF m 48 #[.val (.ref r0), .val (.ref r1), .val (.int (3 : Int32)), .val (.int ((2 : Int32) + (1 : Int32))), .val (.int (Int32.ofNat (own_free (own_ins (own_ins (List.replicate 8 0) 8 (own_sN (61 : Int32) x0) 1) 8 (own_sN (61 : Int32) x1) 2) 8 8 (own_sN (61 : Int32) x2))))] [])) _
    refine XS.iloadN X87.here hx rfl (hb hby d1_48) rfl ?_
    show Steps p.tables e below (T87.setTop (mkF m 49 #[.val (.ref r0), .val (.ref r1), .val (.int (3 : Int32)), .val (.int ((2 : Int32) + (1 : Int32))), .val (.int (Int32.ofNat (own_free (own_ins (own_ins (List.replicate 8 0) 8 (own_sN (61 : Int32) x0) 1) 8 (own_sN (61 : Int32) x1) 2) 8 8 (own_sN (61 : Int32) x2))))] [(.int ((2 : Int32) + (1 : Int32)))])) _
    refine XS.aloadN X87.here hx rfl (hb hby d1_49) rfl rfl ?_
    show Steps p.tables e below (T87.setTop (mkF m 50 #[.val (.ref r0), .val (.ref r1), .val (.int (3 : Int32)), .val (.int ((2 : Int32) + (1 : Int32))), .val (.int (Int32.ofNat (own_free (own_ins (own_ins (List.replicate 8 0) 8 (own_sN (61 : Int32) x0) 1) 8 (own_sN (61 : Int32) x1) 2) 8 8 (own_sN (61 : Int32) x2))))] [(.ref r1), (.int ((2 : Int32) + (1 : Int32)))])) _
    refine X87.arraylength hx (by rw [e87]; exact Ar89.1) (State.isArrayOf_alike hZ.alike Ar89.2.1) (g := (mkF m 50 #[.val (.ref r0), .val (.ref r1), .val (.int (3 : Int32)), .val (.int ((2 : Int32) + (1 : Int32))), .val (.int (Int32.ofNat (own_free (own_ins (own_ins (List.replicate 8 0) 8 (own_sN (61 : Int32) x0) 1) 8 (own_sN (61 : Int32) x1) 2) 8 8 (own_sN (61 : Int32) x2))))] [(.ref r1), (.int ((2 : Int32) + (1 : Int32)))])) rfl rfl (hb hby d1_50) _ ?_
    rw [len_of S89 M89]
    show Steps p.tables e below (T87.setTop (mkF m 51 #[.val (.ref r0), .val (.ref r1), .val (.int (3 : Int32)), .val (.int ((2 : Int32) + (1 : Int32))), .val (.int (Int32.ofNat (own_free (own_ins (own_ins (List.replicate 8 0) 8 (own_sN (61 : Int32) x0) 1) 8 (own_sN (61 : Int32) x1) 2) 8 8 (own_sN (61 : Int32) x2))))] [(.int (3 : Int32)), (.int ((2 : Int32) + (1 : Int32)))])) _
    refine XS.icmpYes X87.here hx rfl (pc0 := 51) (pc' := 106) rfl (hb hby d1_51) rfl (flt (by decide : ¬ (((2 : Int32) + (1 : Int32)) < (3 : Int32)))).2.1 (by decide) (by decide) ?_
    exact kt
  obtain ⟨fs, hr, hrun, hended, hW, hsame⟩ := X87.leave (v := none) (fun _ => rfl)
  have f92 := ((((((f17.ext E16).wr W20 (Or.inl (List.mem_of_getElem? (i := 0) rfl))).wr W25 (Or.inl (List.mem_of_getElem? (i := 0) rfl))).wr W45 (Or.inr sz_b16)).wr W66 (Or.inr sz_b16)).wr W87 (Or.inr sz_b16))
  have f93 := (f73.wr W87)
  have f94 := ((((((Fw3.ext E16).other W20 (Or.inr (slot_ne (a0 := a0) (Or.inr (hw _ (List.mem_of_getElem? (i := 11) rfl))) (Or.inr (hw _ (List.mem_of_getElem? (i := 28) rfl))) (by decide) (t := (.array .long)) (t' := (.array .int)) (by decide) (by decide)))).other W25 (Or.inr (slot_ne (a0 := a0) (Or.inr (hw _ (List.mem_of_getElem? (i := 11) rfl))) (Or.inr (hw _ (List.mem_of_getElem? (i := 30) rfl))) (by decide) (t := (.array .long)) (t' := .int) (by decide) (by decide)))).other W45 (Or.inl (Nat.ne_of_lt (Nat.lt_of_lt_of_le lt_r0_16 (Nat.le_of_eq g16.symm))))).other W66 (Or.inl (Nat.ne_of_lt (Nat.lt_of_lt_of_le lt_r0_16 (Nat.le_of_eq g16.symm))))).other W87 (Or.inl (Nat.ne_of_lt (Nat.lt_of_lt_of_le lt_r0_16 (Nat.le_of_eq g16.symm)))))
  have f95 := (f81.other W87 (Or.inl (Nat.ne_of_lt (Nat.lt_of_lt_of_le lt_r0_16 (Nat.le_of_eq g16.symm)))))
  have f96 := (f72.other W87 (Or.inl (Nat.ne_of_lt (Nat.lt_of_lt_of_le lt_r0_16 (Nat.le_of_eq g16.symm)))))
  refine ⟨_, _, pre0 _ (c2 _ (st1 _ (c4 _ (st3 _ (c7 _ (c8 _ (st10 _ (c11 _ (st12 _ (c13 _ (c14 _ (c15 _ (st16 _ (st20 _ (c21 _ (c22 _ (st25 _ (c29 _ (st33.trans (c35 _ (c36 _ (st37 _ (c41 _ (st40 _ (c42 _ (c43 _ (st45 _ (c49 _ (st54.trans (c55 _ (c57 _ (c58 _ (st59 _ (c62 _ (st61 _ (c63 _ (c64 _ (st66 _ (c70 _ (st75.trans (c76 _ (c78 _ (c79 _ (st80 _ (c83 _ (st82 _ (c84 _ (c85 _ (st87 _ (c90 _ (?_))))))))))))))))))))))))))))))))))))))))))))))))))), hrun, hended, _, _, rfl, ?_, ⟨_, rfl⟩, hW, hsame.mono (by decide) (by decide)⟩
  · show Steps p.tables e below (T87.setTop (mkF m 106 #[.val (.ref r0), .val (.ref r1), .val (.int (3 : Int32)), .val (.int ((2 : Int32) + (1 : Int32))), .val (.int (Int32.ofNat (own_free (own_ins (own_ins (List.replicate 8 0) 8 (own_sN (61 : Int32) x0) 1) 8 (own_sN (61 : Int32) x1) 2) 8 8 (own_sN (61 : Int32) x2))))] [])) _
    exact X87.returnOut hx Bd.returns (hb hby d1_106) hr
  · show Q1_3 Z r0 r1 kc x0 x1 x2 dj h0 n0 _ T87.heap _
    rw [e87]
    exact ⟨b16, k16, rfl, N87, f92, f93, f94, f95, f96, V87⟩
theorem d7_6 : decode prog_18_method_2_code 6 = .ok (.aload_n 0, 1) := by decide +kernel
theorem d7_7 : decode prog_18_method_2_code 7 = .ok (.getfield 27, 3) := by decide +kernel
theorem d7_10 : decode prog_18_method_2_code 10 = .ok (.iload_n 3, 1) := by decide +kernel
theorem d7_11 : decode prog_18_method_2_code 11 = .ok (.iaload, 1) := by decide +kernel
theorem d7_12 : decode prog_18_method_2_code 12 = .ok (.istore 4, 2) := by decide +kernel
theorem d7_14 : decode prog_18_method_2_code 14 = .ok (.iload 4, 2) := by decide +kernel
theorem d7_16 : decode prog_18_method_2_code 16 = .ok (.ifCond .ne 5, 3) := by decide +kernel
theorem d7_19 : decode prog_18_method_2_code 19 = .ok (.iconst (-1), 1) := by decide +kernel
set_option maxRecDepth 65536 in
set_option maxHeartbeats 40000000 in
theorem tp20 {p : Program} {l : Launch} {e : Env} {R : Room} {s : State} {m : MethodId} {args : Array Value} {below : List Frame} {meth : Method} {c : Code} {T0 : State} {locs : List Loc} {cells slots : Nat} {Z : State} {a0 : Array Value} {h0 : Heap} {n0 : Nat} (r0 : Addr) (q1 : Int64) (s4 : Slot) (sa : Addr) (ks : ClassId) (M : Nat) (tab : List Nat) (ca : Addr) (kc : ClassId) (cs : List Int64) (dj : Value) (i : Nat)
    (X0 : Stand p l e R s m args below meth c T0 locs cells slots) (hx : p.tables.exec = Jvm.exec) (hZ : Z.Warmed39 s.vm) (hw : ∀ d ∈ tables_1, d.before a0 Z = true) (hby : c.code = prog_18_method_2_code) (hml : c.maxLocals = 5) (hown : s.vm.findClass "com/example/mapstone/mapstone/engine/ConceptIndex" = some m.cls) (e0 : T0.heap = h0) (N0 : Fr n0 locs) (Z0 : n0 ≤ h0.size) (F_s : Fld Z h0 r0 "com/example/mapstone/mapstone/engine/ConceptIndex" "slots" "[I" (.ref sa)) (V_s : Arv Z h0 sa ks .int (Int32.ofNat M) (own_tv tab) (.int (0 : Int32))) (F_c : Fld Z h0 r0 "com/example/mapstone/mapstone/engine/ConceptIndex" "concepts" "[J" (.ref ca)) (V_c : Arv Z h0 ca kc .long (Int32.ofNat cs.length) (cs.map Value.long) dj) (hi : i < M) (hM8 : M ≤ 8) (hl : tab.length = M) (hv : ∀ i, tab.getD i 0 ≤ cs.length) (hn : cs.length ≤ 3) (hs4 : One s4) (ht : tab.getD i 0 = 0) :
    ∃ (T' : State) (locs' : List Loc) (h' : Heap), Stand p l e R s m args below meth c T' locs' cells slots ∧ T'.heap = h' ∧ Fr n0 locs' ∧ Keep h0 h' [] ∧ h' = h0 ∧ ∀ t, Steps p.tables e below (T'.setTop (mkF m 20 #[.val (.ref r0), .val (.long q1), .second, .val (.int (Int32.ofNat i)), .val (.int (Int32.ofNat (tab.getD i 0)))] [(.int (-1 : Int32))])) t → Steps p.tables e below (T0.setTop (mkF m 6 #[.val (.ref r0), .val (.long q1), .second, .val (.int (Int32.ofNat i)), s4] [])) t := by
  have c2 : ∀ t, Steps p.tables e below (T0.setTop (mkF m 7 #[.val (.ref r0), .val (.long q1), .second, .val (.int (Int32.ofNat i)), s4] [(.ref r0)])) t → Steps p.tables e below (T0.setTop (mkF m 6 #[.val (.ref r0), .val (.long q1), .second, .val (.int (Int32.ofNat i)), s4] [])) t := by
    intro t kt
    show Steps p.tables e below (T0.setTop (mkF m 6 #[.val (.ref r0), .val (.long q1), .second, .val (.int (Int32.ofNat i)), s4] [])) _
    refine XS.aloadN X0.here hx rfl (hb hby d7_6) rfl rfl ?_
    exact kt
  obtain ⟨T1, X1, e1, st1⟩ := getF X0 hx hZ hown (host := "") (Or.inl (hw _ (List.mem_of_getElem? (i := 27) rfl))) Via.refl e0 F_s (g := (mkF m 7 #[.val (.ref r0), .val (.long q1), .second, .val (.int (Int32.ofNat i)), s4] [(.ref r0)])) rfl rfl (hb hby d7_7)
  have Vc3 := V_s
  obtain ⟨cl3, Ar3, qk3, S3, M3, H3, G3⟩ := Vc3
  have hin3 : ¬ ((Int32.ofNat i) < 0 ∨ cl3.slots.size ≤ ((Int32.ofNat i)).toNatClampNeg) := inb_of S3 (own_in i M hi hM8)
  have hat3 : cl3.slots[((Int32.ofNat i)).toNatClampNeg]? = some (.int (Int32.ofNat (tab.getD i 0))) := H3.at hin3 (own_tvat tab M i hl hi hM8 _)
  have c4 : ∀ t, Steps p.tables e below (T1.setTop (mkF m 20 #[.val (.ref r0), .val (.long q1), .second, .val (.int (Int32.ofNat i)), .val (.int (Int32.ofNat (tab.getD i 0)))] [(.int (-1 : Int32))])) t → Steps p.tables e below (T1.setTop (mkF m 10 #[.val (.ref r0), .val (.long q1), .second, .val (.int (Int32.ofNat i)), s4] [(.ref sa)])) t := by
    intro t kt
    show Steps p.tables e below (T1.setTop (mkF m 10 #[.val (.ref r0), .val (.long q1), .second, .val (.int (Int32.ofNat i)), s4] [(.ref sa)])) _
    refine XS.iloadN X1.here hx rfl (hb hby d7_10) rfl ?_
    show Steps p.tables e below (T1.setTop (mkF m 11 #[.val (.ref r0), .val (.long q1), .second, .val (.int (Int32.ofNat i)), s4] [(.int (Int32.ofNat i)), (.ref sa)])) _
    refine X1.iaload hx (j := (Int32.ofNat i)) (v := (.int (Int32.ofNat (tab.getD i 0)))) (by rw [e1]; exact Ar3.1) (State.isArrayOf_alike hZ.alike Ar3.2.1) Ar3.2.2 hin3 hat3 (g := (mkF m 11 #[.val (.ref r0), .val (.long q1), .second, .val (.int (Int32.ofNat i)), s4] [(.int (Int32.ofNat i)), (.ref sa)])) rfl rfl (hb hby d7_11) _ ?_
    show Steps p.tables e below (T1.setTop (mkF m 12 #[.val (.ref r0), .val (.long q1), .second, .val (.int (Int32.ofNat i)), s4] [(.int (Int32.ofNat (tab.getD i 0)))])) _
    refine XS.istore X1.here hx rfl (hb hby d7_12) rfl (l' := #[.val (.ref r0), .val (.long q1), .second, .val (.int (Int32.ofNat i)), .val (.int (Int32.ofNat (tab.getD i 0)))]) (own_st4 hs4) ?_
    show Steps p.tables e below (T1.setTop (mkF m 14 #[.val (.ref r0), .val (.long q1), .second, .val (.int (Int32.ofNat i)), .val (.int (Int32.ofNat (tab.getD i 0)))] [])) _
    refine XS.iload X1.here hx rfl (hb hby d7_14) rfl ?_
    show Steps p.tables e below (T1.setTop (mkF m 16 #[.val (.ref r0), .val (.long q1), .second, .val (.int (Int32.ofNat i)), .val (.int (Int32.ofNat (tab.getD i 0)))] [(.int (Int32.ofNat (tab.getD i 0)))])) _
    refine XS.ifNo X1.here hx rfl (hb hby d7_16) rfl ((if0 _ _).trans (teq ((own_zero _ (Nat.le_trans (hv i) hn)).mpr ht)).2) ?_
    show Steps p.tables e below (T1.setTop (mkF m 19 #[.val (.ref r0), .val (.long q1), .second, .val (.int (Int32.ofNat i)), .val (.int (Int32.ofNat (tab.getD i 0)))] [])) _
    refine XS.iconst X1.here hx rfl (hb hby d7_19) ?_
    exact kt
  exact ⟨T1, _, h0, X1, e1, N0, (Keep.refl h0 []), rfl, fun t kt => c2 _ (st1 _ (c4 _ (kt)))⟩
theorem d7_21 : decode prog_18_method_2_code 21 = .ok (.aload_n 0, 1) := by decide +kernel
theorem d7_22 : decode prog_18_method_2_code 22 = .ok (.getfield 7, 3) := by decide +kernel
theorem d7_25 : decode prog_18_method_2_code 25 = .ok (.iload 4, 2) := by decide +kernel
theorem d7_27 : decode prog_18_method_2_code 27 = .ok (.iconst 1, 1) := by decide +kernel
theorem d7_28 : decode prog_18_method_2_code 28 = .ok (.isub, 1) := by decide +kernel
theorem d7_29 : decode prog_18_method_2_code 29 = .ok (.laload, 1) := by decide +kernel
theorem d7_30 : decode prog_18_method_2_code 30 = .ok (.lload_n 1, 1) := by decide +kernel
theorem d7_31 : decode prog_18_method_2_code 31 = .ok (.lcmp, 1) := by decide +kernel
theorem d7_32 : decode prog_18_method_2_code 32 = .ok (.ifCond .ne 8, 3) := by decide +kernel
theorem d7_35 : decode prog_18_method_2_code 35 = .ok (.iload 4, 2) := by decide +kernel
theorem d7_37 : decode prog_18_method_2_code 37 = .ok (.iconst 1, 1) := by decide +kernel
theorem d7_38 : decode prog_18_method_2_code 38 = .ok (.isub, 1) := by decide +kernel
set_option maxRecDepth 65536 in
set_option maxHeartbeats 40000000 in
theorem tp39 {p : Program} {l : Launch} {e : Env} {R : Room} {s : State} {m : MethodId} {args : Array Value} {below : List Frame} {meth : Method} {c : Code} {T0 : State} {locs : List Loc} {cells slots : Nat} {Z : State} {a0 : Array Value} {h0 : Heap} {n0 : Nat} (r0 : Addr) (q1 : Int64) (s4 : Slot) (sa : Addr) (ks : ClassId) (M : Nat) (tab : List Nat) (ca : Addr) (kc : ClassId) (cs : List Int64) (dj : Value) (i : Nat)
    (X0 : Stand p l e R s m args below meth c T0 locs cells slots) (hx : p.tables.exec = Jvm.exec) (hZ : Z.Warmed39 s.vm) (hw : ∀ d ∈ tables_1, d.before a0 Z = true) (hby : c.code = prog_18_method_2_code) (hml : c.maxLocals = 5) (hown : s.vm.findClass "com/example/mapstone/mapstone/engine/ConceptIndex" = some m.cls) (e0 : T0.heap = h0) (N0 : Fr n0 locs) (Z0 : n0 ≤ h0.size) (F_s : Fld Z h0 r0 "com/example/mapstone/mapstone/engine/ConceptIndex" "slots" "[I" (.ref sa)) (V_s : Arv Z h0 sa ks .int (Int32.ofNat M) (own_tv tab) (.int (0 : Int32))) (F_c : Fld Z h0 r0 "com/example/mapstone/mapstone/engine/ConceptIndex" "concepts" "[J" (.ref ca)) (V_c : Arv Z h0 ca kc .long (Int32.ofNat cs.length) (cs.map Value.long) dj) (hi : i < M) (hM8 : M ≤ 8) (hl : tab.length = M) (hv : ∀ i, tab.getD i 0 ≤ cs.length) (hn : cs.length ≤ 3) (hs4 : One s4) (ht : ¬ tab.getD i 0 = 0) (hq : cs.getD (tab.getD i 0 - 1) 0 = q1) :
    ∃ (T' : State) (locs' : List Loc) (h' : Heap), Stand p l e R s m args below meth c T' locs' cells slots ∧ T'.heap = h' ∧ Fr n0 locs' ∧ Keep h0 h' [] ∧ h' = h0 ∧ ∀ t, Steps p.tables e below (T'.setTop (mkF m 39 #[.val (.ref r0), .val (.long q1), .second, .val (.int (Int32.ofNat i)), .val (.int (Int32.ofNat (tab.getD i 0)))] [(.int ((Int32.ofNat (tab.getD i 0)) - (1 : Int32)))])) t → Steps p.tables e below (T0.setTop (mkF m 6 #[.val (.ref r0), .val (.long q1), .second, .val (.int (Int32.ofNat i)), s4] [])) t := by
  have c2 : ∀ t, Steps p.tables e below (T0.setTop (mkF m 7 #[.val (.ref r0), .val (.long q1), .second, .val (.int (Int32.ofNat i)), s4] [(.ref r0)])) t → Steps p.tables e below (T0.setTop (mkF m 6 #[.val (.ref r0), .val (.long q1), .second, .val (.int (Int32.ofNat i)), s4] [])) t := by
    intro t kt
    show Steps p.tables e below (T0.setTop (mkF m 6 #[.val (.ref r0), .val (.long q1), .second, .val (.int (Int32.ofNat i)), s4] [])) _
    refine XS.aloadN X0.here hx rfl (hb hby d7_6) rfl rfl ?_
    exact kt
  obtain ⟨T1, X1, e1, st1⟩ := getF X0 hx hZ hown (host := "") (Or.inl (hw _ (List.mem_of_getElem? (i := 27) rfl))) Via.refl e0 F_s (g := (mkF m 7 #[.val (.ref r0), .val (.long q1), .second, .val (.int (Int32.ofNat i)), s4] [(.ref r0)])) rfl rfl (hb hby d7_7)
  have Vc3 := V_s
  obtain ⟨cl3, Ar3, qk3, S3, M3, H3, G3⟩ := Vc3
  have hin3 : ¬ ((Int32.ofNat i) < 0 ∨ cl3.slots.size ≤ ((Int32.ofNat i)).toNatClampNeg) := inb_of S3 (own_in i M hi hM8)
  have hat3 : cl3.slots[((Int32.ofNat i)).toNatClampNeg]? = some (.int (Int32.ofNat (tab.getD i 0))) := H3.at hin3 (own_tvat tab M i hl hi hM8 _)
  have c5 : ∀ t, Steps p.tables e below (T1.setTop (mkF m 16 #[.val (.ref r0), .val (.long q1), .second, .val (.int (Int32.ofNat i)), .val (.int (Int32.ofNat (tab.getD i 0)))] [(.int (Int32.ofNat (tab.getD i 0)))])) t → Steps p.tables e below (T1.setTop (mkF m 10 #[.val (.ref r0), .val (.long q1), .second, .val (.int (Int32.ofNat i)), s4] [(.ref sa)])) t := by
    intro t kt
    show Steps p.tables e below (T1.setTop (mkF m 10 #[.val (.ref r0), .val (.long q1), .second, .val (.int (Int32.ofNat i)), s4] [(.ref sa)])) _
    refine XS.iloadN X1.here hx rfl (hb hby d7_10) rfl ?_
    show Steps p.tables e below (T1.setTop (mkF m 11 #[.val (.ref r0), .val (.long q1), .second, .val (.int (Int32.ofNat i)), s4] [(.int (Int32.ofNat i)), (.ref sa)])) _
    refine X1.iaload hx (j := (Int32.ofNat i)) (v := (.int (Int32.ofNat (tab.getD i 0)))) (by rw [e1]; exact Ar3.1) (State.isArrayOf_alike hZ.alike Ar3.2.1) Ar3.2.2 hin3 hat3 (g := (mkF m 11 #[.val (.ref r0), .val (.long q1), .second, .val (.int (Int32.ofNat i)), s4] [(.int (Int32.ofNat i)), (.ref sa)])) rfl rfl (hb hby d7_11) _ ?_
    show Steps p.tables e below (T1.setTop (mkF m 12 #[.val (.ref r0), .val (.long q1), .second, .val (.int (Int32.ofNat i)), s4] [(.int (Int32.ofNat (tab.getD i 0)))])) _
    refine XS.istore X1.here hx rfl (hb hby d7_12) rfl (l' := #[.val (.ref r0), .val (.long q1), .second, .val (.int (Int32.ofNat i)), .val (.int (Int32.ofNat (tab.getD i 0)))]) (own_st4 hs4) ?_
    show Steps p.tables e below (T1.setTop (mkF m 14 #[.val (.ref r0), .val (.long q1), .second, .val (.int (Int32.ofNat i)), .val (.int (Int32.ofNat (tab.getD i 0)))] [])) _
    refine XS.iload X1.here hx rfl (hb hby d7_14) rfl ?_
    exact kt
  have hd4 : ¬ ((Int32.ofNat (tab.getD i 0)) = (0 : Int32)) := fun q => ht ((own_zero _ (Nat.le_trans (hv i) hn)).mp q)
  have c7 : ∀ t, Steps p.tables e below (T1.setTop (mkF m 22 #[.val (.ref r0), .val (.long q1), .second, .val (.int (Int32.ofNat i)), .val (.int (Int32.ofNat (tab.getD i 0)))] [(.ref r0)])) t → Steps p.tables e below (T1.setTop (mkF m 16 #[.val (.ref r0), .val (.long q1), .second, .val (.int (Int32.ofNat i)), .val (.int (Int32.ofNat (tab.getD i 0)))] [(.int (Int32.ofNat (tab.getD i 0)))])) t := by
    intro t kt
    show Steps p.tables e below (T1.setTop (mkF m 16 #[.val (.ref r0), .val (.long q1), .second, .val (.int (Int32.ofNat i)), .val (.int (Int32.ofNat (tab.getD i 0)))] [(.int (Int32.ofNat (tab.getD i 0)))])) _
    refine XS.ifYes X1.here hx rfl (pc0 := 16) (pc' := 21) rfl (hb hby d7_16) rfl ((if0 _ _).trans (feq hd4).2) (by decide) (by decide) ?_
    show Steps p.tables e below (T1.setTop (mkF m 21 #[.val (.ref r0), .val (.long q1), .second, .val (.int (Int32.ofNat i)), .val (.int (Int32.ofNat (tab.getD i 0)))] [])) _
    refine XS.aloadN X1.here hx rfl (hb hby d7_21) rfl rfl ?_
    exact kt
  obtain ⟨T6, X6, e6, st6⟩ := getF X1 hx hZ hown (host := "") (Or.inl (hw _ (List.mem_of_getElem? (i := 10) rfl))) Via.refl e1 F_c (g := (mkF m 22 #[.val (.ref r0), .val (.long q1), .second, .val (.int (Int32.ofNat i)), .val (.int (Int32.ofNat (tab.getD i 0)))] [(.ref r0)])) rfl rfl (hb hby d7_22)
  have c8 : ∀ t, Steps p.tables e below (T6.setTop (mkF m 29 #[.val (.ref r0), .val (.long q1), .second, .val (.int (Int32.ofNat i)), .val (.int (Int32.ofNat (tab.getD i 0)))] [(.int ((Int32.ofNat (tab.getD i 0)) - (1 : Int32))), (.ref ca)])) t → Steps p.tables e below (T6.setTop (mkF m 25 #[.val (.ref r0), .val (.long q1), .second, .val (.int (Int32.ofNat i)), .val (.int (Int32.ofNat (tab.getD i 0)))] [(.ref ca)])) t := by
    intro t kt
    show Steps p.tables e below (T6.setTop (mkF m 25 #[.val (.ref r0), .val (.long q1), .second, .val (.int (Int32.ofNat i)), .val (.int (Int32.ofNat (tab.getD i 0)))] [(.ref ca)])) _
    refine XS.iload X6.here hx rfl (hb hby d7_25) rfl ?_
    show Steps p.tables e below (T6.setTop (mkF m 27 #[.val (.ref r0), .val (.long q1), .second, .val (.int (Int32.ofNat i)), .val (.int (Int32.ofNat (tab.getD i 0)))] [(.int (Int32.ofNat (tab.getD i 0))), (.ref ca)])) _
    refine XS.iconst X6.here hx rfl (hb hby d7_27) ?_
    show Steps p.tables e below (T6.setTop (mkF m 28 #[.val (.ref r0), .val (.long q1), .second, .val (.int (Int32.ofNat i)), .val (.int (Int32.ofNat (tab.getD i 0)))] [(.int (1 : Int32)), (.int (Int32.ofNat (tab.getD i 0))), (.ref ca)])) _
    refine XS.isub X6.here hx rfl (hb hby d7_28) rfl ?_
    exact kt
  have c9 : ∀ t, Steps p.tables e below (T6.setTop (mkF m 29 #[.val (.ref r0), .val (.long q1), .second, .val (.int (Int32.ofNat i)), .val (.int (Int32.ofNat (tab.getD i 0)))] [(.int (Int32.ofNat (tab.getD i 0 - 1))), (.ref ca)])) t → Steps p.tables e below (T6.setTop (mkF m 29 #[.val (.ref r0), .val (.long q1), .second, .val (.int (Int32.ofNat i)), .val (.int (Int32.ofNat (tab.getD i 0)))] [(.int ((Int32.ofNat (tab.getD i 0)) - (1 : Int32))), (.ref ca)])) t := fun t kt => castTop (congrArg (fun z => (mkF m 29 #[.val (.ref r0), .val (.long q1), .second, .val (.int (Int32.ofNat i)), .val (.int (Int32.ofNat (tab.getD i 0)))] [(.int z), (.ref ca)])) (show ((Int32.ofNat (tab.getD i 0)) - (1 : Int32)) = (Int32.ofNat (tab.getD i 0 - 1)) from own_pre _ (Nat.pos_of_ne_zero ht) (Nat.le_trans (hv i) hn))) kt
  have Vc10 := V_c
  obtain ⟨cl10, Ar10, qk10, S10, M10, H10, G10⟩ := Vc10
  have hin10 : ¬ ((Int32.ofNat (tab.getD i 0 - 1)) < 0 ∨ cl10.slots.size ≤ ((Int32.ofNat (tab.getD i 0 - 1))).toNatClampNeg) := inb_of S10 (own_in (tab.getD i 0 - 1) cs.length (by have := hv i; omega) (by omega))
  have hat10 : cl10.slots[((Int32.ofNat (tab.getD i 0 - 1))).toNatClampNeg]? = some (.long (cs.getD (tab.getD i 0 - 1) 0)) := H10.at hin10 (own_csat cs _ (by have := hv i; omega) hn _)
  have c12 : ∀ t, Steps p.tables e below (T6.setTop (mkF m 32 #[.val (.ref r0), .val (.long q1), .second, .val (.int (Int32.ofNat i)), .val (.int (Int32.ofNat (tab.getD i 0)))] [(.int (lcmpW (cs.getD (tab.getD i 0 - 1) 0) q1))])) t → Steps p.tables e below (T6.setTop (mkF m 29 #[.val (.ref r0), .val (.long q1), .second, .val (.int (Int32.ofNat i)), .val (.int (Int32.ofNat (tab.getD i 0)))] [(.int (Int32.ofNat (tab.getD i 0 - 1))), (.ref ca)])) t := by
    intro t kt
    show Steps p.tables e below (T6.setTop (mkF m 29 #[.val (.ref r0), .val (.long q1), .second, .val (.int (Int32.ofNat i)), .val (.int (Int32.ofNat (tab.getD i 0)))] [(.int (Int32.ofNat (tab.getD i 0 - 1))), (.ref ca)])) _
    refine X6.laload hx (j := (Int32.ofNat (tab.getD i 0 - 1))) (v := (.long (cs.getD (tab.getD i 0 - 1) 0))) (by rw [e6]; exact Ar10.1) (State.isArrayOf_alike hZ.alike Ar10.2.1) Ar10.2.2 hin10 hat10 (g := (mkF m 29 #[.val (.ref r0), .val (.long q1), .second, .val (.int (Int32.ofNat i)), .val (.int (Int32.ofNat (tab.getD i 0)))] [(.int (Int32.ofNat (tab.getD i 0 - 1))), (.ref ca)])) rfl rfl (hb hby d7_29) _ ?_
    show Steps p.tables e below (T6.setTop (mkF m 30 #[.val (.ref r0), .val (.long q1), .second, .val (.int (Int32.ofNat i)), .val (.int (Int32.ofNat (tab.getD i 0)))] [(.long (cs.getD (tab.getD i 0 - 1) 0))])) _
    refine XS.lloadN X6.here hx rfl (hb hby d7_30) rfl ?_
    show Steps p.tables e below (T6.setTop (mkF m 31 #[.val (.ref r0), .val (.long q1), .second, .val (.int (Int32.ofNat i)), .val (.int (Int32.ofNat (tab.getD i 0)))] [(.long q1), (.long (cs.getD (tab.getD i 0 - 1) 0))])) _
    refine XS.lcmp X6.here hx rfl (hb hby d7_31) rfl ?_
    exact kt
  have hd11 : (cs.getD (tab.getD i 0 - 1) 0) = q1 := hq
  have c13 : ∀ t, Steps p.tables e below (T6.setTop (mkF m 39 #[.val (.ref r0), .val (.long q1), .second, .val (.int (Int32.ofNat i)), .val (.int (Int32.ofNat (tab.getD i 0)))] [(.int ((Int32.ofNat (tab.getD i 0)) - (1 : Int32)))])) t → Steps p.tables e below (T6.setTop (mkF m 32 #[.val (.ref r0), .val (.long q1), .second, .val (.int (Int32.ofNat i)), .val (.int (Int32.ofNat (tab.getD i 0)))] [(.int (lcmpW (cs.getD (tab.getD i 0 - 1) 0) q1))])) t := by
    intro t kt
    show Steps p.tables e below (T6.setTop (mkF m 32 #[.val (.ref r0), .val (.long q1), .second, .val (.int (Int32.ofNat i)), .val (.int (Int32.ofNat (tab.getD i 0)))] [(.int (lcmpW (cs.getD (tab.getD i 0 - 1) 0) q1))])) _
    refine XS.ifNo X6.here hx rfl (hb hby d7_32) rfl ((if0 _ _).trans (teq ((lw_eq _ _).mpr hd11)).2) ?_
    show Steps p.tables e below (T6.setTop (mkF m 35 #[.val (.ref r0), .val (.long q1), .second, .val (.int (Int32.ofNat i)), .val (.int (Int32.ofNat (tab.getD i 0)))] [])) _
    refine XS.iload X6.here hx rfl (hb hby d7_35) rfl ?_
    show Steps p.tables e below (T6.setTop (mkF m 37 #[.val (.ref r0), .val (.long q1), .second, .val (.int (Int32.ofNat i)), .val (.int (Int32.ofNat (tab.getD i 0)))] [(.int (Int32.ofNat (tab.getD i 0)))])) _
    refine XS.iconst X6.here hx rfl (hb hby d7_37) ?_
    show Steps p.tables e below (T6.setTop (mkF m 38 #[.val (.ref r0), .val (.long q1), .second, .val (.int (Int32.ofNat i)), .val (.int (Int32.ofNat (tab.getD i 0)))] [(.int (1 : Int32)), (.int (Int32.ofNat (tab.getD i 0)))])) _
    refine XS.isub X6.here hx rfl (hb hby d7_38) rfl ?_
    exact kt
  exact ⟨T6, _, h0, X6, e6, N0, (Keep.refl h0 []), rfl, fun t kt => c2 _ (st1 _ (c5 _ (c7 _ (st6 _ (c8 _ (c9 _ (c12 _ (c13 _ (kt)))))))))⟩
theorem d7_40 : decode prog_18_method_2_code 40 = .ok (.iload_n 3, 1) := by decide +kernel
theorem d7_41 : decode prog_18_method_2_code 41 = .ok (.iconst 1, 1) := by decide +kernel
theorem d7_42 : decode prog_18_method_2_code 42 = .ok (.iadd, 1) := by decide +kernel
theorem d7_43 : decode prog_18_method_2_code 43 = .ok (.aload_n 0, 1) := by decide +kernel
theorem d7_44 : decode prog_18_method_2_code 44 = .ok (.getfield 27, 3) := by decide +kernel
theorem d7_47 : decode prog_18_method_2_code 47 = .ok (.arraylength, 1) := by decide +kernel
theorem d7_48 : decode prog_18_method_2_code 48 = .ok (.iconst 1, 1) := by decide +kernel
theorem d7_49 : decode prog_18_method_2_code 49 = .ok (.isub, 1) := by decide +kernel
theorem d7_50 : decode prog_18_method_2_code 50 = .ok (.iand, 1) := by decide +kernel
theorem d7_51 : decode prog_18_method_2_code 51 = .ok (.istore_n 3, 1) := by decide +kernel
theorem d7_52 : decode prog_18_method_2_code 52 = .ok (.goto (-46), 3) := by decide +kernel
set_option maxRecDepth 65536 in
set_option maxHeartbeats 40000000 in
theorem tp6 {p : Program} {l : Launch} {e : Env} {R : Room} {s : State} {m : MethodId} {args : Array Value} {below : List Frame} {meth : Method} {c : Code} {T0 : State} {locs : List Loc} {cells slots : Nat} {Z : State} {a0 : Array Value} {h0 : Heap} {n0 : Nat} (r0 : Addr) (q1 : Int64) (s4 : Slot) (sa : Addr) (ks : ClassId) (M : Nat) (tab : List Nat) (ca : Addr) (kc : ClassId) (cs : List Int64) (dj : Value) (i : Nat)
    (X0 : Stand p l e R s m args below meth c T0 locs cells slots) (hx : p.tables.exec = Jvm.exec) (hZ : Z.Warmed39 s.vm) (hw : ∀ d ∈ tables_1, d.before a0 Z = true) (hby : c.code = prog_18_method_2_code) (hml : c.maxLocals = 5) (hown : s.vm.findClass "com/example/mapstone/mapstone/engine/ConceptIndex" = some m.cls) (e0 : T0.heap = h0) (N0 : Fr n0 locs) (Z0 : n0 ≤ h0.size) (F_s : Fld Z h0 r0 "com/example/mapstone/mapstone/engine/ConceptIndex" "slots" "[I" (.ref sa)) (V_s : Arv Z h0 sa ks .int (Int32.ofNat M) (own_tv tab) (.int (0 : Int32))) (F_c : Fld Z h0 r0 "com/example/mapstone/mapstone/engine/ConceptIndex" "concepts" "[J" (.ref ca)) (V_c : Arv Z h0 ca kc .long (Int32.ofNat cs.length) (cs.map Value.long) dj) (hi : i < M) (hM8 : M ≤ 8) (hl : tab.length = M) (hv : ∀ i, tab.getD i 0 ≤ cs.length) (hn : cs.length ≤ 3) (hs4 : One s4) (ht : ¬ tab.getD i 0 = 0) (hq : ¬ cs.getD (tab.getD i 0 - 1) 0 = q1) :
    ∃ (T' : State) (locs' : List Loc) (h' : Heap), Stand p l e R s m args below meth c T' locs' cells slots ∧ T'.heap = h' ∧ Fr n0 locs' ∧ Keep h0 h' [] ∧ h' = h0 ∧ ∀ t, Steps p.tables e below (T'.setTop (mkF m 6 #[.val (.ref r0), .val (.long q1), .second, .val (.int (((Int32.ofNat i) + (1 : Int32)) &&& ((Int32.ofNat M) - (1 : Int32)))), .val (.int (Int32.ofNat (tab.getD i 0)))] [])) t → Steps p.tables e below (T0.setTop (mkF m 6 #[.val (.ref r0), .val (.long q1), .second, .val (.int (Int32.ofNat i)), s4] [])) t := by
  have c2 : ∀ t, Steps p.tables e below (T0.setTop (mkF m 7 #[.val (.ref r0), .val (.long q1), .second, .val (.int (Int32.ofNat i)), s4] [(.ref r0)])) t → Steps p.tables e below (T0.setTop (mkF m 6 #[.val (.ref r0), .val (.long q1), .second, .val (.int (Int32.ofNat i)), s4] [])) t := by
    intro t kt
    show Steps p.tables e below (T0.setTop (mkF m 6 #[.val (.ref r0), .val (.long q1), .second, .val (.int (Int32.ofNat i)), s4] [])) _
    refine XS.aloadN X0.here hx rfl (hb hby d7_6) rfl rfl ?_
    exact kt
  obtain ⟨T1, X1, e1, st1⟩ := getF X0 hx hZ hown (host := "") (Or.inl (hw _ (List.mem_of_getElem? (i := 27) rfl))) Via.refl e0 F_s (g := (mkF m 7 #[.val (.ref r0), .val (.long q1), .second, .val (.int (Int32.ofNat i)), s4] [(.ref r0)])) rfl rfl (hb hby d7_7)
  have Vc3 := V_s
  obtain ⟨cl3, Ar3, qk3, S3, M3, H3, G3⟩ := Vc3
  have hin3 : ¬ ((Int32.ofNat i) < 0 ∨ cl3.slots.size ≤ ((Int32.ofNat i)).toNatClampNeg) := inb_of S3 (own_in i M hi hM8)
  have hat3 : cl3.slots[((Int32.ofNat i)).toNatClampNeg]? = some (.int (Int32.ofNat (tab.getD i 0))) := H3.at hin3 (own_tvat tab M i hl hi hM8 _)
  have c5 : ∀ t, Steps p.tables e below (T1.setTop (mkF m 16 #[.val (.ref r0), .val (.long q1), .second, .val (.int (Int32.ofNat i)), .val (.int (Int32.ofNat (tab.getD i 0)))] [(.int (Int32.ofNat (tab.getD i 0)))])) t → Steps p.tables e below (T1.setTop (mkF m 10 #[.val (.ref r0), .val (.long q1), .second, .val (.int (Int32.ofNat i)), s4] [(.ref sa)])) t := by
    intro t kt
    show Steps p.tables e below (T1.setTop (mkF m 10 #[.val (.ref r0), .val (.long q1), .second, .val (.int (Int32.ofNat i)), s4] [(.ref sa)])) _
    refine XS.iloadN X1.here hx rfl (hb hby d7_10) rfl ?_
    show Steps p.tables e below (T1.setTop (mkF m 11 #[.val (.ref r0), .val (.long q1), .second, .val (.int (Int32.ofNat i)), s4] [(.int (Int32.ofNat i)), (.ref sa)])) _
    refine X1.iaload hx (j := (Int32.ofNat i)) (v := (.int (Int32.ofNat (tab.getD i 0)))) (by rw [e1]; exact Ar3.1) (State.isArrayOf_alike hZ.alike Ar3.2.1) Ar3.2.2 hin3 hat3 (g := (mkF m 11 #[.val (.ref r0), .val (.long q1), .second, .val (.int (Int32.ofNat i)), s4] [(.int (Int32.ofNat i)), (.ref sa)])) rfl rfl (hb hby d7_11) _ ?_
    show Steps p.tables e below (T1.setTop (mkF m 12 #[.val (.ref r0), .val (.long q1), .second, .val (.int (Int32.ofNat i)), s4] [(.int (Int32.ofNat (tab.getD i 0)))])) _
    refine XS.istore X1.here hx rfl (hb hby d7_12) rfl (l' := #[.val (.ref r0), .val (.long q1), .second, .val (.int (Int32.ofNat i)), .val (.int (Int32.ofNat (tab.getD i 0)))]) (own_st4 hs4) ?_
    show Steps p.tables e below (T1.setTop (mkF m 14 #[.val (.ref r0), .val (.long q1), .second, .val (.int (Int32.ofNat i)), .val (.int (Int32.ofNat (tab.getD i 0)))] [])) _
    refine XS.iload X1.here hx rfl (hb hby d7_14) rfl ?_
    exact kt
  have hd4 : ¬ ((Int32.ofNat (tab.getD i 0)) = (0 : Int32)) := fun q => ht ((own_zero _ (Nat.le_trans (hv i) hn)).mp q)
  have c7 : ∀ t, Steps p.tables e below (T1.setTop (mkF m 22 #[.val (.ref r0), .val (.long q1), .second, .val (.int (Int32.ofNat i)), .val (.int (Int32.ofNat (tab.getD i 0)))] [(.ref r0)])) t → Steps p.tables e below (T1.setTop (mkF m 16 #[.val (.ref r0), .val (.long q1), .second, .val (.int (Int32.ofNat i)), .val (.int (Int32.ofNat (tab.getD i 0)))] [(.int (Int32.ofNat (tab.getD i 0)))])) t := by
    intro t kt
    show Steps p.tables e below (T1.setTop (mkF m 16 #[.val (.ref r0), .val (.long q1), .second, .val (.int (Int32.ofNat i)), .val (.int (Int32.ofNat (tab.getD i 0)))] [(.int (Int32.ofNat (tab.getD i 0)))])) _
    refine XS.ifYes X1.here hx rfl (pc0 := 16) (pc' := 21) rfl (hb hby d7_16) rfl ((if0 _ _).trans (feq hd4).2) (by decide) (by decide) ?_
    show Steps p.tables e below (T1.setTop (mkF m 21 #[.val (.ref r0), .val (.long q1), .second, .val (.int (Int32.ofNat i)), .val (.int (Int32.ofNat (tab.getD i 0)))] [])) _
    refine XS.aloadN X1.here hx rfl (hb hby d7_21) rfl rfl ?_
    exact kt
  obtain ⟨T6, X6, e6, st6⟩ := getF X1 hx hZ hown (host := "") (Or.inl (hw _ (List.mem_of_getElem? (i := 10) rfl))) Via.refl e1 F_c (g := (mkF m 22 #[.val (.ref r0), .val (.long q1), .second, .val (.int (Int32.ofNat i)), .val (.int (Int32.ofNat (tab.getD i 0)))] [(.ref r0)])) rfl rfl (hb hby d7_22)
  have c8 : ∀ t, Steps p.tables e below (T6.setTop (mkF m 29 #[.val (.ref r0), .val (.long q1), .second, .val (.int (Int32.ofNat i)), .val (.int (Int32.ofNat (tab.getD i 0)))] [(.int ((Int32.ofNat (tab.getD i 0)) - (1 : Int32))), (.ref ca)])) t → Steps p.tables e below (T6.setTop (mkF m 25 #[.val (.ref r0), .val (.long q1), .second, .val (.int (Int32.ofNat i)), .val (.int (Int32.ofNat (tab.getD i 0)))] [(.ref ca)])) t := by
    intro t kt
    show Steps p.tables e below (T6.setTop (mkF m 25 #[.val (.ref r0), .val (.long q1), .second, .val (.int (Int32.ofNat i)), .val (.int (Int32.ofNat (tab.getD i 0)))] [(.ref ca)])) _
    refine XS.iload X6.here hx rfl (hb hby d7_25) rfl ?_
    show Steps p.tables e below (T6.setTop (mkF m 27 #[.val (.ref r0), .val (.long q1), .second, .val (.int (Int32.ofNat i)), .val (.int (Int32.ofNat (tab.getD i 0)))] [(.int (Int32.ofNat (tab.getD i 0))), (.ref ca)])) _
    refine XS.iconst X6.here hx rfl (hb hby d7_27) ?_
    show Steps p.tables e below (T6.setTop (mkF m 28 #[.val (.ref r0), .val (.long q1), .second, .val (.int (Int32.ofNat i)), .val (.int (Int32.ofNat (tab.getD i 0)))] [(.int (1 : Int32)), (.int (Int32.ofNat (tab.getD i 0))), (.ref ca)])) _
    refine XS.isub X6.here hx rfl (hb hby d7_28) rfl ?_
    exact kt
  have c9 : ∀ t, Steps p.tables e below (T6.setTop (mkF m 29 #[.val (.ref r0), .val (.long q1), .second, .val (.int (Int32.ofNat i)), .val (.int (Int32.ofNat (tab.getD i 0)))] [(.int (Int32.ofNat (tab.getD i 0 - 1))), (.ref ca)])) t → Steps p.tables e below (T6.setTop (mkF m 29 #[.val (.ref r0), .val (.long q1), .second, .val (.int (Int32.ofNat i)), .val (.int (Int32.ofNat (tab.getD i 0)))] [(.int ((Int32.ofNat (tab.getD i 0)) - (1 : Int32))), (.ref ca)])) t := fun t kt => castTop (congrArg (fun z => (mkF m 29 #[.val (.ref r0), .val (.long q1), .second, .val (.int (Int32.ofNat i)), .val (.int (Int32.ofNat (tab.getD i 0)))] [(.int z), (.ref ca)])) (show ((Int32.ofNat (tab.getD i 0)) - (1 : Int32)) = (Int32.ofNat (tab.getD i 0 - 1)) from own_pre _ (Nat.pos_of_ne_zero ht) (Nat.le_trans (hv i) hn))) kt
  have Vc10 := V_c
  obtain ⟨cl10, Ar10, qk10, S10, M10, H10, G10⟩ := Vc10
  have hin10 : ¬ ((Int32.ofNat (tab.getD i 0 - 1)) < 0 ∨ cl10.slots.size ≤ ((Int32.ofNat (tab.getD i 0 - 1))).toNatClampNeg) := inb_of S10 (own_in (tab.getD i 0 - 1) cs.length (by have := hv i; omega) (by omega))
  have hat10 : cl10.slots[((Int32.ofNat (tab.getD i 0 - 1))).toNatClampNeg]? = some (.long (cs.getD (tab.getD i 0 - 1) 0)) := H10.at hin10 (own_csat cs _ (by have := hv i; omega) hn _)
  have c12 : ∀ t, Steps p.tables e below (T6.setTop (mkF m 32 #[.val (.ref r0), .val (.long q1), .second, .val (.int (Int32.ofNat i)), .val (.int (Int32.ofNat (tab.getD i 0)))] [(.int (lcmpW (cs.getD (tab.getD i 0 - 1) 0) q1))])) t → Steps p.tables e below (T6.setTop (mkF m 29 #[.val (.ref r0), .val (.long q1), .second, .val (.int (Int32.ofNat i)), .val (.int (Int32.ofNat (tab.getD i 0)))] [(.int (Int32.ofNat (tab.getD i 0 - 1))), (.ref ca)])) t := by
    intro t kt
    show Steps p.tables e below (T6.setTop (mkF m 29 #[.val (.ref r0), .val (.long q1), .second, .val (.int (Int32.ofNat i)), .val (.int (Int32.ofNat (tab.getD i 0)))] [(.int (Int32.ofNat (tab.getD i 0 - 1))), (.ref ca)])) _
    refine X6.laload hx (j := (Int32.ofNat (tab.getD i 0 - 1))) (v := (.long (cs.getD (tab.getD i 0 - 1) 0))) (by rw [e6]; exact Ar10.1) (State.isArrayOf_alike hZ.alike Ar10.2.1) Ar10.2.2 hin10 hat10 (g := (mkF m 29 #[.val (.ref r0), .val (.long q1), .second, .val (.int (Int32.ofNat i)), .val (.int (Int32.ofNat (tab.getD i 0)))] [(.int (Int32.ofNat (tab.getD i 0 - 1))), (.ref ca)])) rfl rfl (hb hby d7_29) _ ?_
    show Steps p.tables e below (T6.setTop (mkF m 30 #[.val (.ref r0), .val (.long q1), .second, .val (.int (Int32.ofNat i)), .val (.int (Int32.ofNat (tab.getD i 0)))] [(.long (cs.getD (tab.getD i 0 - 1) 0))])) _
    refine XS.lloadN X6.here hx rfl (hb hby d7_30) rfl ?_
    show Steps p.tables e below (T6.setTop (mkF m 31 #[.val (.ref r0), .val (.long q1), .second, .val (.int (Int32.ofNat i)), .val (.int (Int32.ofNat (tab.getD i 0)))] [(.long q1), (.long (cs.getD (tab.getD i 0 - 1) 0))])) _
    refine XS.lcmp X6.here hx rfl (hb hby d7_31) rfl ?_
    exact kt
  have hd11 : ¬ ((cs.getD (tab.getD i 0 - 1) 0) = q1) := hq
  have c14 : ∀ t, Steps p.tables e below (T6.setTop (mkF m 44 #[.val (.ref r0), .val (.long q1), .second, .val (.int (Int32.ofNat i)), .val (.int (Int32.ofNat (tab.getD i 0)))] [(.ref r0), (.int ((Int32.ofNat i) + (1 : Int32)))])) t → Steps p.tables e below (T6.setTop (mkF m 32 #[.val (.ref r0), .val (.long q1), .second, .val (.int (Int32.ofNat i)), .val (.int (Int32.ofNat (tab.getD i 0)))] [(.int (lcmpW (cs.getD (tab.getD i 0 - 1) 0) q1))])) t := by
    intro t kt
    show Steps p.tables e below (T6.setTop (mkF m 32 #[.val (.ref r0), .val (.long q1), .second, .val (.int (Int32.ofNat i)), .val (.int (Int32.ofNat (tab.getD i 0)))] [(.int (lcmpW (cs.getD (tab.getD i 0 - 1) 0) q1))])) _
    refine XS.ifYes X6.here hx rfl (pc0 := 32) (pc' := 40) rfl (hb hby d7_32) rfl ((if0 _ _).trans (feq (fun q => hd11 ((lw_eq _ _).mp q))).2) (by decide) (by decide) ?_
    show Steps p.tables e below (T6.setTop (mkF m 40 #[.val (.ref r0), .val (.long q1), .second, .val (.int (Int32.ofNat i)), .val (.int (Int32.ofNat (tab.getD i 0)))] [])) _
    refine XS.iloadN X6.here hx rfl (hb hby d7_40) rfl ?_
    show Steps p.tables e below (T6.setTop (mkF m 41 #[.val (.ref r0), .val (.long q1), .second, .val (.int (Int32.ofNat i)), .val (.int (Int32.ofNat (tab.getD i 0)))] [(.int (Int32.ofNat i))])) _
    refine XS.iconst X6.here hx rfl (hb hby d7_41) ?_
    show Steps p.tables e below (T6.setTop (mkF m 42 #[.val (.ref r0), .val (.long q1), .second, .val (.int (Int32.ofNat i)), .val (.int (Int32.ofNat (tab.getD i 0)))] [(.int (1 : Int32)), (.int (Int32.ofNat i))])) _
    refine XS.iadd X6.here hx rfl (hb hby d7_42) rfl ?_
    show Steps p.tables e below (T6.setTop (mkF m 43 #[.val (.ref r0), .val (.long q1), .second, .val (.int (Int32.ofNat i)), .val (.int (Int32.ofNat (tab.getD i 0)))] [(.int ((Int32.ofNat i) + (1 : Int32)))])) _
    refine XS.aloadN X6.here hx rfl (hb hby d7_43) rfl rfl ?_
    exact kt
  obtain ⟨T13, X13, e13, st13⟩ := getF X6 hx hZ hown (host := "") (Or.inl (hw _ (List.mem_of_getElem? (i := 27) rfl))) Via.refl e6 F_s (g := (mkF m 44 #[.val (.ref r0), .val (.long q1), .second, .val (.int (Int32.ofNat i)), .val (.int (Int32.ofNat (tab.getD i 0)))] [(.ref r0), (.int ((Int32.ofNat i) + (1 : Int32)))])) rfl rfl (hb hby d7_44)
  have Vc15 := V_s
  obtain ⟨cl15, Ar15, qk15, S15, M15, H15, G15⟩ := Vc15
  have c16 : ∀ t, Steps p.tables e below (T13.setTop (mkF m 6 #[.val (.ref r0), .val (.long q1), .second, .val (.int (((Int32.ofNat i) + (1 : Int32)) &&& ((Int32.ofNat M) - (1 : Int32)))), .val (.int (Int32.ofNat (tab.getD i 0)))] [])) t → Steps p.tables e below (T13.setTop (mkF m 47 #[.val (.ref r0), .val (.long q1), .second, .val (.int (Int32.ofNat i)), .val (.int (Int32.ofNat (tab.getD i 0)))] [(.ref sa), (.int ((Int32.ofNat i) + (1 : Int32)))])) t := by
    intro t kt
    show Steps p.tables e below (T13.setTop (mkF m 47 #[.val (.ref r0), .val (.long q1), .second, .val (.int (Int32.ofNat i)), .val (.int (Int32.ofNat (tab.getD i 0)))] [(.ref sa), (.int ((Int32.ofNat i) + (1 : Int32)))])) _
    refine X13.arraylength hx (by rw [e13]; exact Ar15.1) (State.isArrayOf_alike hZ.alike Ar15.2.1) (g := (mkF m 47 #[.val (.ref r0), .val (.long q1), .second, .val (.int (Int32.ofNat i)), .val (.int (Int32.ofNat (tab.getD i 0)))] [(.ref sa), (.int ((Int32.ofNat i) + (1 : Int32)))])) rfl rfl (hb hby d7_47) _ ?_
    rw [len_of S15 M15]
    show Steps p.tables e below (T13.setTop (mkF m 48 #[.val (.ref r0), .val (.long q1), .second, .val (.int (Int32.ofNat i)), .val (.int (Int32.ofNat (tab.getD i 0)))] [(.int (Int32.ofNat M)), (.int ((Int32.ofNat i) + (1 : Int32)))])) _
    refine XS.iconst X13.here hx rfl (hb hby d7_48) ?_
    show Steps p.tables e below (T13.setTop (mkF m 49 #[.val (.ref r0), .val (.long q1), .second, .val (.int (Int32.ofNat i)), .val (.int (Int32.ofNat (tab.getD i 0)))] [(.int (1 : Int32)), (.int (Int32.ofNat M)), (.int ((Int32.ofNat i) + (1 : Int32)))])) _
    refine XS.isub X13.here hx rfl (hb hby d7_49) rfl ?_
    show Steps p.tables e below (T13.setTop (mkF m 50 #[.val (.ref r0), .val (.long q1), .second, .val (.int (Int32.ofNat i)), .val (.int (Int32.ofNat (tab.getD i 0)))] [(.int ((Int32.ofNat M) - (1 : Int32))), (.int ((Int32.ofNat i) + (1 : Int32)))])) _
    refine XS.iand X13.here hx rfl (hb hby d7_50) rfl ?_
    show Steps p.tables e below (T13.setTop (mkF m 51 #[.val (.ref r0), .val (.long q1), .second, .val (.int (Int32.ofNat i)), .val (.int (Int32.ofNat (tab.getD i 0)))] [(.int (((Int32.ofNat i) + (1 : Int32)) &&& ((Int32.ofNat M) - (1 : Int32))))])) _
    refine XS.istoreN X13.here hx rfl (hb hby d7_51) rfl (l' := #[.val (.ref r0), .val (.long q1), .second, .val (.int (((Int32.ofNat i) + (1 : Int32)) &&& ((Int32.ofNat M) - (1 : Int32)))), .val (.int (Int32.ofNat (tab.getD i 0)))]) rfl ?_
    show Steps p.tables e below (T13.setTop (mkF m 52 #[.val (.ref r0), .val (.long q1), .second, .val (.int (((Int32.ofNat i) + (1 : Int32)) &&& ((Int32.ofNat M) - (1 : Int32)))), .val (.int (Int32.ofNat (tab.getD i 0)))] [])) _
    refine XS.goto X13.here hx rfl (pc0 := 52) (pc' := 6) rfl (hb hby d7_52) (by decide) (by decide) ?_
    exact kt
  exact ⟨T13, _, h0, X13, e13, N0, (Keep.refl h0 []), rfl, fun t kt => c2 _ (st1 _ (c5 _ (c7 _ (st6 _ (c8 _ (c9 _ (c12 _ (c14 _ (st13 _ (c16 _ (kt)))))))))))⟩
set_option maxRecDepth 65536 in
set_option maxHeartbeats 40000000 in
theorem llook {p : Program} {l : Launch} {e : Env} {R : Room} {s : State} {m : MethodId} {args : Array Value} {below : List Frame} {meth : Method} {c : Code} {cells slots : Nat} {Z : State} {a0 : Array Value} {h0 : Heap} {n0 : Nat} {locs : List Loc} (r0 : Addr) (q1 : Int64) (sa : Addr) (ks : ClassId) (M : Nat) (tab : List Nat) (ca : Addr) (kc : ClassId) (cs : List Int64) (dj : Value) (hx : p.tables.exec = Jvm.exec) (hZ : Z.Warmed39 s.vm) (hw : ∀ d ∈ tables_1, d.before a0 Z = true) (hby : c.code = prog_18_method_2_code) (hml : c.maxLocals = 5) (hown : s.vm.findClass "com/example/mapstone/mapstone/engine/ConceptIndex" = some m.cls) (N0 : Fr n0 locs) (Z0 : n0 ≤ h0.size) (F_s : Fld Z h0 r0 "com/example/mapstone/mapstone/engine/ConceptIndex" "slots" "[I" (.ref sa)) (V_s : Arv Z h0 sa ks .int (Int32.ofNat M) (own_tv tab) (.int (0 : Int32))) (F_c : Fld Z h0 r0 "com/example/mapstone/mapstone/engine/ConceptIndex" "concepts" "[J" (.ref ca)) (V_c : Arv Z h0 ca kc .long (Int32.ofNat cs.length) (cs.map Value.long) dj) (hM : M = 2 ∨ M = 4 ∨ M = 8) (hl : tab.length = M) (hv : ∀ i, tab.getD i 0 ≤ cs.length) (hn : cs.length ≤ 3) :
    ∀ (k i : Nat), i < M → tab.getD (own_free tab M k i) 0 = 0 → ∀ (T0 : State) (s4 : Slot), One s4 → Stand p l e R s m args below meth c T0 locs cells slots → T0.heap = h0 →
      ∃ (T' : State) (locs' : List Loc) (pc : Nat) (i' f' : Int32), (pc = 20 ∨ pc = 39) ∧ Stand p l e R s m args below meth c T' locs' cells slots ∧ T'.heap = h0 ∧ Fr n0 locs' ∧ ∀ t, Steps p.tables e below (T'.setTop (mkF m pc #[.val (.ref r0), .val (.long q1), .second, .val (.int i'), .val (.int f')] [.int (own_lk tab M (own_e cs q1) k i)])) t → Steps p.tables e below (T0.setTop (mkF m 6 #[.val (.ref r0), .val (.long q1), .second, .val (.int (Int32.ofNat i)), s4] [])) t := by
  have hM8 : M ≤ 8 := by omega
  intro k
  induction k generalizing locs with
  | zero =>
    intro i hi ht T0 s4 hs4 X e0
    obtain ⟨T1, l1, h1, X1, e1, N1, -, q1', s1⟩ := tp20 r0 q1 s4 sa ks M tab ca kc cs dj i X hx hZ hw hby hml hown e0 N0 Z0 F_s V_s F_c V_c hi hM8 hl hv hn hs4 ht
    subst q1'
    exact ⟨T1, l1, 20, _, _, Or.inl rfl, X1, e1, N1, s1⟩
  | succ k ih =>
    intro i hi ht T0 s4 hs4 X e0
    by_cases z : tab.getD i 0 = 0
    · obtain ⟨T1, l1, h1, X1, e1, N1, -, q1', s1⟩ := tp20 r0 q1 s4 sa ks M tab ca kc cs dj i X hx hZ hw hby hml hown e0 N0 Z0 F_s V_s F_c V_c hi hM8 hl hv hn hs4 z
      subst q1'
      rw [show own_lk tab M (own_e cs q1) (k + 1) i = (-1 : Int32) from if_pos z]
      exact ⟨T1, l1, 20, _, _, Or.inl rfl, X1, e1, N1, s1⟩
    · by_cases y : cs.getD (tab.getD i 0 - 1) 0 = q1
      · obtain ⟨T1, l1, h1, X1, e1, N1, -, q1', s1⟩ := tp39 r0 q1 s4 sa ks M tab ca kc cs dj i X hx hZ hw hby hml hown e0 N0 Z0 F_s V_s F_c V_c hi hM8 hl hv hn hs4 z y
        subst q1'
        rw [show own_lk tab M (own_e cs q1) (k + 1) i = (Int32.ofNat (tab.getD i 0)) - (1 : Int32) from (if_neg z).trans (if_pos (decide_eq_true y))]
        exact ⟨T1, l1, 39, _, _, Or.inr rfl, X1, e1, N1, s1⟩
      · obtain ⟨T1, l1, h1, X1, e1, N1, -, q1', s1⟩ := tp6 r0 q1 s4 sa ks M tab ca kc cs dj i X hx hZ hw hby hml hown e0 N0 Z0 F_s V_s F_c V_c hi hM8 hl hv hn hs4 z y
        subst q1'
        have q : own_free tab M (k + 1) i = own_free tab M k ((i + 1) % M) := if_neg z
        have q' : own_lk tab M (own_e cs q1) (k + 1) i = own_lk tab M (own_e cs q1) k ((i + 1) % M) := (if_neg z).trans (if_neg (fun w => y (of_decide_eq_true w)))
        rw [q] at ht
        rw [q']
        obtain ⟨T2, l2, pc, i', f', hpc, X2, e2, N2, s2⟩ := ih N1 ((i + 1) % M) (own_ltM M _ hM) ht T1 (.val (.int (Int32.ofNat (tab.getD i 0)))) (One.val rfl) X1 e1
        refine ⟨T2, l2, pc, i', f', hpc, X2, e2, N2, fun t kt => s1 t ?_⟩
        rw [own_next M hM i hi]
        exact s2 t kt
theorem d7_0 : decode prog_18_method_2_code 0 = .ok (.aload_n 0, 1) := by decide +kernel
theorem d7_1 : decode prog_18_method_2_code 1 = .ok (.lload_n 1, 1) := by decide +kernel
theorem d7_2 : decode prog_18_method_2_code 2 = .ok (.invokevirtual 35, 3) := by decide +kernel
theorem d7_5 : decode prog_18_method_2_code 5 = .ok (.istore_n 3, 1) := by decide +kernel
theorem d7_20 : decode prog_18_method_2_code 20 = .ok (.ireturn, 1) := by decide +kernel
theorem d7_39 : decode prog_18_method_2_code 39 = .ok (.ireturn, 1) := by decide +kernel
theorem pn_7 : plainName "com/example/mapstone/mapstone/engine/ConceptIndex" = true := by first | (simp [plainName, overriddenIn]; done) | decide +kernel
theorem ef_7 (m : MethodId) (x0 : Addr) (x1 : Int64) : entryFrame m #[(.ref x0), (.long x1)] 5 = mkF m 0 #[.val (.ref x0), .val (.long x1), .second, .unset, .unset] [] := by first | (simp [entryFrame, mkF, argsToLocals, Value.category]; done) | rfl
def Q7 (Z : State) (r0 : Addr) (q1 : Int64) (sh : Int32) (sa : Addr) (ks : ClassId) (M : Nat) (tab : List Nat) (ca : Addr) (kc : ClassId) (cs : List Int64) (dj : Value) (h0 : Heap) (n0 : Nat) (v : Option Value) (h : Heap) (L : List Loc) : Prop := v = some (.int (own_lk tab M (own_e cs q1) 8 (own_sN sh q1))) ∧ Fr n0 L ∧ h = h0
set_option maxRecDepth 65536 in
set_option maxHeartbeats 40000000 in
theorem rm7 (l : Launch) (Z : State) (a0 : Array Value) (hw : ∀ d ∈ tables_1, d.before a0 Z = true) (ws : List Jvm.Cond) (r0 : Addr) (q1 : Int64) (sh : Int32) (sa : Addr) (ks : ClassId) (M : Nat) (tab : List Nat) (ca : Addr) (kc : ClassId) (cs : List Int64) (dj : Value) (h0 : Heap) (n0 : Nat) (Z0 : n0 ≤ h0.size) (F_sh : Fld Z h0 r0 "com/example/mapstone/mapstone/engine/ConceptIndex" "shift" "I" (.int sh)) (E0 : Exa Z h0 r0 "com/example/mapstone/mapstone/engine/ConceptIndex") (F_s : Fld Z h0 r0 "com/example/mapstone/mapstone/engine/ConceptIndex" "slots" "[I" (.ref sa)) (V_s : Arv Z h0 sa ks .int (Int32.ofNat M) (own_tv tab) (.int (0 : Int32))) (F_c : Fld Z h0 r0 "com/example/mapstone/mapstone/engine/ConceptIndex" "concepts" "[J" (.ref ca)) (V_c : Arv Z h0 ca kc .long (Int32.ofNat cs.length) (cs.map Value.long) dj) (hM : M = 2 ∨ M = 4 ∨ M = 8) (hl : tab.length = M) (hv : ∀ i, tab.getD i 0 ≤ cs.length) (hn : cs.length ≤ 3) (hsl : own_slot sh q1 = Int32.ofNat (own_sN sh q1) ∧ own_sN sh q1 < M) (hend : tab.getD (own_free tab M 8 (own_sN sh q1)) 0 = 0) :
    MetFree l (⟨"com/example/mapstone/mapstone/engine/ConceptIndex", "place", "(J)I"⟩ : MethodName) (head1 (Jvm.Cond.code (⟨"com/example/mapstone/mapstone/engine/ConceptIndex", "place", "(J)I"⟩ : MethodName) prog_18_method_2_code 5 (some .int) :: ws) ({ frames := 1, cells := 0, slots := 0, locals := 14 } : Room)) (fun a U => a = #[(.ref r0), (.long q1)] ∧ Z.Warmed39 U.vm ∧ U.heap = h0) (fun _ _ _ _ _ => True) (fun _ U o U' => ∃ v L, o = .returned v ∧ Q7 Z r0 q1 sh sa ks M tab ca kc cs dj h0 n0 v U'.heap L ∧ FrameEnd U o U' L ({ frames := 1, cells := 0, slots := 0, locals := 14 } : Room).cells ({ frames := 1, cells := 0, slots := 0, locals := 14 } : Room).slots) := by
  refine MetFree.of_bodySF (plainFor_of_name pn_7) hisR ?_
  intro p e s m args below meth c s₁ Bd hml0 hP hK
  obtain ⟨rfl, hZ, hh⟩ := hP
  have hx := Bd.exec
  have hby := Bd.bytes
  have hml : c.maxLocals = 5 := hml0
  have hown : s.vm.findClass "com/example/mapstone/mapstone/engine/ConceptIndex" = some m.cls := findClass_of_methodNamed Bd.named
  have hnm := (name_of_methodNamed Bd.named Bd.method).1
  have X0 : Stand p l e ({ frames := 1, cells := 0, slots := 0, locals := 14 } : Room) s m #[(.ref r0), (.long q1)] below meth c s₁ [] 0 0 := Stand.of_body Bd
  have e0 : s₁.heap = h0 := by rw [← hh, Bd.state]; rfl
  have N0 := Fr.nil n0
  have pre0 : ∀ t, Steps p.tables e below (s₁.setTop (mkF m 0 #[.val (.ref r0), .val (.long q1), .second, .unset, .unset] [])) t → Steps p.tables e below (s₁.setTop (entryFrame m #[(.ref r0), (.long q1)] 5)) t := fun t k => castTop (ef_7 m r0 q1) k
  have c1 : ∀ t, Steps p.tables e below (s₁.setTop (mkF m 2 #[.val (.ref r0), .val (.long q1), .second, .unset, .unset] [(.long q1), (.ref r0)])) t → Steps p.tables e below (s₁.setTop (mkF m 0 #[.val (.ref r0), .val (.long q1), .second, .unset, .unset] [])) t := by
    intro t kt
    show Steps p.tables e below (s₁.setTop (mkF m 0 #[.val (.ref r0), .val (.long q1), .second, .unset, .unset] [])) _
    refine XS.aloadN X0.here hx rfl (hb hby d7_0) rfl rfl ?_
    show Steps p.tables e below (s₁.setTop (mkF m 1 #[.val (.ref r0), .val (.long q1), .second, .unset, .unset] [(.ref r0)])) _
    refine XS.lloadN X0.here hx rfl (hb hby d7_1) rfl ?_
    exact kt
  obtain ⟨cq2, rq2, rq2'⟩ := E0.cell
  obtain ⟨_, _, ⟨T3, L3, k3, n3⟩, -, X3, ⟨Lc3, hQ3, l3, y3, z3⟩, st3⟩ := X0.privateBack hx (y := (⟨"com/example/mapstone/mapstone/engine/ConceptIndex", "slot", "(J)I"⟩ : MethodName)) hown (mvT hZ (hw _ (List.mem_of_getElem? (i := 31) rfl))) (mvT hZ (hw _ (List.mem_of_getElem? (i := 32) rfl))) (own_selp (y := (⟨"com/example/mapstone/mapstone/engine/ConceptIndex", "slot", "(J)I"⟩ : MethodName)) (z := (⟨"com/example/mapstone/mapstone/engine/ConceptIndex", "place", "(J)I"⟩ : MethodName)) (mvT hZ (hw _ (List.mem_of_getElem? (i := 39) rfl))) rfl (Cond.privateMethod_at (mvP hZ (hw _ (List.mem_of_getElem? (i := 33) rfl)) (args := #[]))) (mvT hZ (hw _ (List.mem_of_getElem? (i := 32) rfl))) (by decide)) (Cond.privateMethod_at (mvP hZ (hw _ (List.mem_of_getElem? (i := 33) rfl)) (args := #[]))) (mvT hZ (hw _ (List.mem_of_getElem? (i := 34) rfl))) (by decide) (backOf (W := 0) (rm6 l Z a0 hw [] r0 q1 sh h0 n0 Z0 F_sh) hZ (hw _ (List.mem_of_getElem? (i := 34) rfl)) (hw _ (List.mem_of_getElem? (i := 3) rfl)) (by decide) (by decide)) (g := (mkF m 2 #[.val (.ref r0), .val (.long q1), .second, .unset, .unset] [(.long q1), (.ref r0)])) rfl (by rw [hml]; rfl) (Steps.refl _) (a := r0) (by rw [e0]; exact rq2) rq2' (argsL := [(.long q1)]) (rest := []) (lenOf pd_2 rfl) rfl (by show 2 * 0 + _ ≤ _; exact Nat.le_of_eq rfl) (hb hby d7_2) (fun _ _ => ⟨rfl, e0, (by decide : 0 + 0 ≤ _), (by decide : 0 + 0 ≤ _)⟩)
  dsimp only [Pt.U, Pt.locs, Pt.cells, Pt.slots] at X3 l3 y3 z3 st3 hQ3
  subst l3 y3 z3
  obtain ⟨rfl, N3q, e3⟩ := hQ3
  have N3 := Fr.app N0 N3q
  have c4 : ∀ t, Steps p.tables e below (T3.setTop (mkF m 5 #[.val (.ref r0), .val (.long q1), .second, .unset, .unset] [(.int (Int32.ofNat (own_sN sh q1)))])) t → Steps p.tables e below (T3.setTop (mkF m 5 #[.val (.ref r0), .val (.long q1), .second, .unset, .unset] [(.int (own_slot sh q1))])) t := fun t kt => castTop (congrArg (fun z => (mkF m 5 #[.val (.ref r0), .val (.long q1), .second, .unset, .unset] [(.int z)])) (show (own_slot sh q1) = (Int32.ofNat (own_sN sh q1)) from hsl.1)) kt
  have c5 : ∀ t, Steps p.tables e below (T3.setTop (mkF m 6 #[.val (.ref r0), .val (.long q1), .second, .val (.int (Int32.ofNat (own_sN sh q1))), .unset] [])) t → Steps p.tables e below (T3.setTop (mkF m 5 #[.val (.ref r0), .val (.long q1), .second, .unset, .unset] [(.int (Int32.ofNat (own_sN sh q1)))])) t := by
    intro t kt
    show Steps p.tables e below (T3.setTop (mkF m 5 #[.val (.ref r0), .val (.long q1), .second, .unset, .unset] [(.int (Int32.ofNat (own_sN sh q1)))])) _
    refine XS.istoreN X3.here hx rfl (hb hby d7_5) rfl (l' := #[.val (.ref r0), .val (.long q1), .second, .val (.int (Int32.ofNat (own_sN sh q1))), .unset]) rfl ?_
    exact kt
  obtain ⟨T6, L6, pc, i', f', hpc, X6, e6, N6, st6⟩ := llook r0 q1 sa ks M tab ca kc cs dj hx hZ hw hby hml hown N3 Z0 F_s V_s F_c V_c hM hl hv hn 8 (own_sN sh q1) hsl.2 hend T3 _ One.u X3 e3
  rcases hpc with rfl | rfl
  · skip
    obtain ⟨fs, hr, hrun, hended, hW, hsame⟩ := X6.leave (v := some (.int (own_lk tab M (own_e cs q1) 8 (own_sN sh q1)))) (fun h => by rw [Bd.returns] at h; cases h)
    refine ⟨_, _, pre0 _ (c1 _ (st3.trans (c4 _ (c5 _ (st6 _ (?_)))))), hrun, hended, _, _, rfl, ?_, ⟨_, rfl⟩, hW, hsame.mono (by decide) (by decide)⟩
    · show Steps p.tables e below (T6.setTop (mkF m 20 #[.val (.ref r0), .val (.long q1), .second, .val (.int i'), .val (.int f')] [(.int (own_lk tab M (own_e cs q1) 8 (own_sN sh q1)))])) _
      exact retI X6 hx Bd.returns (hb hby d7_20) hr
    · show Q7 Z r0 q1 sh sa ks M tab ca kc cs dj h0 n0 _ T6.heap _
      rw [e6]
      exact ⟨congrArg (fun z => some (Value.int z)) (show (own_lk tab M (own_e cs q1) 8 (own_sN sh q1)) = (own_lk tab M (own_e cs q1) 8 (own_sN sh q1)) from by rfl), N6, rfl⟩
  · skip
    obtain ⟨fs, hr, hrun, hended, hW, hsame⟩ := X6.leave (v := some (.int (own_lk tab M (own_e cs q1) 8 (own_sN sh q1)))) (fun h => by rw [Bd.returns] at h; cases h)
    refine ⟨_, _, pre0 _ (c1 _ (st3.trans (c4 _ (c5 _ (st6 _ (?_)))))), hrun, hended, _, _, rfl, ?_, ⟨_, rfl⟩, hW, hsame.mono (by decide) (by decide)⟩
    · show Steps p.tables e below (T6.setTop (mkF m 39 #[.val (.ref r0), .val (.long q1), .second, .val (.int i'), .val (.int f')] [(.int (own_lk tab M (own_e cs q1) 8 (own_sN sh q1)))])) _
      exact retI X6 hx Bd.returns (hb hby d7_39) hr
    · show Q7 Z r0 q1 sh sa ks M tab ca kc cs dj h0 n0 _ T6.heap _
      rw [e6]
      exact ⟨congrArg (fun z => some (Value.int z)) (show (own_lk tab M (own_e cs q1) 8 (own_sN sh q1)) = (own_lk tab M (own_e cs q1) 8 (own_sN sh q1)) from by rfl), N6, rfl⟩
theorem pn_0 : plainName "com/example/mapstone/mapstone/engine/ConceptIndexPlacePinLaw" = true := by first | (simp [plainName, overriddenIn]; done) | decide +kernel
theorem ef_0 (m : MethodId) (x0 : Int64) (x1 : Int64) (x2 : Int64) (x3 : Int64) (x4 : Int32) : entryFrame m #[(.long x0), (.long x1), (.long x2), (.long x3), (.int x4)] maxLocals = mkF m 0 #[.val (.long x0), .second, .val (.long x1), .second, .val (.long x2), .second, .val (.long x3), .second, .val (.int x4), .unset, .unset, .unset, .unset] [] := by first | (simp [entryFrame, mkF, argsToLocals, Value.category, maxLocals]; done) | rfl
def Q0 (Z : State) (q0 : Int64) (q1 : Int64) (q2 : Int64) (q3 : Int64) (p4 : Int32) (h0 : Heap) (n0 : Nat) (v : Option Value) (h : Heap) (L : List Loc) : Prop := v = some (.int 1) ∧ Fr n0 L
set_option maxRecDepth 65536 in
set_option maxHeartbeats 40000000 in
theorem rm0 (l : Launch) (Z : State) (a0 : Array Value) (hw : ∀ d ∈ tables_1, d.before a0 Z = true) (ws : List Jvm.Cond) (q0 : Int64) (q1 : Int64) (q2 : Int64) (q3 : Int64) (p4 : Int32)  (h0 : Heap) (n0 : Nat) (Z0 : n0 ≤ h0.size) :
    MetFree l x (head1 (Jvm.Cond.code x code maxLocals ret :: ws) room_1) (fun a U => a = #[(.long q0), (.long q1), (.long q2), (.long q3), (.int p4)] ∧ Z.Warmed39 U.vm ∧ U.heap = h0) (fun _ _ _ _ _ => True) (fun _ U o U' => ∃ v L, o = .returned v ∧ Q0 Z q0 q1 q2 q3 p4 h0 n0 v U'.heap L ∧ FrameEnd U o U' L room_1.cells room_1.slots) := by
  refine MetFree.of_bodySF (plainFor_of_name pn_0) hisR ?_
  intro p e s m args below meth c s₁ Bd hml0 hP hK
  obtain ⟨rfl, hZ, hh⟩ := hP
  have hx := Bd.exec
  have hby := Bd.bytes
  have hml : c.maxLocals = 13 := hml0
  have hown : s.vm.findClass "com/example/mapstone/mapstone/engine/ConceptIndexPlacePinLaw" = some m.cls := findClass_of_methodNamed Bd.named
  have hnm := (name_of_methodNamed Bd.named Bd.method).1
  have X0 : Stand p l e room_1 s m #[(.long q0), (.long q1), (.long q2), (.long q3), (.int p4)] below meth c s₁ [] 0 0 := Stand.of_body Bd
  have e0 : s₁.heap = h0 := by rw [← hh, Bd.state]; rfl
  have N0 := Fr.nil n0
  have pre0 : ∀ t, Steps p.tables e below (s₁.setTop (mkF m 0 #[.val (.long q0), .second, .val (.long q1), .second, .val (.long q2), .second, .val (.long q3), .second, .val (.int p4), .unset, .unset, .unset, .unset] [])) t → Steps p.tables e below (s₁.setTop (entryFrame m #[(.long q0), (.long q1), (.long q2), (.long q3), (.int p4)] maxLocals)) t := fun t k => castTop (ef_0 m q0 q1 q2 q3 p4) k
  have c1 : ∀ t, Steps p.tables e below (s₁.setTop (mkF m 6 #[.val (.long q0), .second, .val (.long q1), .second, .val (.long q2), .second, .val (.long q3), .second, .val (.int p4), .val (.int (p4 &&& (3 : Int32))), .unset, .unset, .unset] [])) t → Steps p.tables e below (s₁.setTop (mkF m 0 #[.val (.long q0), .second, .val (.long q1), .second, .val (.long q2), .second, .val (.long q3), .second, .val (.int p4), .unset, .unset, .unset, .unset] [])) t := by
    intro t kt
    show Steps p.tables e below (s₁.setTop (mkF m 0 #[.val (.long q0), .second, .val (.long q1), .second, .val (.long q2), .second, .val (.long q3), .second, .val (.int p4), .unset, .unset, .unset, .unset] [])) _
    refine XS.iload X0.here hx rfl (hb hby at_0) rfl ?_
    show Steps p.tables e below (s₁.setTop (mkF m 2 #[.val (.long q0), .second, .val (.long q1), .second, .val (.long q2), .second, .val (.long q3), .second, .val (.int p4), .unset, .unset, .unset, .unset] [(.int p4)])) _
    refine XS.iconst X0.here hx rfl (hb hby at_2) ?_
    show Steps p.tables e below (s₁.setTop (mkF m 3 #[.val (.long q0), .second, .val (.long q1), .second, .val (.long q2), .second, .val (.long q3), .second, .val (.int p4), .unset, .unset, .unset, .unset] [(.int (3 : Int32)), (.int p4)])) _
    refine XS.iand X0.here hx rfl (hb hby at_3) rfl ?_
    show Steps p.tables e below (s₁.setTop (mkF m 4 #[.val (.long q0), .second, .val (.long q1), .second, .val (.long q2), .second, .val (.long q3), .second, .val (.int p4), .unset, .unset, .unset, .unset] [(.int (p4 &&& (3 : Int32)))])) _
    refine XS.istore X0.here hx rfl (hb hby at_4) rfl (l' := #[.val (.long q0), .second, .val (.long q1), .second, .val (.long q2), .second, .val (.long q3), .second, .val (.int p4), .val (.int (p4 &&& (3 : Int32))), .unset, .unset, .unset]) rfl ?_
    exact kt
  rcases own_four p4 with hsz | hsz | hsz | hsz
  · skip
    have c2 : ∀ t, Steps p.tables e below (s₁.setTop (mkF m 6 #[.val (.long q0), .second, .val (.long q1), .second, .val (.long q2), .second, .val (.long q3), .second, .val (.int p4), .val (.int (0 : Int32)), .unset, .unset, .unset] [])) t → Steps p.tables e below (s₁.setTop (mkF m 6 #[.val (.long q0), .second, .val (.long q1), .second, .val (.long q2), .second, .val (.long q3), .second, .val (.int p4), .val (.int (p4 &&& (3 : Int32))), .unset, .unset, .unset] [])) t := fun t kt => castTop (congrArg (fun z => (mkF m 6 #[.val (.long q0), .second, .val (.long q1), .second, .val (.long q2), .second, .val (.long q3), .second, .val (.int p4), .val (.int z), .unset, .unset, .unset] [])) (show (p4 &&& (3 : Int32)) = (0 : Int32) from hsz)) kt
    have c4 : ∀ t, Steps p.tables e below (s₁.setTop (mkF m 44 #[.val (.long q0), .second, .val (.long q1), .second, .val (.long q2), .second, .val (.long q3), .second, .val (.int p4), .val (.int (0 : Int32)), .unset, .unset, .unset] [(.int (0 : Int32))])) t → Steps p.tables e below (s₁.setTop (mkF m 6 #[.val (.long q0), .second, .val (.long q1), .second, .val (.long q2), .second, .val (.long q3), .second, .val (.int p4), .val (.int (0 : Int32)), .unset, .unset, .unset] [])) t := by
      intro t kt
      show Steps p.tables e below (s₁.setTop (mkF m 6 #[.val (.long q0), .second, .val (.long q1), .second, .val (.long q2), .second, .val (.long q3), .second, .val (.int p4), .val (.int (0 : Int32)), .unset, .unset, .unset] [])) _
      refine XS.iload X0.here hx rfl (hb hby at_6) rfl ?_
      show Steps p.tables e below (s₁.setTop (mkF m 8 #[.val (.long q0), .second, .val (.long q1), .second, .val (.long q2), .second, .val (.long q3), .second, .val (.int p4), .val (.int (0 : Int32)), .unset, .unset, .unset] [(.int (0 : Int32))])) _
      refine XS.iconst X0.here hx rfl (hb hby at_8) ?_
      show Steps p.tables e below (s₁.setTop (mkF m 9 #[.val (.long q0), .second, .val (.long q1), .second, .val (.long q2), .second, .val (.long q3), .second, .val (.int p4), .val (.int (0 : Int32)), .unset, .unset, .unset] [(.int (1 : Int32)), (.int (0 : Int32))])) _
      refine XS.icmpYes X0.here hx rfl (pc0 := 9) (pc' := 20) rfl (hb hby at_9) rfl (flt (by decide : ¬ ((1 : Int32) < (0 : Int32)))).2.2.2 (by decide) (by decide) ?_
      show Steps p.tables e below (s₁.setTop (mkF m 20 #[.val (.long q0), .second, .val (.long q1), .second, .val (.long q2), .second, .val (.long q3), .second, .val (.int p4), .val (.int (0 : Int32)), .unset, .unset, .unset] [])) _
      refine XS.iload X0.here hx rfl (hb hby at_20) rfl ?_
      show Steps p.tables e below (s₁.setTop (mkF m 22 #[.val (.long q0), .second, .val (.long q1), .second, .val (.long q2), .second, .val (.long q3), .second, .val (.int p4), .val (.int (0 : Int32)), .unset, .unset, .unset] [(.int (0 : Int32))])) _
      refine XS.iconst X0.here hx rfl (hb hby at_22) ?_
      show Steps p.tables e below (s₁.setTop (mkF m 23 #[.val (.long q0), .second, .val (.long q1), .second, .val (.long q2), .second, .val (.long q3), .second, .val (.int p4), .val (.int (0 : Int32)), .unset, .unset, .unset] [(.int (2 : Int32)), (.int (0 : Int32))])) _
      refine XS.icmpYes X0.here hx rfl (pc0 := 23) (pc' := 42) rfl (hb hby at_23) rfl (flt (by decide : ¬ ((2 : Int32) < (0 : Int32)))).2.2.2 (by decide) (by decide) ?_
      show Steps p.tables e below (s₁.setTop (mkF m 42 #[.val (.long q0), .second, .val (.long q1), .second, .val (.long q2), .second, .val (.long q3), .second, .val (.int p4), .val (.int (0 : Int32)), .unset, .unset, .unset] [])) _
      refine XS.iload X0.here hx rfl (hb hby at_42) rfl ?_
      exact kt
    obtain ⟨T3, h3, k3, X3, e3, E3, A3, st3⟩ := newP X0 hx hZ (hw _ (List.mem_of_getElem? (i := 0) rfl)) e0 (g := (mkF m 44 #[.val (.long q0), .second, .val (.long q1), .second, .val (.long q2), .second, .val (.long q3), .second, .val (.int p4), .val (.int (0 : Int32)), .unset, .unset, .unset] [(.int (0 : Int32))])) rfl (hb hby at_44) rfl (by decide) (cap := 0) (by decide) (by decide) (by decide) (by decide)
    obtain ⟨b3, g3⟩ : ∃ z, z = h0.size := ⟨_, rfl⟩
    rw [← g3] at A3 st3
    have g_b3 : n0 ≤ b3 := Nat.le_trans Z0 (Nat.le_of_eq g3.symm)
    have sz_b3 : h0.size ≤ b3 := Nat.le_trans (Keep.refl h0 []).1 (Nat.le_of_eq g3.symm)
    have V3 : Arv Z h3 b3 k3 .long (0 : Int32) [] (.long (0 : Int64)) := (Arv.new A3 (by decide)).pad (pad_rep [] (.long (0 : Int64)) 0)
    have c6 : ∀ t, Steps p.tables e below (T3.setTop (mkF m 81 #[.val (.long q0), .second, .val (.long q1), .second, .val (.long q2), .second, .val (.long q3), .second, .val (.int p4), .val (.int (0 : Int32)), .val (.ref b3), .unset, .unset] [])) t → Steps p.tables e below (T3.setTop (mkF m 46 #[.val (.long q0), .second, .val (.long q1), .second, .val (.long q2), .second, .val (.long q3), .second, .val (.int p4), .val (.int (0 : Int32)), .unset, .unset, .unset] [(.ref b3)])) t := by
      intro t kt
      show Steps p.tables e below (T3.setTop (mkF m 46 #[.val (.long q0), .second, .val (.long q1), .second, .val (.long q2), .second, .val (.long q3), .second, .val (.int p4), .val (.int (0 : Int32)), .unset, .unset, .unset] [(.ref b3)])) _
      refine XS.astore X3.here hx rfl (hb hby at_46) rfl rfl (l' := #[.val (.long q0), .second, .val (.long q1), .second, .val (.long q2), .second, .val (.long q3), .second, .val (.int p4), .val (.int (0 : Int32)), .val (.ref b3), .unset, .unset]) rfl ?_
      show Steps p.tables e below (T3.setTop (mkF m 48 #[.val (.long q0), .second, .val (.long q1), .second, .val (.long q2), .second, .val (.long q3), .second, .val (.int p4), .val (.int (0 : Int32)), .val (.ref b3), .unset, .unset] [])) _
      refine XS.iload X3.here hx rfl (hb hby at_48) rfl ?_
      show Steps p.tables e below (T3.setTop (mkF m 50 #[.val (.long q0), .second, .val (.long q1), .second, .val (.long q2), .second, .val (.long q3), .second, .val (.int p4), .val (.int (0 : Int32)), .val (.ref b3), .unset, .unset] [(.int (0 : Int32))])) _
      refine XS.ifYes X3.here hx rfl (pc0 := 50) (pc' := 58) rfl (hb hby at_50) rfl ((if0 _ _).trans (flt (by decide : ¬ ((0 : Int32) < (0 : Int32)))).2.2.2) (by decide) (by decide) ?_
      show Steps p.tables e below (T3.setTop (mkF m 58 #[.val (.long q0), .second, .val (.long q1), .second, .val (.long q2), .second, .val (.long q3), .second, .val (.int p4), .val (.int (0 : Int32)), .val (.ref b3), .unset, .unset] [])) _
      refine XS.iload X3.here hx rfl (hb hby at_58) rfl ?_
      show Steps p.tables e below (T3.setTop (mkF m 60 #[.val (.long q0), .second, .val (.long q1), .second, .val (.long q2), .second, .val (.long q3), .second, .val (.int p4), .val (.int (0 : Int32)), .val (.ref b3), .unset, .unset] [(.int (0 : Int32))])) _
      refine XS.iconst X3.here hx rfl (hb hby at_60) ?_
      show Steps p.tables e below (T3.setTop (mkF m 61 #[.val (.long q0), .second, .val (.long q1), .second, .val (.long q2), .second, .val (.long q3), .second, .val (.int p4), .val (.int (0 : Int32)), .val (.ref b3), .unset, .unset] [(.int (1 : Int32)), (.int (0 : Int32))])) _
      refine XS.icmpYes X3.here hx rfl (pc0 := 61) (pc' := 69) rfl (hb hby at_61) rfl (flt (by decide : ¬ ((1 : Int32) < (0 : Int32)))).2.2.2 (by decide) (by decide) ?_
      show Steps p.tables e below (T3.setTop (mkF m 69 #[.val (.long q0), .second, .val (.long q1), .second, .val (.long q2), .second, .val (.long q3), .second, .val (.int p4), .val (.int (0 : Int32)), .val (.ref b3), .unset, .unset] [])) _
      refine XS.iload X3.here hx rfl (hb hby at_69) rfl ?_
      show Steps p.tables e below (T3.setTop (mkF m 71 #[.val (.long q0), .second, .val (.long q1), .second, .val (.long q2), .second, .val (.long q3), .second, .val (.int p4), .val (.int (0 : Int32)), .val (.ref b3), .unset, .unset] [(.int (0 : Int32))])) _
      refine XS.iconst X3.here hx rfl (hb hby at_71) ?_
      show Steps p.tables e below (T3.setTop (mkF m 72 #[.val (.long q0), .second, .val (.long q1), .second, .val (.long q2), .second, .val (.long q3), .second, .val (.int p4), .val (.int (0 : Int32)), .val (.ref b3), .unset, .unset] [(.int (2 : Int32)), (.int (0 : Int32))])) _
      refine XS.icmpYes X3.here hx rfl (pc0 := 72) (pc' := 81) rfl (hb hby at_72) rfl (flt (by decide : ¬ ((2 : Int32) < (0 : Int32)))).2.2.2 (by decide) (by decide) ?_
      exact kt
    obtain ⟨T5, h5, X5, e5, E5, A5, D5, U5, st5⟩ := newO X3 hx hZ hown (hw _ (List.mem_of_getElem? (i := 1) rfl)) (hw _ (List.mem_of_getElem? (i := 2) rfl)) (hw _ (List.mem_of_getElem? (i := 3) rfl)) e3 (g := (mkF m 81 #[.val (.long q0), .second, .val (.long q1), .second, .val (.long q2), .second, .val (.long q3), .second, .val (.int p4), .val (.int (0 : Int32)), .val (.ref b3), .unset, .unset] [])) rfl (hb hby at_81) (by decide) (by decide)
    obtain ⟨b5, g5⟩ : ∃ z, z = h3.size := ⟨_, rfl⟩
    rw [← g5] at A5 D5 U5 st5
    have f7 := (Nat.le_trans Z0 E3.1)
    have f8 := ((Keep.refl h0 []).ext E3)
    have g_b5 : n0 ≤ b5 := Nat.le_trans f7 (Nat.le_of_eq g5.symm)
    have sz_b5 : h0.size ≤ b5 := Nat.le_trans f8.1 (Nat.le_of_eq g5.symm)
    have lt_b3_5 := V3.lt
    have F5_concepts : Fld Z h5 b5 "com/example/mapstone/mapstone/engine/ConceptIndex" "concepts" "[J" .null := D5 (Or.inr (hw _ (List.mem_of_getElem? (i := 11) rfl))) (ty := (.array .long)) (by decide)
    have F5_slots : Fld Z h5 b5 "com/example/mapstone/mapstone/engine/ConceptIndex" "slots" "[I" .null := D5 (Or.inr (hw _ (List.mem_of_getElem? (i := 28) rfl))) (ty := (.array .int)) (by decide)
    have F5_shift : Fld Z h5 b5 "com/example/mapstone/mapstone/engine/ConceptIndex" "shift" "I" (.int (0 : Int32)) := D5 (Or.inr (hw _ (List.mem_of_getElem? (i := 30) rfl))) (ty := .int) (by decide)
    have c9 : ∀ t, Steps p.tables e below (T5.setTop (mkF m 87 #[.val (.long q0), .second, .val (.long q1), .second, .val (.long q2), .second, .val (.long q3), .second, .val (.int p4), .val (.int (0 : Int32)), .val (.ref b3), .unset, .unset] [(.ref b3), (.ref b5), (.ref b5)])) t → Steps p.tables e below (T5.setTop (mkF m 84 #[.val (.long q0), .second, .val (.long q1), .second, .val (.long q2), .second, .val (.long q3), .second, .val (.int p4), .val (.int (0 : Int32)), .val (.ref b3), .unset, .unset] [(.ref b5)])) t := by
      intro t kt
      show Steps p.tables e below (T5.setTop (mkF m 84 #[.val (.long q0), .second, .val (.long q1), .second, .val (.long q2), .second, .val (.long q3), .second, .val (.int p4), .val (.int (0 : Int32)), .val (.ref b3), .unset, .unset] [(.ref b5)])) _
      refine XS.dup X5.here hx rfl (hb hby at_84) rfl rfl ?_
      show Steps p.tables e below (T5.setTop (mkF m 85 #[.val (.long q0), .second, .val (.long q1), .second, .val (.long q2), .second, .val (.long q3), .second, .val (.int p4), .val (.int (0 : Int32)), .val (.ref b3), .unset, .unset] [(.ref b5), (.ref b5)])) _
      refine XS.aload X5.here hx rfl (hb hby at_85) rfl rfl ?_
      exact kt
    have f10 := (Nat.le_trans f7 E5.1)
    have f11 := (V3.ext E5)
    obtain ⟨_, _, ⟨T12, L12, k12, n12⟩, -, X12, ⟨Lc12, hQ12, l12, y12, z12⟩, st12⟩ := X5.specialBack hx (y := (⟨"com/example/mapstone/mapstone/engine/ConceptIndex", "<init>", "([J)V"⟩ : MethodName)) rfl hown (mvT hZ (hw _ (List.mem_of_getElem? (i := 4) rfl))) (mvT hZ (hw _ (List.mem_of_getElem? (i := 5) rfl))) (mvT hZ (hw _ (List.mem_of_getElem? (i := 6) rfl))) (by decide) (backOf (W := 1) (rm1_0 l Z a0 hw [] b5 b3 k3  (.long (0 : Int64)) h5 n0 f10 f11 F5_concepts F5_slots F5_shift A5 g_b5 (Nat.ne_of_lt (Nat.lt_of_lt_of_le lt_b3_5 (Nat.le_of_eq g5.symm)))) hZ (hw _ (List.mem_of_getElem? (i := 6) rfl)) (hw _ (List.mem_of_getElem? (i := 3) rfl)) (by decide) (by decide)) (g := (mkF m 87 #[.val (.long q0), .second, .val (.long q1), .second, .val (.long q2), .second, .val (.long q3), .second, .val (.int p4), .val (.int (0 : Int32)), .val (.ref b3), .unset, .unset] [(.ref b3), (.ref b5), (.ref b5)])) rfl (by rw [hml]; rfl) (Steps.refl _) (a := b5) (argsL := [(.ref b3)]) (rest := [(.ref b5)]) (lenOf pd_3 rfl) rfl (by show 2 * 0 + _ ≤ _; exact Nat.le_of_eq rfl) (hb hby at_87) (fun _ _ => ⟨rfl, e5, (by decide : 2 + 1 ≤ _), (by decide : 3 + 2 ≤ _)⟩)
    dsimp only [Pt.U, Pt.locs, Pt.cells, Pt.slots] at X12 l12 y12 z12 st12 hQ12
    subst l12 y12 z12
    obtain ⟨os12, ks12, rfl, N12q, Kq12, Eq12, Fc12, Fs12, Fh12, Vs12⟩ := hQ12
    have N12 := Fr.app N0 N12q
    have hok : own_ok (List.replicate 2 0) 2 0 := own_okz 2 (by decide)
    have c13 : ∀ t, Steps p.tables e below (T12.setTop (mkF m 95 #[.val (.long q0), .second, .val (.long q1), .second, .val (.long q2), .second, .val (.long q3), .second, .val (.int p4), .val (.int (0 : Int32)), .val (.ref b3), .val (.ref b5), .unset] [(.long q0), (.ref b5)])) t → Steps p.tables e below (T12.setTop (mkF m 90 #[.val (.long q0), .second, .val (.long q1), .second, .val (.long q2), .second, .val (.long q3), .second, .val (.int p4), .val (.int (0 : Int32)), .val (.ref b3), .unset, .unset] [(.ref b5)])) t := by
      intro t kt
      show Steps p.tables e below (T12.setTop (mkF m 90 #[.val (.long q0), .second, .val (.long q1), .second, .val (.long q2), .second, .val (.long q3), .second, .val (.int p4), .val (.int (0 : Int32)), .val (.ref b3), .unset, .unset] [(.ref b5)])) _
      refine XS.astore X12.here hx rfl (hb hby at_90) rfl rfl (l' := #[.val (.long q0), .second, .val (.long q1), .second, .val (.long q2), .second, .val (.long q3), .second, .val (.int p4), .val (.int (0 : Int32)), .val (.ref b3), .val (.ref b5), .unset]) rfl ?_
      show Steps p.tables e below (T12.setTop (mkF m 92 #[.val (.long q0), .second, .val (.long q1), .second, .val (.long q2), .second, .val (.long q3), .second, .val (.int p4), .val (.int (0 : Int32)), .val (.ref b3), .val (.ref b5), .unset] [])) _
      refine XS.aload X12.here hx rfl (hb hby at_92) rfl rfl ?_
      show Steps p.tables e below (T12.setTop (mkF m 94 #[.val (.long q0), .second, .val (.long q1), .second, .val (.long q2), .second, .val (.long q3), .second, .val (.int p4), .val (.int (0 : Int32)), .val (.ref b3), .val (.ref b5), .unset] [(.ref b5)])) _
      refine XS.lloadN X12.here hx rfl (hb hby at_94) rfl ?_
      exact kt
    have f14 := (Nat.le_trans f10 Kq12.1)
    have f15 := (f11.keep Kq12 (ninS (Nat.ne_of_lt (Nat.lt_of_lt_of_le lt_b3_5 (Nat.le_of_eq g5.symm))) nin0))
    obtain ⟨cq16, kq16, q16a, q16b, q16c⟩ := isOf hZ rfl Eq12
    obtain ⟨_, _, ⟨T17, L17, k17, n17⟩, -, X17, ⟨Lc17, hQ17, l17, y17, z17⟩, st17⟩ := X12.virtualBack hx (y := (⟨"com/example/mapstone/mapstone/engine/ConceptIndex", "place", "(J)I"⟩ : MethodName)) (z := (⟨"com/example/mapstone/mapstone/engine/ConceptIndex", "place", "(J)I"⟩ : MethodName)) hown (mvT hZ (hw _ (List.mem_of_getElem? (i := 36) rfl))) (mvT hZ (hw _ (List.mem_of_getElem? (i := 37) rfl))) (notFace_of_selects (args := #[]) (mvT hZ (hw _ (List.mem_of_getElem? (i := 39) rfl)))) (mvT hZ (hw _ (List.mem_of_getElem? (i := 39) rfl))) (mvT hZ (hw _ (List.mem_of_getElem? (i := 38) rfl))) (by decide) (backOf (W := 0) (rm7 l Z a0 hw [] b5 q0 (63 : Int32) os12 ks12 2 (List.replicate 2 0) b3 k3 [] (.long (0 : Int64)) T12.heap n0 f14 Fh12 Eq12 Fs12 Vs12 Fc12 f15 (by decide) hok.1 hok.2.1 (Nat.le_of_ble_eq_true rfl) (own_slotv 63 q0 0 2 (by decide)) (hok.2.2 _ (own_slotv 63 q0 0 2 (by decide)).2).1) hZ (hw _ (List.mem_of_getElem? (i := 40) rfl)) (hw _ (List.mem_of_getElem? (i := 3) rfl)) (by decide) (by decide)) q16a q16c (g := (mkF m 95 #[.val (.long q0), .second, .val (.long q1), .second, .val (.long q2), .second, .val (.long q3), .second, .val (.int p4), .val (.int (0 : Int32)), .val (.ref b3), .val (.ref b5), .unset] [(.long q0), (.ref b5)])) rfl (by rw [hml]; rfl) (Steps.refl _) (argsL := [(.long q0)]) (rest := []) (lenOf pd_2 rfl) rfl (by show 2 * 0 + _ ≤ _; exact Nat.le_of_eq rfl) (hb hby at_95) (fun _ _ => ⟨rfl, rfl, (by decide : 3 + 0 ≤ _), (by decide : 5 + 0 ≤ _)⟩)
    dsimp only [Pt.U, Pt.locs, Pt.cells, Pt.slots] at X17 l17 y17 z17 st17 hQ17
    subst l17 y17 z17
    obtain ⟨rfl, N17q, e17⟩ := hQ17
    have N17 := Fr.app N12 N17q
    have c18 : ∀ t, Steps p.tables e below (T17.setTop (mkF m 105 #[.val (.long q0), .second, .val (.long q1), .second, .val (.long q2), .second, .val (.long q3), .second, .val (.int p4), .val (.int (0 : Int32)), .val (.ref b3), .val (.ref b5), .unset] [(.long q0), (.int (0 : Int32)), (.long q2), (.long q1), (.long q0), (.int (own_lk (List.replicate 2 0) 2 (own_e [] q0) 8 (own_sN 63 q0)))])) t → Steps p.tables e below (T17.setTop (mkF m 98 #[.val (.long q0), .second, .val (.long q1), .second, .val (.long q2), .second, .val (.long q3), .second, .val (.int p4), .val (.int (0 : Int32)), .val (.ref b3), .val (.ref b5), .unset] [(.int (own_lk (List.replicate 2 0) 2 (own_e [] q0) 8 (own_sN 63 q0)))])) t := by
      intro t kt
      show Steps p.tables e below (T17.setTop (mkF m 98 #[.val (.long q0), .second, .val (.long q1), .second, .val (.long q2), .second, .val (.long q3), .second, .val (.int p4), .val (.int (0 : Int32)), .val (.ref b3), .val (.ref b5), .unset] [(.int (own_lk (List.replicate 2 0) 2 (own_e [] q0) 8 (own_sN 63 q0)))])) _
      refine XS.lloadN X17.here hx rfl (hb hby at_98) rfl ?_
      show Steps p.tables e below (T17.setTop (mkF m 99 #[.val (.long q0), .second, .val (.long q1), .second, .val (.long q2), .second, .val (.long q3), .second, .val (.int p4), .val (.int (0 : Int32)), .val (.ref b3), .val (.ref b5), .unset] [(.long q0), (.int (own_lk (List.replicate 2 0) 2 (own_e [] q0) 8 (own_sN 63 q0)))])) _
      refine XS.lloadN X17.here hx rfl (hb hby at_99) rfl ?_
      show Steps p.tables e below (T17.setTop (mkF m 100 #[.val (.long q0), .second, .val (.long q1), .second, .val (.long q2), .second, .val (.long q3), .second, .val (.int p4), .val (.int (0 : Int32)), .val (.ref b3), .val (.ref b5), .unset] [(.long q1), (.long q0), (.int (own_lk (List.replicate 2 0) 2 (own_e [] q0) 8 (own_sN 63 q0)))])) _
      refine XS.lload X17.here hx rfl (hb hby at_100) rfl ?_
      show Steps p.tables e below (T17.setTop (mkF m 102 #[.val (.long q0), .second, .val (.long q1), .second, .val (.long q2), .second, .val (.long q3), .second, .val (.int p4), .val (.int (0 : Int32)), .val (.ref b3), .val (.ref b5), .unset] [(.long q2), (.long q1), (.long q0), (.int (own_lk (List.replicate 2 0) 2 (own_e [] q0) 8 (own_sN 63 q0)))])) _
      refine XS.iload X17.here hx rfl (hb hby at_102) rfl ?_
      show Steps p.tables e below (T17.setTop (mkF m 104 #[.val (.long q0), .second, .val (.long q1), .second, .val (.long q2), .second, .val (.long q3), .second, .val (.int p4), .val (.int (0 : Int32)), .val (.ref b3), .val (.ref b5), .unset] [(.int (0 : Int32)), (.long q2), (.long q1), (.long q0), (.int (own_lk (List.replicate 2 0) 2 (own_e [] q0) 8 (own_sN 63 q0)))])) _
      refine XS.lloadN X17.here hx rfl (hb hby at_104) rfl ?_
      exact kt
    obtain ⟨_, _, ⟨T19, L19, k19, n19⟩, -, X19, ⟨Lc19, hQ19, l19, y19, z19⟩, st19⟩ := Jvm.LawKit.callS X17 hx (y := (⟨"com/example/mapstone/mapstone/engine/ConceptIndexPlacePinLaw", "ref", "(JJJIJ)I"⟩ : MethodName)) hown (mvT hZ (hw _ (List.mem_of_getElem? (i := 41) rfl))) (mvT hZ (hw _ (List.mem_of_getElem? (i := 42) rfl))) (mvT hZ (hw _ (List.mem_of_getElem? (i := 43) rfl))) (mvT hZ (hw _ (List.mem_of_getElem? (i := 44) rfl))) (by decide) (backOf (W := 1) (rm8 l Z a0 hw [] q0 q1 q2 (0 : Int32) q0  T12.heap n0 f14 ) hZ (hw _ (List.mem_of_getElem? (i := 44) rfl)) (hw _ (List.mem_of_getElem? (i := 43) rfl)) (by decide) (by decide)) (g := (mkF m 105 #[.val (.long q0), .second, .val (.long q1), .second, .val (.long q2), .second, .val (.long q3), .second, .val (.int p4), .val (.int (0 : Int32)), .val (.ref b3), .val (.ref b5), .unset] [(.long q0), (.int (0 : Int32)), (.long q2), (.long q1), (.long q0), (.int (own_lk (List.replicate 2 0) 2 (own_e [] q0) 8 (own_sN 63 q0)))])) rfl (by rw [hml]; rfl) (argsL := [(.long q0), (.long q1), (.long q2), (.int (0 : Int32)), (.long q0)]) (rest := [(.int (own_lk (List.replicate 2 0) 2 (own_e [] q0) 8 (own_sN 63 q0)))]) (lenOf pd_4 rfl) rfl (by show 2 * 0 + _ ≤ _; exact Nat.le_of_eq rfl) (hb hby at_105) (fun _ _ => ⟨rfl, e17, (by decide : 3 + 0 ≤ _), (by decide : 5 + 0 ≤ _)⟩)
    dsimp only [Pt.U, Pt.locs, Pt.cells, Pt.slots] at X19 l19 y19 z19 st19 hQ19
    subst l19 y19 z19
    obtain ⟨rfl, N19q, e19⟩ := hQ19
    have N19 := Fr.app N17 N19q
    have hd20 : (own_lk (List.replicate 2 0) 2 (own_e [] q0) 8 (own_sN 63 q0)) = (own_rf (0 : Int32) q0 q1 q2 q0) := own_k0 q0 q1 q2 _
    have c21 : ∀ t, Steps p.tables e below (T19.setTop (mkF m 126 #[.val (.long q0), .second, .val (.long q1), .second, .val (.long q2), .second, .val (.long q3), .second, .val (.int p4), .val (.int (0 : Int32)), .val (.ref b3), .val (.ref b5), .val (.int (1 : Int32))] [(.long q1), (.ref b5)])) t → Steps p.tables e below (T19.setTop (mkF m 108 #[.val (.long q0), .second, .val (.long q1), .second, .val (.long q2), .second, .val (.long q3), .second, .val (.int p4), .val (.int (0 : Int32)), .val (.ref b3), .val (.ref b5), .unset] [(.int (own_rf (0 : Int32) q0 q1 q2 q0)), (.int (own_lk (List.replicate 2 0) 2 (own_e [] q0) 8 (own_sN 63 q0)))])) t := by
      intro t kt
      show Steps p.tables e below (T19.setTop (mkF m 108 #[.val (.long q0), .second, .val (.long q1), .second, .val (.long q2), .second, .val (.long q3), .second, .val (.int p4), .val (.int (0 : Int32)), .val (.ref b3), .val (.ref b5), .unset] [(.int (own_rf (0 : Int32) q0 q1 q2 q0)), (.int (own_lk (List.replicate 2 0) 2 (own_e [] q0) 8 (own_sN 63 q0)))])) _
      refine XS.icmpNo X19.here hx rfl (hb hby at_108) rfl (teq (hd20)).2 ?_
      show Steps p.tables e below (T19.setTop (mkF m 111 #[.val (.long q0), .second, .val (.long q1), .second, .val (.long q2), .second, .val (.long q3), .second, .val (.int p4), .val (.int (0 : Int32)), .val (.ref b3), .val (.ref b5), .unset] [])) _
      refine XS.iconst X19.here hx rfl (hb hby at_111) ?_
      show Steps p.tables e below (T19.setTop (mkF m 112 #[.val (.long q0), .second, .val (.long q1), .second, .val (.long q2), .second, .val (.long q3), .second, .val (.int p4), .val (.int (0 : Int32)), .val (.ref b3), .val (.ref b5), .unset] [(.int (1 : Int32))])) _
      refine XS.goto X19.here hx rfl (pc0 := 112) (pc' := 116) rfl (hb hby at_112) (by decide) (by decide) ?_
      show Steps p.tables e below (T19.setTop (mkF m 116 #[.val (.long q0), .second, .val (.long q1), .second, .val (.long q2), .second, .val (.long q3), .second, .val (.int p4), .val (.int (0 : Int32)), .val (.ref b3), .val (.ref b5), .unset] [(.int (1 : Int32))])) _
      refine XS.istore X19.here hx rfl (hb hby at_116) rfl (l' := #[.val (.long q0), .second, .val (.long q1), .second, .val (.long q2), .second, .val (.long q3), .second, .val (.int p4), .val (.int (0 : Int32)), .val (.ref b3), .val (.ref b5), .val (.int (1 : Int32))]) rfl ?_
      show Steps p.tables e below (T19.setTop (mkF m 118 #[.val (.long q0), .second, .val (.long q1), .second, .val (.long q2), .second, .val (.long q3), .second, .val (.int p4), .val (.int (0 : Int32)), .val (.ref b3), .val (.ref b5), .val (.int (1 : Int32))] [])) _
      refine XS.iload X19.here hx rfl (hb hby at_118) rfl ?_
      show Steps p.tables e below (T19.setTop (mkF m 120 #[.val (.long q0), .second, .val (.long q1), .second, .val (.long q2), .second, .val (.long q3), .second, .val (.int p4), .val (.int (0 : Int32)), .val (.ref b3), .val (.ref b5), .val (.int (1 : Int32))] [(.int (1 : Int32))])) _
      refine XS.ifNo X19.here hx rfl (hb hby at_120) rfl ((if0 _ _).trans (feq (by decide : ¬ ((1 : Int32) = (0 : Int32)))).1) ?_
      show Steps p.tables e below (T19.setTop (mkF m 123 #[.val (.long q0), .second, .val (.long q1), .second, .val (.long q2), .second, .val (.long q3), .second, .val (.int p4), .val (.int (0 : Int32)), .val (.ref b3), .val (.ref b5), .val (.int (1 : Int32))] [])) _
      refine XS.aload X19.here hx rfl (hb hby at_123) rfl rfl ?_
      show Steps p.tables e below (T19.setTop (mkF m 125 #[.val (.long q0), .second, .val (.long q1), .second, .val (.long q2), .second, .val (.long q3), .second, .val (.int p4), .val (.int (0 : Int32)), .val (.ref b3), .val (.ref b5), .val (.int (1 : Int32))] [(.ref b5)])) _
      refine XS.lloadN X19.here hx rfl (hb hby at_125) rfl ?_
      exact kt
    obtain ⟨cq22, kq22, q22a, q22b, q22c⟩ := isOf hZ e19 Eq12
    obtain ⟨_, _, ⟨T23, L23, k23, n23⟩, -, X23, ⟨Lc23, hQ23, l23, y23, z23⟩, st23⟩ := X19.virtualBack hx (y := (⟨"com/example/mapstone/mapstone/engine/ConceptIndex", "place", "(J)I"⟩ : MethodName)) (z := (⟨"com/example/mapstone/mapstone/engine/ConceptIndex", "place", "(J)I"⟩ : MethodName)) hown (mvT hZ (hw _ (List.mem_of_getElem? (i := 36) rfl))) (mvT hZ (hw _ (List.mem_of_getElem? (i := 37) rfl))) (notFace_of_selects (args := #[]) (mvT hZ (hw _ (List.mem_of_getElem? (i := 39) rfl)))) (mvT hZ (hw _ (List.mem_of_getElem? (i := 39) rfl))) (mvT hZ (hw _ (List.mem_of_getElem? (i := 38) rfl))) (by decide) (backOf (W := 0) (rm7 l Z a0 hw [] b5 q1 (63 : Int32) os12 ks12 2 (List.replicate 2 0) b3 k3 [] (.long (0 : Int64)) T12.heap n0 f14 Fh12 Eq12 Fs12 Vs12 Fc12 f15 (by decide) hok.1 hok.2.1 (Nat.le_of_ble_eq_true rfl) (own_slotv 63 q1 0 2 (by decide)) (hok.2.2 _ (own_slotv 63 q1 0 2 (by decide)).2).1) hZ (hw _ (List.mem_of_getElem? (i := 40) rfl)) (hw _ (List.mem_of_getElem? (i := 3) rfl)) (by decide) (by decide)) q22a q22c (g := (mkF m 126 #[.val (.long q0), .second, .val (.long q1), .second, .val (.long q2), .second, .val (.long q3), .second, .val (.int p4), .val (.int (0 : Int32)), .val (.ref b3), .val (.ref b5), .val (.int (1 : Int32))] [(.long q1), (.ref b5)])) rfl (by rw [hml]; rfl) (Steps.refl _) (argsL := [(.long q1)]) (rest := []) (lenOf pd_2 rfl) rfl (by show 2 * 0 + _ ≤ _; exact Nat.le_of_eq rfl) (hb hby at_126) (fun _ _ => ⟨rfl, e19, (by decide : 3 + 0 ≤ _), (by decide : 5 + 0 ≤ _)⟩)
    dsimp only [Pt.U, Pt.locs, Pt.cells, Pt.slots] at X23 l23 y23 z23 st23 hQ23
    subst l23 y23 z23
    obtain ⟨rfl, N23q, e23⟩ := hQ23
    have N23 := Fr.app N19 N23q
    have c24 : ∀ t, Steps p.tables e below (T23.setTop (mkF m 136 #[.val (.long q0), .second, .val (.long q1), .second, .val (.long q2), .second, .val (.long q3), .second, .val (.int p4), .val (.int (0 : Int32)), .val (.ref b3), .val (.ref b5), .val (.int (1 : Int32))] [(.long q1), (.int (0 : Int32)), (.long q2), (.long q1), (.long q0), (.int (own_lk (List.replicate 2 0) 2 (own_e [] q1) 8 (own_sN 63 q1)))])) t → Steps p.tables e below (T23.setTop (mkF m 129 #[.val (.long q0), .second, .val (.long q1), .second, .val (.long q2), .second, .val (.long q3), .second, .val (.int p4), .val (.int (0 : Int32)), .val (.ref b3), .val (.ref b5), .val (.int (1 : Int32))] [(.int (own_lk (List.replicate 2 0) 2 (own_e [] q1) 8 (own_sN 63 q1)))])) t := by
      intro t kt
      show Steps p.tables e below (T23.setTop (mkF m 129 #[.val (.long q0), .second, .val (.long q1), .second, .val (.long q2), .second, .val (.long q3), .second, .val (.int p4), .val (.int (0 : Int32)), .val (.ref b3), .val (.ref b5), .val (.int (1 : Int32))] [(.int (own_lk (List.replicate 2 0) 2 (own_e [] q1) 8 (own_sN 63 q1)))])) _
      refine XS.lloadN X23.here hx rfl (hb hby at_129) rfl ?_
      show Steps p.tables e below (T23.setTop (mkF m 130 #[.val (.long q0), .second, .val (.long q1), .second, .val (.long q2), .second, .val (.long q3), .second, .val (.int p4), .val (.int (0 : Int32)), .val (.ref b3), .val (.ref b5), .val (.int (1 : Int32))] [(.long q0), (.int (own_lk (List.replicate 2 0) 2 (own_e [] q1) 8 (own_sN 63 q1)))])) _
      refine XS.lloadN X23.here hx rfl (hb hby at_130) rfl ?_
      show Steps p.tables e below (T23.setTop (mkF m 131 #[.val (.long q0), .second, .val (.long q1), .second, .val (.long q2), .second, .val (.long q3), .second, .val (.int p4), .val (.int (0 : Int32)), .val (.ref b3), .val (.ref b5), .val (.int (1 : Int32))] [(.long q1), (.long q0), (.int (own_lk (List.replicate 2 0) 2 (own_e [] q1) 8 (own_sN 63 q1)))])) _
      refine XS.lload X23.here hx rfl (hb hby at_131) rfl ?_
      show Steps p.tables e below (T23.setTop (mkF m 133 #[.val (.long q0), .second, .val (.long q1), .second, .val (.long q2), .second, .val (.long q3), .second, .val (.int p4), .val (.int (0 : Int32)), .val (.ref b3), .val (.ref b5), .val (.int (1 : Int32))] [(.long q2), (.long q1), (.long q0), (.int (own_lk (List.replicate 2 0) 2 (own_e [] q1) 8 (own_sN 63 q1)))])) _
      refine XS.iload X23.here hx rfl (hb hby at_133) rfl ?_
      show Steps p.tables e below (T23.setTop (mkF m 135 #[.val (.long q0), .second, .val (.long q1), .second, .val (.long q2), .second, .val (.long q3), .second, .val (.int p4), .val (.int (0 : Int32)), .val (.ref b3), .val (.ref b5), .val (.int (1 : Int32))] [(.int (0 : Int32)), (.long q2), (.long q1), (.long q0), (.int (own_lk (List.replicate 2 0) 2 (own_e [] q1) 8 (own_sN 63 q1)))])) _
      refine XS.lloadN X23.here hx rfl (hb hby at_135) rfl ?_
      exact kt
    obtain ⟨_, _, ⟨T25, L25, k25, n25⟩, -, X25, ⟨Lc25, hQ25, l25, y25, z25⟩, st25⟩ := Jvm.LawKit.callS X23 hx (y := (⟨"com/example/mapstone/mapstone/engine/ConceptIndexPlacePinLaw", "ref", "(JJJIJ)I"⟩ : MethodName)) hown (mvT hZ (hw _ (List.mem_of_getElem? (i := 41) rfl))) (mvT hZ (hw _ (List.mem_of_getElem? (i := 42) rfl))) (mvT hZ (hw _ (List.mem_of_getElem? (i := 43) rfl))) (mvT hZ (hw _ (List.mem_of_getElem? (i := 44) rfl))) (by decide) (backOf (W := 1) (rm8 l Z a0 hw [] q0 q1 q2 (0 : Int32) q1  T12.heap n0 f14 ) hZ (hw _ (List.mem_of_getElem? (i := 44) rfl)) (hw _ (List.mem_of_getElem? (i := 43) rfl)) (by decide) (by decide)) (g := (mkF m 136 #[.val (.long q0), .second, .val (.long q1), .second, .val (.long q2), .second, .val (.long q3), .second, .val (.int p4), .val (.int (0 : Int32)), .val (.ref b3), .val (.ref b5), .val (.int (1 : Int32))] [(.long q1), (.int (0 : Int32)), (.long q2), (.long q1), (.long q0), (.int (own_lk (List.replicate 2 0) 2 (own_e [] q1) 8 (own_sN 63 q1)))])) rfl (by rw [hml]; rfl) (argsL := [(.long q0), (.long q1), (.long q2), (.int (0 : Int32)), (.long q1)]) (rest := [(.int (own_lk (List.replicate 2 0) 2 (own_e [] q1) 8 (own_sN 63 q1)))]) (lenOf pd_4 rfl) rfl (by show 2 * 0 + _ ≤ _; exact Nat.le_of_eq rfl) (hb hby at_136) (fun _ _ => ⟨rfl, e23, (by decide : 3 + 0 ≤ _), (by decide : 5 + 0 ≤ _)⟩)
    dsimp only [Pt.U, Pt.locs, Pt.cells, Pt.slots] at X25 l25 y25 z25 st25 hQ25
    subst l25 y25 z25
    obtain ⟨rfl, N25q, e25⟩ := hQ25
    have N25 := Fr.app N23 N25q
    have hd26 : (own_lk (List.replicate 2 0) 2 (own_e [] q1) 8 (own_sN 63 q1)) = (own_rf (0 : Int32) q0 q1 q2 q1) := own_k0 q0 q1 q2 _
    have c27 : ∀ t, Steps p.tables e below (T25.setTop (mkF m 158 #[.val (.long q0), .second, .val (.long q1), .second, .val (.long q2), .second, .val (.long q3), .second, .val (.int p4), .val (.int (0 : Int32)), .val (.ref b3), .val (.ref b5), .val (.int (1 : Int32))] [(.long q2), (.ref b5)])) t → Steps p.tables e below (T25.setTop (mkF m 139 #[.val (.long q0), .second, .val (.long q1), .second, .val (.long q2), .second, .val (.long q3), .second, .val (.int p4), .val (.int (0 : Int32)), .val (.ref b3), .val (.ref b5), .val (.int (1 : Int32))] [(.int (own_rf (0 : Int32) q0 q1 q2 q1)), (.int (own_lk (List.replicate 2 0) 2 (own_e [] q1) 8 (own_sN 63 q1)))])) t := by
      intro t kt
      show Steps p.tables e below (T25.setTop (mkF m 139 #[.val (.long q0), .second, .val (.long q1), .second, .val (.long q2), .second, .val (.long q3), .second, .val (.int p4), .val (.int (0 : Int32)), .val (.ref b3), .val (.ref b5), .val (.int (1 : Int32))] [(.int (own_rf (0 : Int32) q0 q1 q2 q1)), (.int (own_lk (List.replicate 2 0) 2 (own_e [] q1) 8 (own_sN 63 q1)))])) _
      refine XS.icmpNo X25.here hx rfl (hb hby at_139) rfl (teq (hd26)).2 ?_
      show Steps p.tables e below (T25.setTop (mkF m 142 #[.val (.long q0), .second, .val (.long q1), .second, .val (.long q2), .second, .val (.long q3), .second, .val (.int p4), .val (.int (0 : Int32)), .val (.ref b3), .val (.ref b5), .val (.int (1 : Int32))] [])) _
      refine XS.iconst X25.here hx rfl (hb hby at_142) ?_
      show Steps p.tables e below (T25.setTop (mkF m 143 #[.val (.long q0), .second, .val (.long q1), .second, .val (.long q2), .second, .val (.long q3), .second, .val (.int p4), .val (.int (0 : Int32)), .val (.ref b3), .val (.ref b5), .val (.int (1 : Int32))] [(.int (1 : Int32))])) _
      refine XS.goto X25.here hx rfl (pc0 := 143) (pc' := 147) rfl (hb hby at_143) (by decide) (by decide) ?_
      show Steps p.tables e below (T25.setTop (mkF m 147 #[.val (.long q0), .second, .val (.long q1), .second, .val (.long q2), .second, .val (.long q3), .second, .val (.int p4), .val (.int (0 : Int32)), .val (.ref b3), .val (.ref b5), .val (.int (1 : Int32))] [(.int (1 : Int32))])) _
      refine XS.istore X25.here hx rfl (hb hby at_147) rfl (l' := #[.val (.long q0), .second, .val (.long q1), .second, .val (.long q2), .second, .val (.long q3), .second, .val (.int p4), .val (.int (0 : Int32)), .val (.ref b3), .val (.ref b5), .val (.int (1 : Int32))]) rfl ?_
      show Steps p.tables e below (T25.setTop (mkF m 149 #[.val (.long q0), .second, .val (.long q1), .second, .val (.long q2), .second, .val (.long q3), .second, .val (.int p4), .val (.int (0 : Int32)), .val (.ref b3), .val (.ref b5), .val (.int (1 : Int32))] [])) _
      refine XS.iload X25.here hx rfl (hb hby at_149) rfl ?_
      show Steps p.tables e below (T25.setTop (mkF m 151 #[.val (.long q0), .second, .val (.long q1), .second, .val (.long q2), .second, .val (.long q3), .second, .val (.int p4), .val (.int (0 : Int32)), .val (.ref b3), .val (.ref b5), .val (.int (1 : Int32))] [(.int (1 : Int32))])) _
      refine XS.ifNo X25.here hx rfl (hb hby at_151) rfl ((if0 _ _).trans (feq (by decide : ¬ ((1 : Int32) = (0 : Int32)))).1) ?_
      show Steps p.tables e below (T25.setTop (mkF m 154 #[.val (.long q0), .second, .val (.long q1), .second, .val (.long q2), .second, .val (.long q3), .second, .val (.int p4), .val (.int (0 : Int32)), .val (.ref b3), .val (.ref b5), .val (.int (1 : Int32))] [])) _
      refine XS.aload X25.here hx rfl (hb hby at_154) rfl rfl ?_
      show Steps p.tables e below (T25.setTop (mkF m 156 #[.val (.long q0), .second, .val (.long q1), .second, .val (.long q2), .second, .val (.long q3), .second, .val (.int p4), .val (.int (0 : Int32)), .val (.ref b3), .val (.ref b5), .val (.int (1 : Int32))] [(.ref b5)])) _
      refine XS.lload X25.here hx rfl (hb hby at_156) rfl ?_
      exact kt
    obtain ⟨cq28, kq28, q28a, q28b, q28c⟩ := isOf hZ e25 Eq12
    obtain ⟨_, _, ⟨T29, L29, k29, n29⟩, -, X29, ⟨Lc29, hQ29, l29, y29, z29⟩, st29⟩ := X25.virtualBack hx (y := (⟨"com/example/mapstone/mapstone/engine/ConceptIndex", "place", "(J)I"⟩ : MethodName)) (z := (⟨"com/example/mapstone/mapstone/engine/ConceptIndex", "place", "(J)I"⟩ : MethodName)) hown (mvT hZ (hw _ (List.mem_of_getElem? (i := 36) rfl))) (mvT hZ (hw _ (List.mem_of_getElem? (i := 37) rfl))) (notFace_of_selects (args := #[]) (mvT hZ (hw _ (List.mem_of_getElem? (i := 39) rfl)))) (mvT hZ (hw _ (List.mem_of_getElem? (i := 39) rfl))) (mvT hZ (hw _ (List.mem_of_getElem? (i := 38) rfl))) (by decide) (backOf (W := 0) (rm7 l Z a0 hw [] b5 q2 (63 : Int32) os12 ks12 2 (List.replicate 2 0) b3 k3 [] (.long (0 : Int64)) T12.heap n0 f14 Fh12 Eq12 Fs12 Vs12 Fc12 f15 (by decide) hok.1 hok.2.1 (Nat.le_of_ble_eq_true rfl) (own_slotv 63 q2 0 2 (by decide)) (hok.2.2 _ (own_slotv 63 q2 0 2 (by decide)).2).1) hZ (hw _ (List.mem_of_getElem? (i := 40) rfl)) (hw _ (List.mem_of_getElem? (i := 3) rfl)) (by decide) (by decide)) q28a q28c (g := (mkF m 158 #[.val (.long q0), .second, .val (.long q1), .second, .val (.long q2), .second, .val (.long q3), .second, .val (.int p4), .val (.int (0 : Int32)), .val (.ref b3), .val (.ref b5), .val (.int (1 : Int32))] [(.long q2), (.ref b5)])) rfl (by rw [hml]; rfl) (Steps.refl _) (argsL := [(.long q2)]) (rest := []) (lenOf pd_2 rfl) rfl (by show 2 * 0 + _ ≤ _; exact Nat.le_of_eq rfl) (hb hby at_158) (fun _ _ => ⟨rfl, e25, (by decide : 3 + 0 ≤ _), (by decide : 5 + 0 ≤ _)⟩)
    dsimp only [Pt.U, Pt.locs, Pt.cells, Pt.slots] at X29 l29 y29 z29 st29 hQ29
    subst l29 y29 z29
    obtain ⟨rfl, N29q, e29⟩ := hQ29
    have N29 := Fr.app N25 N29q
    have c30 : ∀ t, Steps p.tables e below (T29.setTop (mkF m 169 #[.val (.long q0), .second, .val (.long q1), .second, .val (.long q2), .second, .val (.long q3), .second, .val (.int p4), .val (.int (0 : Int32)), .val (.ref b3), .val (.ref b5), .val (.int (1 : Int32))] [(.long q2), (.int (0 : Int32)), (.long q2), (.long q1), (.long q0), (.int (own_lk (List.replicate 2 0) 2 (own_e [] q2) 8 (own_sN 63 q2)))])) t → Steps p.tables e below (T29.setTop (mkF m 161 #[.val (.long q0), .second, .val (.long q1), .second, .val (.long q2), .second, .val (.long q3), .second, .val (.int p4), .val (.int (0 : Int32)), .val (.ref b3), .val (.ref b5), .val (.int (1 : Int32))] [(.int (own_lk (List.replicate 2 0) 2 (own_e [] q2) 8 (own_sN 63 q2)))])) t := by
      intro t kt
      show Steps p.tables e below (T29.setTop (mkF m 161 #[.val (.long q0), .second, .val (.long q1), .second, .val (.long q2), .second, .val (.long q3), .second, .val (.int p4), .val (.int (0 : Int32)), .val (.ref b3), .val (.ref b5), .val (.int (1 : Int32))] [(.int (own_lk (List.replicate 2 0) 2 (own_e [] q2) 8 (own_sN 63 q2)))])) _
      refine XS.lloadN X29.here hx rfl (hb hby at_161) rfl ?_
      show Steps p.tables e below (T29.setTop (mkF m 162 #[.val (.long q0), .second, .val (.long q1), .second, .val (.long q2), .second, .val (.long q3), .second, .val (.int p4), .val (.int (0 : Int32)), .val (.ref b3), .val (.ref b5), .val (.int (1 : Int32))] [(.long q0), (.int (own_lk (List.replicate 2 0) 2 (own_e [] q2) 8 (own_sN 63 q2)))])) _
      refine XS.lloadN X29.here hx rfl (hb hby at_162) rfl ?_
      show Steps p.tables e below (T29.setTop (mkF m 163 #[.val (.long q0), .second, .val (.long q1), .second, .val (.long q2), .second, .val (.long q3), .second, .val (.int p4), .val (.int (0 : Int32)), .val (.ref b3), .val (.ref b5), .val (.int (1 : Int32))] [(.long q1), (.long q0), (.int (own_lk (List.replicate 2 0) 2 (own_e [] q2) 8 (own_sN 63 q2)))])) _
      refine XS.lload X29.here hx rfl (hb hby at_163) rfl ?_
      show Steps p.tables e below (T29.setTop (mkF m 165 #[.val (.long q0), .second, .val (.long q1), .second, .val (.long q2), .second, .val (.long q3), .second, .val (.int p4), .val (.int (0 : Int32)), .val (.ref b3), .val (.ref b5), .val (.int (1 : Int32))] [(.long q2), (.long q1), (.long q0), (.int (own_lk (List.replicate 2 0) 2 (own_e [] q2) 8 (own_sN 63 q2)))])) _
      refine XS.iload X29.here hx rfl (hb hby at_165) rfl ?_
      show Steps p.tables e below (T29.setTop (mkF m 167 #[.val (.long q0), .second, .val (.long q1), .second, .val (.long q2), .second, .val (.long q3), .second, .val (.int p4), .val (.int (0 : Int32)), .val (.ref b3), .val (.ref b5), .val (.int (1 : Int32))] [(.int (0 : Int32)), (.long q2), (.long q1), (.long q0), (.int (own_lk (List.replicate 2 0) 2 (own_e [] q2) 8 (own_sN 63 q2)))])) _
      refine XS.lload X29.here hx rfl (hb hby at_167) rfl ?_
      exact kt
    obtain ⟨_, _, ⟨T31, L31, k31, n31⟩, -, X31, ⟨Lc31, hQ31, l31, y31, z31⟩, st31⟩ := Jvm.LawKit.callS X29 hx (y := (⟨"com/example/mapstone/mapstone/engine/ConceptIndexPlacePinLaw", "ref", "(JJJIJ)I"⟩ : MethodName)) hown (mvT hZ (hw _ (List.mem_of_getElem? (i := 41) rfl))) (mvT hZ (hw _ (List.mem_of_getElem? (i := 42) rfl))) (mvT hZ (hw _ (List.mem_of_getElem? (i := 43) rfl))) (mvT hZ (hw _ (List.mem_of_getElem? (i := 44) rfl))) (by decide) (backOf (W := 1) (rm8 l Z a0 hw [] q0 q1 q2 (0 : Int32) q2  T12.heap n0 f14 ) hZ (hw _ (List.mem_of_getElem? (i := 44) rfl)) (hw _ (List.mem_of_getElem? (i := 43) rfl)) (by decide) (by decide)) (g := (mkF m 169 #[.val (.long q0), .second, .val (.long q1), .second, .val (.long q2), .second, .val (.long q3), .second, .val (.int p4), .val (.int (0 : Int32)), .val (.ref b3), .val (.ref b5), .val (.int (1 : Int32))] [(.long q2), (.int (0 : Int32)), (.long q2), (.long q1), (.long q0), (.int (own_lk (List.replicate 2 0) 2 (own_e [] q2) 8 (own_sN 63 q2)))])) rfl (by rw [hml]; rfl) (argsL := [(.long q0), (.long q1), (.long q2), (.int (0 : Int32)), (.long q2)]) (rest := [(.int (own_lk (List.replicate 2 0) 2 (own_e [] q2) 8 (own_sN 63 q2)))]) (lenOf pd_4 rfl) rfl (by show 2 * 0 + _ ≤ _; exact Nat.le_of_eq rfl) (hb hby at_169) (fun _ _ => ⟨rfl, e29, (by decide : 3 + 0 ≤ _), (by decide : 5 + 0 ≤ _)⟩)
    dsimp only [Pt.U, Pt.locs, Pt.cells, Pt.slots] at X31 l31 y31 z31 st31 hQ31
    subst l31 y31 z31
    obtain ⟨rfl, N31q, e31⟩ := hQ31
    have N31 := Fr.app N29 N31q
    have hd32 : (own_lk (List.replicate 2 0) 2 (own_e [] q2) 8 (own_sN 63 q2)) = (own_rf (0 : Int32) q0 q1 q2 q2) := own_k0 q0 q1 q2 _
    have c33 : ∀ t, Steps p.tables e below (T31.setTop (mkF m 191 #[.val (.long q0), .second, .val (.long q1), .second, .val (.long q2), .second, .val (.long q3), .second, .val (.int p4), .val (.int (0 : Int32)), .val (.ref b3), .val (.ref b5), .val (.int (1 : Int32))] [(.long q3), (.ref b5)])) t → Steps p.tables e below (T31.setTop (mkF m 172 #[.val (.long q0), .second, .val (.long q1), .second, .val (.long q2), .second, .val (.long q3), .second, .val (.int p4), .val (.int (0 : Int32)), .val (.ref b3), .val (.ref b5), .val (.int (1 : Int32))] [(.int (own_rf (0 : Int32) q0 q1 q2 q2)), (.int (own_lk (List.replicate 2 0) 2 (own_e [] q2) 8 (own_sN 63 q2)))])) t := by
      intro t kt
      show Steps p.tables e below (T31.setTop (mkF m 172 #[.val (.long q0), .second, .val (.long q1), .second, .val (.long q2), .second, .val (.long q3), .second, .val (.int p4), .val (.int (0 : Int32)), .val (.ref b3), .val (.ref b5), .val (.int (1 : Int32))] [(.int (own_rf (0 : Int32) q0 q1 q2 q2)), (.int (own_lk (List.replicate 2 0) 2 (own_e [] q2) 8 (own_sN 63 q2)))])) _
      refine XS.icmpNo X31.here hx rfl (hb hby at_172) rfl (teq (hd32)).2 ?_
      show Steps p.tables e below (T31.setTop (mkF m 175 #[.val (.long q0), .second, .val (.long q1), .second, .val (.long q2), .second, .val (.long q3), .second, .val (.int p4), .val (.int (0 : Int32)), .val (.ref b3), .val (.ref b5), .val (.int (1 : Int32))] [])) _
      refine XS.iconst X31.here hx rfl (hb hby at_175) ?_
      show Steps p.tables e below (T31.setTop (mkF m 176 #[.val (.long q0), .second, .val (.long q1), .second, .val (.long q2), .second, .val (.long q3), .second, .val (.int p4), .val (.int (0 : Int32)), .val (.ref b3), .val (.ref b5), .val (.int (1 : Int32))] [(.int (1 : Int32))])) _
      refine XS.goto X31.here hx rfl (pc0 := 176) (pc' := 180) rfl (hb hby at_176) (by decide) (by decide) ?_
      show Steps p.tables e below (T31.setTop (mkF m 180 #[.val (.long q0), .second, .val (.long q1), .second, .val (.long q2), .second, .val (.long q3), .second, .val (.int p4), .val (.int (0 : Int32)), .val (.ref b3), .val (.ref b5), .val (.int (1 : Int32))] [(.int (1 : Int32))])) _
      refine XS.istore X31.here hx rfl (hb hby at_180) rfl (l' := #[.val (.long q0), .second, .val (.long q1), .second, .val (.long q2), .second, .val (.long q3), .second, .val (.int p4), .val (.int (0 : Int32)), .val (.ref b3), .val (.ref b5), .val (.int (1 : Int32))]) rfl ?_
      show Steps p.tables e below (T31.setTop (mkF m 182 #[.val (.long q0), .second, .val (.long q1), .second, .val (.long q2), .second, .val (.long q3), .second, .val (.int p4), .val (.int (0 : Int32)), .val (.ref b3), .val (.ref b5), .val (.int (1 : Int32))] [])) _
      refine XS.iload X31.here hx rfl (hb hby at_182) rfl ?_
      show Steps p.tables e below (T31.setTop (mkF m 184 #[.val (.long q0), .second, .val (.long q1), .second, .val (.long q2), .second, .val (.long q3), .second, .val (.int p4), .val (.int (0 : Int32)), .val (.ref b3), .val (.ref b5), .val (.int (1 : Int32))] [(.int (1 : Int32))])) _
      refine XS.ifNo X31.here hx rfl (hb hby at_184) rfl ((if0 _ _).trans (feq (by decide : ¬ ((1 : Int32) = (0 : Int32)))).1) ?_
      show Steps p.tables e below (T31.setTop (mkF m 187 #[.val (.long q0), .second, .val (.long q1), .second, .val (.long q2), .second, .val (.long q3), .second, .val (.int p4), .val (.int (0 : Int32)), .val (.ref b3), .val (.ref b5), .val (.int (1 : Int32))] [])) _
      refine XS.aload X31.here hx rfl (hb hby at_187) rfl rfl ?_
      show Steps p.tables e below (T31.setTop (mkF m 189 #[.val (.long q0), .second, .val (.long q1), .second, .val (.long q2), .second, .val (.long q3), .second, .val (.int p4), .val (.int (0 : Int32)), .val (.ref b3), .val (.ref b5), .val (.int (1 : Int32))] [(.ref b5)])) _
      refine XS.lload X31.here hx rfl (hb hby at_189) rfl ?_
      exact kt
    obtain ⟨cq34, kq34, q34a, q34b, q34c⟩ := isOf hZ e31 Eq12
    obtain ⟨_, _, ⟨T35, L35, k35, n35⟩, -, X35, ⟨Lc35, hQ35, l35, y35, z35⟩, st35⟩ := X31.virtualBack hx (y := (⟨"com/example/mapstone/mapstone/engine/ConceptIndex", "place", "(J)I"⟩ : MethodName)) (z := (⟨"com/example/mapstone/mapstone/engine/ConceptIndex", "place", "(J)I"⟩ : MethodName)) hown (mvT hZ (hw _ (List.mem_of_getElem? (i := 36) rfl))) (mvT hZ (hw _ (List.mem_of_getElem? (i := 37) rfl))) (notFace_of_selects (args := #[]) (mvT hZ (hw _ (List.mem_of_getElem? (i := 39) rfl)))) (mvT hZ (hw _ (List.mem_of_getElem? (i := 39) rfl))) (mvT hZ (hw _ (List.mem_of_getElem? (i := 38) rfl))) (by decide) (backOf (W := 0) (rm7 l Z a0 hw [] b5 q3 (63 : Int32) os12 ks12 2 (List.replicate 2 0) b3 k3 [] (.long (0 : Int64)) T12.heap n0 f14 Fh12 Eq12 Fs12 Vs12 Fc12 f15 (by decide) hok.1 hok.2.1 (Nat.le_of_ble_eq_true rfl) (own_slotv 63 q3 0 2 (by decide)) (hok.2.2 _ (own_slotv 63 q3 0 2 (by decide)).2).1) hZ (hw _ (List.mem_of_getElem? (i := 40) rfl)) (hw _ (List.mem_of_getElem? (i := 3) rfl)) (by decide) (by decide)) q34a q34c (g := (mkF m 191 #[.val (.long q0), .second, .val (.long q1), .second, .val (.long q2), .second, .val (.long q3), .second, .val (.int p4), .val (.int (0 : Int32)), .val (.ref b3), .val (.ref b5), .val (.int (1 : Int32))] [(.long q3), (.ref b5)])) rfl (by rw [hml]; rfl) (Steps.refl _) (argsL := [(.long q3)]) (rest := []) (lenOf pd_2 rfl) rfl (by show 2 * 0 + _ ≤ _; exact Nat.le_of_eq rfl) (hb hby at_191) (fun _ _ => ⟨rfl, e31, (by decide : 3 + 0 ≤ _), (by decide : 5 + 0 ≤ _)⟩)
    dsimp only [Pt.U, Pt.locs, Pt.cells, Pt.slots] at X35 l35 y35 z35 st35 hQ35
    subst l35 y35 z35
    obtain ⟨rfl, N35q, e35⟩ := hQ35
    have N35 := Fr.app N31 N35q
    have c36 : ∀ t, Steps p.tables e below (T35.setTop (mkF m 202 #[.val (.long q0), .second, .val (.long q1), .second, .val (.long q2), .second, .val (.long q3), .second, .val (.int p4), .val (.int (0 : Int32)), .val (.ref b3), .val (.ref b5), .val (.int (1 : Int32))] [(.long q3), (.int (0 : Int32)), (.long q2), (.long q1), (.long q0), (.int (own_lk (List.replicate 2 0) 2 (own_e [] q3) 8 (own_sN 63 q3)))])) t → Steps p.tables e below (T35.setTop (mkF m 194 #[.val (.long q0), .second, .val (.long q1), .second, .val (.long q2), .second, .val (.long q3), .second, .val (.int p4), .val (.int (0 : Int32)), .val (.ref b3), .val (.ref b5), .val (.int (1 : Int32))] [(.int (own_lk (List.replicate 2 0) 2 (own_e [] q3) 8 (own_sN 63 q3)))])) t := by
      intro t kt
      show Steps p.tables e below (T35.setTop (mkF m 194 #[.val (.long q0), .second, .val (.long q1), .second, .val (.long q2), .second, .val (.long q3), .second, .val (.int p4), .val (.int (0 : Int32)), .val (.ref b3), .val (.ref b5), .val (.int (1 : Int32))] [(.int (own_lk (List.replicate 2 0) 2 (own_e [] q3) 8 (own_sN 63 q3)))])) _
      refine XS.lloadN X35.here hx rfl (hb hby at_194) rfl ?_
      show Steps p.tables e below (T35.setTop (mkF m 195 #[.val (.long q0), .second, .val (.long q1), .second, .val (.long q2), .second, .val (.long q3), .second, .val (.int p4), .val (.int (0 : Int32)), .val (.ref b3), .val (.ref b5), .val (.int (1 : Int32))] [(.long q0), (.int (own_lk (List.replicate 2 0) 2 (own_e [] q3) 8 (own_sN 63 q3)))])) _
      refine XS.lloadN X35.here hx rfl (hb hby at_195) rfl ?_
      show Steps p.tables e below (T35.setTop (mkF m 196 #[.val (.long q0), .second, .val (.long q1), .second, .val (.long q2), .second, .val (.long q3), .second, .val (.int p4), .val (.int (0 : Int32)), .val (.ref b3), .val (.ref b5), .val (.int (1 : Int32))] [(.long q1), (.long q0), (.int (own_lk (List.replicate 2 0) 2 (own_e [] q3) 8 (own_sN 63 q3)))])) _
      refine XS.lload X35.here hx rfl (hb hby at_196) rfl ?_
      show Steps p.tables e below (T35.setTop (mkF m 198 #[.val (.long q0), .second, .val (.long q1), .second, .val (.long q2), .second, .val (.long q3), .second, .val (.int p4), .val (.int (0 : Int32)), .val (.ref b3), .val (.ref b5), .val (.int (1 : Int32))] [(.long q2), (.long q1), (.long q0), (.int (own_lk (List.replicate 2 0) 2 (own_e [] q3) 8 (own_sN 63 q3)))])) _
      refine XS.iload X35.here hx rfl (hb hby at_198) rfl ?_
      show Steps p.tables e below (T35.setTop (mkF m 200 #[.val (.long q0), .second, .val (.long q1), .second, .val (.long q2), .second, .val (.long q3), .second, .val (.int p4), .val (.int (0 : Int32)), .val (.ref b3), .val (.ref b5), .val (.int (1 : Int32))] [(.int (0 : Int32)), (.long q2), (.long q1), (.long q0), (.int (own_lk (List.replicate 2 0) 2 (own_e [] q3) 8 (own_sN 63 q3)))])) _
      refine XS.lload X35.here hx rfl (hb hby at_200) rfl ?_
      exact kt
    obtain ⟨_, _, ⟨T37, L37, k37, n37⟩, -, X37, ⟨Lc37, hQ37, l37, y37, z37⟩, st37⟩ := Jvm.LawKit.callS X35 hx (y := (⟨"com/example/mapstone/mapstone/engine/ConceptIndexPlacePinLaw", "ref", "(JJJIJ)I"⟩ : MethodName)) hown (mvT hZ (hw _ (List.mem_of_getElem? (i := 41) rfl))) (mvT hZ (hw _ (List.mem_of_getElem? (i := 42) rfl))) (mvT hZ (hw _ (List.mem_of_getElem? (i := 43) rfl))) (mvT hZ (hw _ (List.mem_of_getElem? (i := 44) rfl))) (by decide) (backOf (W := 1) (rm8 l Z a0 hw [] q0 q1 q2 (0 : Int32) q3  T12.heap n0 f14 ) hZ (hw _ (List.mem_of_getElem? (i := 44) rfl)) (hw _ (List.mem_of_getElem? (i := 43) rfl)) (by decide) (by decide)) (g := (mkF m 202 #[.val (.long q0), .second, .val (.long q1), .second, .val (.long q2), .second, .val (.long q3), .second, .val (.int p4), .val (.int (0 : Int32)), .val (.ref b3), .val (.ref b5), .val (.int (1 : Int32))] [(.long q3), (.int (0 : Int32)), (.long q2), (.long q1), (.long q0), (.int (own_lk (List.replicate 2 0) 2 (own_e [] q3) 8 (own_sN 63 q3)))])) rfl (by rw [hml]; rfl) (argsL := [(.long q0), (.long q1), (.long q2), (.int (0 : Int32)), (.long q3)]) (rest := [(.int (own_lk (List.replicate 2 0) 2 (own_e [] q3) 8 (own_sN 63 q3)))]) (lenOf pd_4 rfl) rfl (by show 2 * 0 + _ ≤ _; exact Nat.le_of_eq rfl) (hb hby at_202) (fun _ _ => ⟨rfl, e35, (by decide : 3 + 0 ≤ _), (by decide : 5 + 0 ≤ _)⟩)
    dsimp only [Pt.U, Pt.locs, Pt.cells, Pt.slots] at X37 l37 y37 z37 st37 hQ37
    subst l37 y37 z37
    obtain ⟨rfl, N37q, e37⟩ := hQ37
    have N37 := Fr.app N35 N37q
    have hd38 : (own_lk (List.replicate 2 0) 2 (own_e [] q3) 8 (own_sN 63 q3)) = (own_rf (0 : Int32) q0 q1 q2 q3) := own_k0 q0 q1 q2 _
    have c39 : ∀ t, Steps p.tables e below (T37.setTop (mkF m 217 #[.val (.long q0), .second, .val (.long q1), .second, .val (.long q2), .second, .val (.long q3), .second, .val (.int p4), .val (.int (0 : Int32)), .val (.ref b3), .val (.ref b5), .val (.int (1 : Int32))] [(.int (1 : Int32))])) t → Steps p.tables e below (T37.setTop (mkF m 205 #[.val (.long q0), .second, .val (.long q1), .second, .val (.long q2), .second, .val (.long q3), .second, .val (.int p4), .val (.int (0 : Int32)), .val (.ref b3), .val (.ref b5), .val (.int (1 : Int32))] [(.int (own_rf (0 : Int32) q0 q1 q2 q3)), (.int (own_lk (List.replicate 2 0) 2 (own_e [] q3) 8 (own_sN 63 q3)))])) t := by
      intro t kt
      show Steps p.tables e below (T37.setTop (mkF m 205 #[.val (.long q0), .second, .val (.long q1), .second, .val (.long q2), .second, .val (.long q3), .second, .val (.int p4), .val (.int (0 : Int32)), .val (.ref b3), .val (.ref b5), .val (.int (1 : Int32))] [(.int (own_rf (0 : Int32) q0 q1 q2 q3)), (.int (own_lk (List.replicate 2 0) 2 (own_e [] q3) 8 (own_sN 63 q3)))])) _
      refine XS.icmpNo X37.here hx rfl (hb hby at_205) rfl (teq (hd38)).2 ?_
      show Steps p.tables e below (T37.setTop (mkF m 208 #[.val (.long q0), .second, .val (.long q1), .second, .val (.long q2), .second, .val (.long q3), .second, .val (.int p4), .val (.int (0 : Int32)), .val (.ref b3), .val (.ref b5), .val (.int (1 : Int32))] [])) _
      refine XS.iconst X37.here hx rfl (hb hby at_208) ?_
      show Steps p.tables e below (T37.setTop (mkF m 209 #[.val (.long q0), .second, .val (.long q1), .second, .val (.long q2), .second, .val (.long q3), .second, .val (.int p4), .val (.int (0 : Int32)), .val (.ref b3), .val (.ref b5), .val (.int (1 : Int32))] [(.int (1 : Int32))])) _
      refine XS.goto X37.here hx rfl (pc0 := 209) (pc' := 213) rfl (hb hby at_209) (by decide) (by decide) ?_
      show Steps p.tables e below (T37.setTop (mkF m 213 #[.val (.long q0), .second, .val (.long q1), .second, .val (.long q2), .second, .val (.long q3), .second, .val (.int p4), .val (.int (0 : Int32)), .val (.ref b3), .val (.ref b5), .val (.int (1 : Int32))] [(.int (1 : Int32))])) _
      refine XS.istore X37.here hx rfl (hb hby at_213) rfl (l' := #[.val (.long q0), .second, .val (.long q1), .second, .val (.long q2), .second, .val (.long q3), .second, .val (.int p4), .val (.int (0 : Int32)), .val (.ref b3), .val (.ref b5), .val (.int (1 : Int32))]) rfl ?_
      show Steps p.tables e below (T37.setTop (mkF m 215 #[.val (.long q0), .second, .val (.long q1), .second, .val (.long q2), .second, .val (.long q3), .second, .val (.int p4), .val (.int (0 : Int32)), .val (.ref b3), .val (.ref b5), .val (.int (1 : Int32))] [])) _
      refine XS.iload X37.here hx rfl (hb hby at_215) rfl ?_
      exact kt
    obtain ⟨fs, hr, hrun, hended, hW, hsame⟩ := X37.leave (v := some (.int (1 : Int32))) (fun h => by rw [Bd.returns] at h; cases h)
    refine ⟨_, _, pre0 _ (c1 _ (c2 _ (c4 _ (st3 _ (c6 _ (st5 _ (c9 _ (st12.trans (c13 _ (st17.trans (c18 _ (st19 _ (c21 _ (st23.trans (c24 _ (st25 _ (c27 _ (st29.trans (c30 _ (st31 _ (c33 _ (st35.trans (c36 _ (st37 _ (c39 _ (?_)))))))))))))))))))))))))), hrun, hended, _, _, rfl, ?_, ⟨_, rfl⟩, hW, hsame.mono (by decide) (by decide)⟩
    · show Steps p.tables e below (T37.setTop (mkF m 217 #[.val (.long q0), .second, .val (.long q1), .second, .val (.long q2), .second, .val (.long q3), .second, .val (.int p4), .val (.int (0 : Int32)), .val (.ref b3), .val (.ref b5), .val (.int (1 : Int32))] [(.int (1 : Int32))])) _
      exact retN X37 hx (t := .boolean) Bd.returns (by simp) (hb hby at_217) hr
    · show Q0 Z q0 q1 q2 q3 p4 h0 n0 _ T37.heap _
      rw [e37]
      exact ⟨congrArg (fun z => some (Value.int z)) (show (1 : Int32) = (1 : Int32) from by rfl), N37⟩
  · skip
    have c41 : ∀ t, Steps p.tables e below (s₁.setTop (mkF m 6 #[.val (.long q0), .second, .val (.long q1), .second, .val (.long q2), .second, .val (.long q3), .second, .val (.int p4), .val (.int (1 : Int32)), .unset, .unset, .unset] [])) t → Steps p.tables e below (s₁.setTop (mkF m 6 #[.val (.long q0), .second, .val (.long q1), .second, .val (.long q2), .second, .val (.long q3), .second, .val (.int p4), .val (.int (p4 &&& (3 : Int32))), .unset, .unset, .unset] [])) t := fun t kt => castTop (congrArg (fun z => (mkF m 6 #[.val (.long q0), .second, .val (.long q1), .second, .val (.long q2), .second, .val (.long q3), .second, .val (.int p4), .val (.int z), .unset, .unset, .unset] [])) (show (p4 &&& (3 : Int32)) = (1 : Int32) from hsz)) kt
    have c43 : ∀ t, Steps p.tables e below (s₁.setTop (mkF m 44 #[.val (.long q0), .second, .val (.long q1), .second, .val (.long q2), .second, .val (.long q3), .second, .val (.int p4), .val (.int (1 : Int32)), .unset, .unset, .unset] [(.int (1 : Int32))])) t → Steps p.tables e below (s₁.setTop (mkF m 6 #[.val (.long q0), .second, .val (.long q1), .second, .val (.long q2), .second, .val (.long q3), .second, .val (.int p4), .val (.int (1 : Int32)), .unset, .unset, .unset] [])) t := by
      intro t kt
      show Steps p.tables e below (s₁.setTop (mkF m 6 #[.val (.long q0), .second, .val (.long q1), .second, .val (.long q2), .second, .val (.long q3), .second, .val (.int p4), .val (.int (1 : Int32)), .unset, .unset, .unset] [])) _
      refine XS.iload X0.here hx rfl (hb hby at_6) rfl ?_
      show Steps p.tables e below (s₁.setTop (mkF m 8 #[.val (.long q0), .second, .val (.long q1), .second, .val (.long q2), .second, .val (.long q3), .second, .val (.int p4), .val (.int (1 : Int32)), .unset, .unset, .unset] [(.int (1 : Int32))])) _
      refine XS.iconst X0.here hx rfl (hb hby at_8) ?_
      show Steps p.tables e below (s₁.setTop (mkF m 9 #[.val (.long q0), .second, .val (.long q1), .second, .val (.long q2), .second, .val (.long q3), .second, .val (.int p4), .val (.int (1 : Int32)), .unset, .unset, .unset] [(.int (1 : Int32)), (.int (1 : Int32))])) _
      refine XS.icmpYes X0.here hx rfl (pc0 := 9) (pc' := 20) rfl (hb hby at_9) rfl (flt (by decide : ¬ ((1 : Int32) < (1 : Int32)))).2.2.2 (by decide) (by decide) ?_
      show Steps p.tables e below (s₁.setTop (mkF m 20 #[.val (.long q0), .second, .val (.long q1), .second, .val (.long q2), .second, .val (.long q3), .second, .val (.int p4), .val (.int (1 : Int32)), .unset, .unset, .unset] [])) _
      refine XS.iload X0.here hx rfl (hb hby at_20) rfl ?_
      show Steps p.tables e below (s₁.setTop (mkF m 22 #[.val (.long q0), .second, .val (.long q1), .second, .val (.long q2), .second, .val (.long q3), .second, .val (.int p4), .val (.int (1 : Int32)), .unset, .unset, .unset] [(.int (1 : Int32))])) _
      refine XS.iconst X0.here hx rfl (hb hby at_22) ?_
      show Steps p.tables e below (s₁.setTop (mkF m 23 #[.val (.long q0), .second, .val (.long q1), .second, .val (.long q2), .second, .val (.long q3), .second, .val (.int p4), .val (.int (1 : Int32)), .unset, .unset, .unset] [(.int (2 : Int32)), (.int (1 : Int32))])) _
      refine XS.icmpYes X0.here hx rfl (pc0 := 23) (pc' := 42) rfl (hb hby at_23) rfl (flt (by decide : ¬ ((2 : Int32) < (1 : Int32)))).2.2.2 (by decide) (by decide) ?_
      show Steps p.tables e below (s₁.setTop (mkF m 42 #[.val (.long q0), .second, .val (.long q1), .second, .val (.long q2), .second, .val (.long q3), .second, .val (.int p4), .val (.int (1 : Int32)), .unset, .unset, .unset] [])) _
      refine XS.iload X0.here hx rfl (hb hby at_42) rfl ?_
      exact kt
    obtain ⟨T42, h42, k42, X42, e42, E42, A42, st42⟩ := newP X0 hx hZ (hw _ (List.mem_of_getElem? (i := 0) rfl)) e0 (g := (mkF m 44 #[.val (.long q0), .second, .val (.long q1), .second, .val (.long q2), .second, .val (.long q3), .second, .val (.int p4), .val (.int (1 : Int32)), .unset, .unset, .unset] [(.int (1 : Int32))])) rfl (hb hby at_44) rfl (by decide) (cap := 1) (by decide) (by decide) (by decide) (by decide)
    obtain ⟨b42, g42⟩ : ∃ z, z = h0.size := ⟨_, rfl⟩
    rw [← g42] at A42 st42
    have g_b42 : n0 ≤ b42 := Nat.le_trans Z0 (Nat.le_of_eq g42.symm)
    have sz_b42 : h0.size ≤ b42 := Nat.le_trans (Keep.refl h0 []).1 (Nat.le_of_eq g42.symm)
    have V42 : Arv Z h42 b42 k42 .long (1 : Int32) [(.long (0 : Int64))] (.long (0 : Int64)) := (Arv.new A42 (by decide)).pad (pad_rep [] (.long (0 : Int64)) 1)
    have c44 : ∀ t, Steps p.tables e below (T42.setTop (mkF m 57 #[.val (.long q0), .second, .val (.long q1), .second, .val (.long q2), .second, .val (.long q3), .second, .val (.int p4), .val (.int (1 : Int32)), .val (.ref b42), .unset, .unset] [(.long q0), (.int (0 : Int32)), (.ref b42)])) t → Steps p.tables e below (T42.setTop (mkF m 46 #[.val (.long q0), .second, .val (.long q1), .second, .val (.long q2), .second, .val (.long q3), .second, .val (.int p4), .val (.int (1 : Int32)), .unset, .unset, .unset] [(.ref b42)])) t := by
      intro t kt
      show Steps p.tables e below (T42.setTop (mkF m 46 #[.val (.long q0), .second, .val (.long q1), .second, .val (.long q2), .second, .val (.long q3), .second, .val (.int p4), .val (.int (1 : Int32)), .unset, .unset, .unset] [(.ref b42)])) _
      refine XS.astore X42.here hx rfl (hb hby at_46) rfl rfl (l' := #[.val (.long q0), .second, .val (.long q1), .second, .val (.long q2), .second, .val (.long q3), .second, .val (.int p4), .val (.int (1 : Int32)), .val (.ref b42), .unset, .unset]) rfl ?_
      show Steps p.tables e below (T42.setTop (mkF m 48 #[.val (.long q0), .second, .val (.long q1), .second, .val (.long q2), .second, .val (.long q3), .second, .val (.int p4), .val (.int (1 : Int32)), .val (.ref b42), .unset, .unset] [])) _
      refine XS.iload X42.here hx rfl (hb hby at_48) rfl ?_
      show Steps p.tables e below (T42.setTop (mkF m 50 #[.val (.long q0), .second, .val (.long q1), .second, .val (.long q2), .second, .val (.long q3), .second, .val (.int p4), .val (.int (1 : Int32)), .val (.ref b42), .unset, .unset] [(.int (1 : Int32))])) _
      refine XS.ifNo X42.here hx rfl (hb hby at_50) rfl ((if0 _ _).trans (tlt (by decide : (0 : Int32) < (1 : Int32))).2.2.2) ?_
      show Steps p.tables e below (T42.setTop (mkF m 53 #[.val (.long q0), .second, .val (.long q1), .second, .val (.long q2), .second, .val (.long q3), .second, .val (.int p4), .val (.int (1 : Int32)), .val (.ref b42), .unset, .unset] [])) _
      refine XS.aload X42.here hx rfl (hb hby at_53) rfl rfl ?_
      show Steps p.tables e below (T42.setTop (mkF m 55 #[.val (.long q0), .second, .val (.long q1), .second, .val (.long q2), .second, .val (.long q3), .second, .val (.int p4), .val (.int (1 : Int32)), .val (.ref b42), .unset, .unset] [(.ref b42)])) _
      refine XS.iconst X42.here hx rfl (hb hby at_55) ?_
      show Steps p.tables e below (T42.setTop (mkF m 56 #[.val (.long q0), .second, .val (.long q1), .second, .val (.long q2), .second, .val (.long q3), .second, .val (.int p4), .val (.int (1 : Int32)), .val (.ref b42), .unset, .unset] [(.int (0 : Int32)), (.ref b42)])) _
      refine XS.lloadN X42.here hx rfl (hb hby at_56) rfl ?_
      exact kt
    have Vc45 := V42
    obtain ⟨cl45, Ar45, qk45, S45, M45, H45, G45⟩ := Vc45
    have hin45 : ¬ ((0 : Int32) < 0 ∨ cl45.slots.size ≤ ((0 : Int32)).toNatClampNeg) := inb_of S45 ⟨by decide, by decide⟩
    obtain ⟨T46, h46, X46, e46, W46, st46⟩ := stJ X42 hx hZ e42 Ar45 (j := (0 : Int32)) hin45 (g := (mkF m 57 #[.val (.long q0), .second, .val (.long q1), .second, .val (.long q2), .second, .val (.long q3), .second, .val (.int p4), .val (.int (1 : Int32)), .val (.ref b42), .unset, .unset] [(.long q0), (.int (0 : Int32)), (.ref b42)])) rfl rfl (hb hby at_57)
    have V46 : Arv Z h46 b42 k42 .long (1 : Int32) [(.long q0)] (.long (0 : Int64)) := Arv.set Ar45 qk45 S45 M45 H45 G45 rfl W46 0 rfl (Nat.le_of_ble_eq_true rfl)
    have N46 := Fr.snoc X46 N0 g_b42
    have c48 : ∀ t, Steps p.tables e below (T46.setTop (mkF m 81 #[.val (.long q0), .second, .val (.long q1), .second, .val (.long q2), .second, .val (.long q3), .second, .val (.int p4), .val (.int (1 : Int32)), .val (.ref b42), .unset, .unset] [])) t → Steps p.tables e below (T46.setTop (mkF m 58 #[.val (.long q0), .second, .val (.long q1), .second, .val (.long q2), .second, .val (.long q3), .second, .val (.int p4), .val (.int (1 : Int32)), .val (.ref b42), .unset, .unset] [])) t := by
      intro t kt
      show Steps p.tables e below (T46.setTop (mkF m 58 #[.val (.long q0), .second, .val (.long q1), .second, .val (.long q2), .second, .val (.long q3), .second, .val (.int p4), .val (.int (1 : Int32)), .val (.ref b42), .unset, .unset] [])) _
      refine XS.iload X46.here hx rfl (hb hby at_58) rfl ?_
      show Steps p.tables e below (T46.setTop (mkF m 60 #[.val (.long q0), .second, .val (.long q1), .second, .val (.long q2), .second, .val (.long q3), .second, .val (.int p4), .val (.int (1 : Int32)), .val (.ref b42), .unset, .unset] [(.int (1 : Int32))])) _
      refine XS.iconst X46.here hx rfl (hb hby at_60) ?_
      show Steps p.tables e below (T46.setTop (mkF m 61 #[.val (.long q0), .second, .val (.long q1), .second, .val (.long q2), .second, .val (.long q3), .second, .val (.int p4), .val (.int (1 : Int32)), .val (.ref b42), .unset, .unset] [(.int (1 : Int32)), (.int (1 : Int32))])) _
      refine XS.icmpYes X46.here hx rfl (pc0 := 61) (pc' := 69) rfl (hb hby at_61) rfl (flt (by decide : ¬ ((1 : Int32) < (1 : Int32)))).2.2.2 (by decide) (by decide) ?_
      show Steps p.tables e below (T46.setTop (mkF m 69 #[.val (.long q0), .second, .val (.long q1), .second, .val (.long q2), .second, .val (.long q3), .second, .val (.int p4), .val (.int (1 : Int32)), .val (.ref b42), .unset, .unset] [])) _
      refine XS.iload X46.here hx rfl (hb hby at_69) rfl ?_
      show Steps p.tables e below (T46.setTop (mkF m 71 #[.val (.long q0), .second, .val (.long q1), .second, .val (.long q2), .second, .val (.long q3), .second, .val (.int p4), .val (.int (1 : Int32)), .val (.ref b42), .unset, .unset] [(.int (1 : Int32))])) _
      refine XS.iconst X46.here hx rfl (hb hby at_71) ?_
      show Steps p.tables e below (T46.setTop (mkF m 72 #[.val (.long q0), .second, .val (.long q1), .second, .val (.long q2), .second, .val (.long q3), .second, .val (.int p4), .val (.int (1 : Int32)), .val (.ref b42), .unset, .unset] [(.int (2 : Int32)), (.int (1 : Int32))])) _
      refine XS.icmpYes X46.here hx rfl (pc0 := 72) (pc' := 81) rfl (hb hby at_72) rfl (flt (by decide : ¬ ((2 : Int32) < (1 : Int32)))).2.2.2 (by decide) (by decide) ?_
      exact kt
    obtain ⟨T47, h47, X47, e47, E47, A47, D47, U47, st47⟩ := newO X46 hx hZ hown (hw _ (List.mem_of_getElem? (i := 1) rfl)) (hw _ (List.mem_of_getElem? (i := 2) rfl)) (hw _ (List.mem_of_getElem? (i := 3) rfl)) e46 (g := (mkF m 81 #[.val (.long q0), .second, .val (.long q1), .second, .val (.long q2), .second, .val (.long q3), .second, .val (.int p4), .val (.int (1 : Int32)), .val (.ref b42), .unset, .unset] [])) rfl (hb hby at_81) (by decide) (by decide)
    obtain ⟨b47, g47⟩ : ∃ z, z = h46.size := ⟨_, rfl⟩
    rw [← g47] at A47 D47 U47 st47
    have f49 := (Nat.le_trans (Nat.le_trans Z0 E42.1) (Keep.of_wr W46).1)
    have f50 := (((Keep.refl h0 []).ext E42).wr W46 (Or.inr sz_b42))
    have g_b47 : n0 ≤ b47 := Nat.le_trans f49 (Nat.le_of_eq g47.symm)
    have sz_b47 : h0.size ≤ b47 := Nat.le_trans f50.1 (Nat.le_of_eq g47.symm)
    have lt_b42_47 := V46.lt
    have F47_concepts : Fld Z h47 b47 "com/example/mapstone/mapstone/engine/ConceptIndex" "concepts" "[J" .null := D47 (Or.inr (hw _ (List.mem_of_getElem? (i := 11) rfl))) (ty := (.array .long)) (by decide)
    have F47_slots : Fld Z h47 b47 "com/example/mapstone/mapstone/engine/ConceptIndex" "slots" "[I" .null := D47 (Or.inr (hw _ (List.mem_of_getElem? (i := 28) rfl))) (ty := (.array .int)) (by decide)
    have F47_shift : Fld Z h47 b47 "com/example/mapstone/mapstone/engine/ConceptIndex" "shift" "I" (.int (0 : Int32)) := D47 (Or.inr (hw _ (List.mem_of_getElem? (i := 30) rfl))) (ty := .int) (by decide)
    have c51 : ∀ t, Steps p.tables e below (T47.setTop (mkF m 87 #[.val (.long q0), .second, .val (.long q1), .second, .val (.long q2), .second, .val (.long q3), .second, .val (.int p4), .val (.int (1 : Int32)), .val (.ref b42), .unset, .unset] [(.ref b42), (.ref b47), (.ref b47)])) t → Steps p.tables e below (T47.setTop (mkF m 84 #[.val (.long q0), .second, .val (.long q1), .second, .val (.long q2), .second, .val (.long q3), .second, .val (.int p4), .val (.int (1 : Int32)), .val (.ref b42), .unset, .unset] [(.ref b47)])) t := by
      intro t kt
      show Steps p.tables e below (T47.setTop (mkF m 84 #[.val (.long q0), .second, .val (.long q1), .second, .val (.long q2), .second, .val (.long q3), .second, .val (.int p4), .val (.int (1 : Int32)), .val (.ref b42), .unset, .unset] [(.ref b47)])) _
      refine XS.dup X47.here hx rfl (hb hby at_84) rfl rfl ?_
      show Steps p.tables e below (T47.setTop (mkF m 85 #[.val (.long q0), .second, .val (.long q1), .second, .val (.long q2), .second, .val (.long q3), .second, .val (.int p4), .val (.int (1 : Int32)), .val (.ref b42), .unset, .unset] [(.ref b47), (.ref b47)])) _
      refine XS.aload X47.here hx rfl (hb hby at_85) rfl rfl ?_
      exact kt
    have f52 := (Nat.le_trans f49 E47.1)
    have f53 := (V46.ext E47)
    obtain ⟨_, _, ⟨T54, L54, k54, n54⟩, -, X54, ⟨Lc54, hQ54, l54, y54, z54⟩, st54⟩ := X47.specialBack hx (y := (⟨"com/example/mapstone/mapstone/engine/ConceptIndex", "<init>", "([J)V"⟩ : MethodName)) rfl hown (mvT hZ (hw _ (List.mem_of_getElem? (i := 4) rfl))) (mvT hZ (hw _ (List.mem_of_getElem? (i := 5) rfl))) (mvT hZ (hw _ (List.mem_of_getElem? (i := 6) rfl))) (by decide) (backOf (W := 1) (rm1_1 l Z a0 hw [] b47 b42 k42 q0 (.long (0 : Int64)) h47 n0 f52 f53 F47_concepts F47_slots F47_shift A47 g_b47 (Nat.ne_of_lt (Nat.lt_of_lt_of_le lt_b42_47 (Nat.le_of_eq g47.symm)))) hZ (hw _ (List.mem_of_getElem? (i := 6) rfl)) (hw _ (List.mem_of_getElem? (i := 3) rfl)) (by decide) (by decide)) (g := (mkF m 87 #[.val (.long q0), .second, .val (.long q1), .second, .val (.long q2), .second, .val (.long q3), .second, .val (.int p4), .val (.int (1 : Int32)), .val (.ref b42), .unset, .unset] [(.ref b42), (.ref b47), (.ref b47)])) rfl (by rw [hml]; rfl) (Steps.refl _) (a := b47) (argsL := [(.ref b42)]) (rest := [(.ref b47)]) (lenOf pd_3 rfl) rfl (by show 2 * 0 + _ ≤ _; exact Nat.le_of_eq rfl) (hb hby at_87) (fun _ _ => ⟨rfl, e47, (by decide : 2 + 1 ≤ _), (by decide : 4 + 2 ≤ _)⟩)
    dsimp only [Pt.U, Pt.locs, Pt.cells, Pt.slots] at X54 l54 y54 z54 st54 hQ54
    subst l54 y54 z54
    obtain ⟨os54, ks54, rfl, N54q, Kq54, Eq54, Fc54, Fs54, Fh54, Vs54⟩ := hQ54
    have N54 := Fr.app N46 N54q
    have hok : own_ok (own_t1 (own_sN 63 q0)) 2 1 := own_mk _ _ _ (own_c1 _ (own_slotv 63 q0 0 2 (by decide)).2).1 (own_c1 _ (own_slotv 63 q0 0 2 (by decide)).2).2.1 (own_c1 _ (own_slotv 63 q0 0 2 (by decide)).2).2.2
    have c55 : ∀ t, Steps p.tables e below (T54.setTop (mkF m 95 #[.val (.long q0), .second, .val (.long q1), .second, .val (.long q2), .second, .val (.long q3), .second, .val (.int p4), .val (.int (1 : Int32)), .val (.ref b42), .val (.ref b47), .unset] [(.long q0), (.ref b47)])) t → Steps p.tables e below (T54.setTop (mkF m 90 #[.val (.long q0), .second, .val (.long q1), .second, .val (.long q2), .second, .val (.long q3), .second, .val (.int p4), .val (.int (1 : Int32)), .val (.ref b42), .unset, .unset] [(.ref b47)])) t := by
      intro t kt
      show Steps p.tables e below (T54.setTop (mkF m 90 #[.val (.long q0), .second, .val (.long q1), .second, .val (.long q2), .second, .val (.long q3), .second, .val (.int p4), .val (.int (1 : Int32)), .val (.ref b42), .unset, .unset] [(.ref b47)])) _
      refine XS.astore X54.here hx rfl (hb hby at_90) rfl rfl (l' := #[.val (.long q0), .second, .val (.long q1), .second, .val (.long q2), .second, .val (.long q3), .second, .val (.int p4), .val (.int (1 : Int32)), .val (.ref b42), .val (.ref b47), .unset]) rfl ?_
      show Steps p.tables e below (T54.setTop (mkF m 92 #[.val (.long q0), .second, .val (.long q1), .second, .val (.long q2), .second, .val (.long q3), .second, .val (.int p4), .val (.int (1 : Int32)), .val (.ref b42), .val (.ref b47), .unset] [])) _
      refine XS.aload X54.here hx rfl (hb hby at_92) rfl rfl ?_
      show Steps p.tables e below (T54.setTop (mkF m 94 #[.val (.long q0), .second, .val (.long q1), .second, .val (.long q2), .second, .val (.long q3), .second, .val (.int p4), .val (.int (1 : Int32)), .val (.ref b42), .val (.ref b47), .unset] [(.ref b47)])) _
      refine XS.lloadN X54.here hx rfl (hb hby at_94) rfl ?_
      exact kt
    have f56 := (Nat.le_trans f52 Kq54.1)
    have f57 := (f53.keep Kq54 (ninS (Nat.ne_of_lt (Nat.lt_of_lt_of_le lt_b42_47 (Nat.le_of_eq g47.symm))) nin0))
    obtain ⟨cq58, kq58, q58a, q58b, q58c⟩ := isOf hZ rfl Eq54
    obtain ⟨_, _, ⟨T59, L59, k59, n59⟩, -, X59, ⟨Lc59, hQ59, l59, y59, z59⟩, st59⟩ := X54.virtualBack hx (y := (⟨"com/example/mapstone/mapstone/engine/ConceptIndex", "place", "(J)I"⟩ : MethodName)) (z := (⟨"com/example/mapstone/mapstone/engine/ConceptIndex", "place", "(J)I"⟩ : MethodName)) hown (mvT hZ (hw _ (List.mem_of_getElem? (i := 36) rfl))) (mvT hZ (hw _ (List.mem_of_getElem? (i := 37) rfl))) (notFace_of_selects (args := #[]) (mvT hZ (hw _ (List.mem_of_getElem? (i := 39) rfl)))) (mvT hZ (hw _ (List.mem_of_getElem? (i := 39) rfl))) (mvT hZ (hw _ (List.mem_of_getElem? (i := 38) rfl))) (by decide) (backOf (W := 0) (rm7 l Z a0 hw [] b47 q0 (63 : Int32) os54 ks54 2 (own_t1 (own_sN 63 q0)) b42 k42 [q0] (.long (0 : Int64)) T54.heap n0 f56 Fh54 Eq54 Fs54 Vs54 Fc54 f57 (by decide) hok.1 hok.2.1 (Nat.le_of_ble_eq_true rfl) (own_slotv 63 q0 0 2 (by decide)) (hok.2.2 _ (own_slotv 63 q0 0 2 (by decide)).2).1) hZ (hw _ (List.mem_of_getElem? (i := 40) rfl)) (hw _ (List.mem_of_getElem? (i := 3) rfl)) (by decide) (by decide)) q58a q58c (g := (mkF m 95 #[.val (.long q0), .second, .val (.long q1), .second, .val (.long q2), .second, .val (.long q3), .second, .val (.int p4), .val (.int (1 : Int32)), .val (.ref b42), .val (.ref b47), .unset] [(.long q0), (.ref b47)])) rfl (by rw [hml]; rfl) (Steps.refl _) (argsL := [(.long q0)]) (rest := []) (lenOf pd_2 rfl) rfl (by show 2 * 0 + _ ≤ _; exact Nat.le_of_eq rfl) (hb hby at_95) (fun _ _ => ⟨rfl, rfl, (by decide : 3 + 0 ≤ _), (by decide : 6 + 0 ≤ _)⟩)
    dsimp only [Pt.U, Pt.locs, Pt.cells, Pt.slots] at X59 l59 y59 z59 st59 hQ59
    subst l59 y59 z59
    obtain ⟨rfl, N59q, e59⟩ := hQ59
    have N59 := Fr.app N54 N59q
    have c60 : ∀ t, Steps p.tables e below (T59.setTop (mkF m 105 #[.val (.long q0), .second, .val (.long q1), .second, .val (.long q2), .second, .val (.long q3), .second, .val (.int p4), .val (.int (1 : Int32)), .val (.ref b42), .val (.ref b47), .unset] [(.long q0), (.int (1 : Int32)), (.long q2), (.long q1), (.long q0), (.int (own_lk (own_t1 (own_sN 63 q0)) 2 (own_e [q0] q0) 8 (own_sN 63 q0)))])) t → Steps p.tables e below (T59.setTop (mkF m 98 #[.val (.long q0), .second, .val (.long q1), .second, .val (.long q2), .second, .val (.long q3), .second, .val (.int p4), .val (.int (1 : Int32)), .val (.ref b42), .val (.ref b47), .unset] [(.int (own_lk (own_t1 (own_sN 63 q0)) 2 (own_e [q0] q0) 8 (own_sN 63 q0)))])) t := by
      intro t kt
      show Steps p.tables e below (T59.setTop (mkF m 98 #[.val (.long q0), .second, .val (.long q1), .second, .val (.long q2), .second, .val (.long q3), .second, .val (.int p4), .val (.int (1 : Int32)), .val (.ref b42), .val (.ref b47), .unset] [(.int (own_lk (own_t1 (own_sN 63 q0)) 2 (own_e [q0] q0) 8 (own_sN 63 q0)))])) _
      refine XS.lloadN X59.here hx rfl (hb hby at_98) rfl ?_
      show Steps p.tables e below (T59.setTop (mkF m 99 #[.val (.long q0), .second, .val (.long q1), .second, .val (.long q2), .second, .val (.long q3), .second, .val (.int p4), .val (.int (1 : Int32)), .val (.ref b42), .val (.ref b47), .unset] [(.long q0), (.int (own_lk (own_t1 (own_sN 63 q0)) 2 (own_e [q0] q0) 8 (own_sN 63 q0)))])) _
      refine XS.lloadN X59.here hx rfl (hb hby at_99) rfl ?_
      show Steps p.tables e below (T59.setTop (mkF m 100 #[.val (.long q0), .second, .val (.long q1), .second, .val (.long q2), .second, .val (.long q3), .second, .val (.int p4), .val (.int (1 : Int32)), .val (.ref b42), .val (.ref b47), .unset] [(.long q1), (.long q0), (.int (own_lk (own_t1 (own_sN 63 q0)) 2 (own_e [q0] q0) 8 (own_sN 63 q0)))])) _
      refine XS.lload X59.here hx rfl (hb hby at_100) rfl ?_
      show Steps p.tables e below (T59.setTop (mkF m 102 #[.val (.long q0), .second, .val (.long q1), .second, .val (.long q2), .second, .val (.long q3), .second, .val (.int p4), .val (.int (1 : Int32)), .val (.ref b42), .val (.ref b47), .unset] [(.long q2), (.long q1), (.long q0), (.int (own_lk (own_t1 (own_sN 63 q0)) 2 (own_e [q0] q0) 8 (own_sN 63 q0)))])) _
      refine XS.iload X59.here hx rfl (hb hby at_102) rfl ?_
      show Steps p.tables e below (T59.setTop (mkF m 104 #[.val (.long q0), .second, .val (.long q1), .second, .val (.long q2), .second, .val (.long q3), .second, .val (.int p4), .val (.int (1 : Int32)), .val (.ref b42), .val (.ref b47), .unset] [(.int (1 : Int32)), (.long q2), (.long q1), (.long q0), (.int (own_lk (own_t1 (own_sN 63 q0)) 2 (own_e [q0] q0) 8 (own_sN 63 q0)))])) _
      refine XS.lloadN X59.here hx rfl (hb hby at_104) rfl ?_
      exact kt
    obtain ⟨_, _, ⟨T61, L61, k61, n61⟩, -, X61, ⟨Lc61, hQ61, l61, y61, z61⟩, st61⟩ := Jvm.LawKit.callS X59 hx (y := (⟨"com/example/mapstone/mapstone/engine/ConceptIndexPlacePinLaw", "ref", "(JJJIJ)I"⟩ : MethodName)) hown (mvT hZ (hw _ (List.mem_of_getElem? (i := 41) rfl))) (mvT hZ (hw _ (List.mem_of_getElem? (i := 42) rfl))) (mvT hZ (hw _ (List.mem_of_getElem? (i := 43) rfl))) (mvT hZ (hw _ (List.mem_of_getElem? (i := 44) rfl))) (by decide) (backOf (W := 1) (rm8 l Z a0 hw [] q0 q1 q2 (1 : Int32) q0  T54.heap n0 f56 ) hZ (hw _ (List.mem_of_getElem? (i := 44) rfl)) (hw _ (List.mem_of_getElem? (i := 43) rfl)) (by decide) (by decide)) (g := (mkF m 105 #[.val (.long q0), .second, .val (.long q1), .second, .val (.long q2), .second, .val (.long q3), .second, .val (.int p4), .val (.int (1 : Int32)), .val (.ref b42), .val (.ref b47), .unset] [(.long q0), (.int (1 : Int32)), (.long q2), (.long q1), (.long q0), (.int (own_lk (own_t1 (own_sN 63 q0)) 2 (own_e [q0] q0) 8 (own_sN 63 q0)))])) rfl (by rw [hml]; rfl) (argsL := [(.long q0), (.long q1), (.long q2), (.int (1 : Int32)), (.long q0)]) (rest := [(.int (own_lk (own_t1 (own_sN 63 q0)) 2 (own_e [q0] q0) 8 (own_sN 63 q0)))]) (lenOf pd_4 rfl) rfl (by show 2 * 0 + _ ≤ _; exact Nat.le_of_eq rfl) (hb hby at_105) (fun _ _ => ⟨rfl, e59, (by decide : 3 + 0 ≤ _), (by decide : 6 + 0 ≤ _)⟩)
    dsimp only [Pt.U, Pt.locs, Pt.cells, Pt.slots] at X61 l61 y61 z61 st61 hQ61
    subst l61 y61 z61
    obtain ⟨rfl, N61q, e61⟩ := hQ61
    have N61 := Fr.app N59 N61q
    have hd62 : (own_lk (own_t1 (own_sN 63 q0)) 2 (own_e [q0] q0) 8 (own_sN 63 q0)) = (own_rf (1 : Int32) q0 q1 q2 q0) := own_k1 q0 q1 q2 _
    have c63 : ∀ t, Steps p.tables e below (T61.setTop (mkF m 126 #[.val (.long q0), .second, .val (.long q1), .second, .val (.long q2), .second, .val (.long q3), .second, .val (.int p4), .val (.int (1 : Int32)), .val (.ref b42), .val (.ref b47), .val (.int (1 : Int32))] [(.long q1), (.ref b47)])) t → Steps p.tables e below (T61.setTop (mkF m 108 #[.val (.long q0), .second, .val (.long q1), .second, .val (.long q2), .second, .val (.long q3), .second, .val (.int p4), .val (.int (1 : Int32)), .val (.ref b42), .val (.ref b47), .unset] [(.int (own_rf (1 : Int32) q0 q1 q2 q0)), (.int (own_lk (own_t1 (own_sN 63 q0)) 2 (own_e [q0] q0) 8 (own_sN 63 q0)))])) t := by
      intro t kt
      show Steps p.tables e below (T61.setTop (mkF m 108 #[.val (.long q0), .second, .val (.long q1), .second, .val (.long q2), .second, .val (.long q3), .second, .val (.int p4), .val (.int (1 : Int32)), .val (.ref b42), .val (.ref b47), .unset] [(.int (own_rf (1 : Int32) q0 q1 q2 q0)), (.int (own_lk (own_t1 (own_sN 63 q0)) 2 (own_e [q0] q0) 8 (own_sN 63 q0)))])) _
      refine XS.icmpNo X61.here hx rfl (hb hby at_108) rfl (teq (hd62)).2 ?_
      show Steps p.tables e below (T61.setTop (mkF m 111 #[.val (.long q0), .second, .val (.long q1), .second, .val (.long q2), .second, .val (.long q3), .second, .val (.int p4), .val (.int (1 : Int32)), .val (.ref b42), .val (.ref b47), .unset] [])) _
      refine XS.iconst X61.here hx rfl (hb hby at_111) ?_
      show Steps p.tables e below (T61.setTop (mkF m 112 #[.val (.long q0), .second, .val (.long q1), .second, .val (.long q2), .second, .val (.long q3), .second, .val (.int p4), .val (.int (1 : Int32)), .val (.ref b42), .val (.ref b47), .unset] [(.int (1 : Int32))])) _
      refine XS.goto X61.here hx rfl (pc0 := 112) (pc' := 116) rfl (hb hby at_112) (by decide) (by decide) ?_
      show Steps p.tables e below (T61.setTop (mkF m 116 #[.val (.long q0), .second, .val (.long q1), .second, .val (.long q2), .second, .val (.long q3), .second, .val (.int p4), .val (.int (1 : Int32)), .val (.ref b42), .val (.ref b47), .unset] [(.int (1 : Int32))])) _
      refine XS.istore X61.here hx rfl (hb hby at_116) rfl (l' := #[.val (.long q0), .second, .val (.long q1), .second, .val (.long q2), .second, .val (.long q3), .second, .val (.int p4), .val (.int (1 : Int32)), .val (.ref b42), .val (.ref b47), .val (.int (1 : Int32))]) rfl ?_
      show Steps p.tables e below (T61.setTop (mkF m 118 #[.val (.long q0), .second, .val (.long q1), .second, .val (.long q2), .second, .val (.long q3), .second, .val (.int p4), .val (.int (1 : Int32)), .val (.ref b42), .val (.ref b47), .val (.int (1 : Int32))] [])) _
      refine XS.iload X61.here hx rfl (hb hby at_118) rfl ?_
      show Steps p.tables e below (T61.setTop (mkF m 120 #[.val (.long q0), .second, .val (.long q1), .second, .val (.long q2), .second, .val (.long q3), .second, .val (.int p4), .val (.int (1 : Int32)), .val (.ref b42), .val (.ref b47), .val (.int (1 : Int32))] [(.int (1 : Int32))])) _
      refine XS.ifNo X61.here hx rfl (hb hby at_120) rfl ((if0 _ _).trans (feq (by decide : ¬ ((1 : Int32) = (0 : Int32)))).1) ?_
      show Steps p.tables e below (T61.setTop (mkF m 123 #[.val (.long q0), .second, .val (.long q1), .second, .val (.long q2), .second, .val (.long q3), .second, .val (.int p4), .val (.int (1 : Int32)), .val (.ref b42), .val (.ref b47), .val (.int (1 : Int32))] [])) _
      refine XS.aload X61.here hx rfl (hb hby at_123) rfl rfl ?_
      show Steps p.tables e below (T61.setTop (mkF m 125 #[.val (.long q0), .second, .val (.long q1), .second, .val (.long q2), .second, .val (.long q3), .second, .val (.int p4), .val (.int (1 : Int32)), .val (.ref b42), .val (.ref b47), .val (.int (1 : Int32))] [(.ref b47)])) _
      refine XS.lloadN X61.here hx rfl (hb hby at_125) rfl ?_
      exact kt
    obtain ⟨cq64, kq64, q64a, q64b, q64c⟩ := isOf hZ e61 Eq54
    obtain ⟨_, _, ⟨T65, L65, k65, n65⟩, -, X65, ⟨Lc65, hQ65, l65, y65, z65⟩, st65⟩ := X61.virtualBack hx (y := (⟨"com/example/mapstone/mapstone/engine/ConceptIndex", "place", "(J)I"⟩ : MethodName)) (z := (⟨"com/example/mapstone/mapstone/engine/ConceptIndex", "place", "(J)I"⟩ : MethodName)) hown (mvT hZ (hw _ (List.mem_of_getElem? (i := 36) rfl))) (mvT hZ (hw _ (List.mem_of_getElem? (i := 37) rfl))) (notFace_of_selects (args := #[]) (mvT hZ (hw _ (List.mem_of_getElem? (i := 39) rfl)))) (mvT hZ (hw _ (List.mem_of_getElem? (i := 39) rfl))) (mvT hZ (hw _ (List.mem_of_getElem? (i := 38) rfl))) (by decide) (backOf (W := 0) (rm7 l Z a0 hw [] b47 q1 (63 : Int32) os54 ks54 2 (own_t1 (own_sN 63 q0)) b42 k42 [q0] (.long (0 : Int64)) T54.heap n0 f56 Fh54 Eq54 Fs54 Vs54 Fc54 f57 (by decide) hok.1 hok.2.1 (Nat.le_of_ble_eq_true rfl) (own_slotv 63 q1 0 2 (by decide)) (hok.2.2 _ (own_slotv 63 q1 0 2 (by decide)).2).1) hZ (hw _ (List.mem_of_getElem? (i := 40) rfl)) (hw _ (List.mem_of_getElem? (i := 3) rfl)) (by decide) (by decide)) q64a q64c (g := (mkF m 126 #[.val (.long q0), .second, .val (.long q1), .second, .val (.long q2), .second, .val (.long q3), .second, .val (.int p4), .val (.int (1 : Int32)), .val (.ref b42), .val (.ref b47), .val (.int (1 : Int32))] [(.long q1), (.ref b47)])) rfl (by rw [hml]; rfl) (Steps.refl _) (argsL := [(.long q1)]) (rest := []) (lenOf pd_2 rfl) rfl (by show 2 * 0 + _ ≤ _; exact Nat.le_of_eq rfl) (hb hby at_126) (fun _ _ => ⟨rfl, e61, (by decide : 3 + 0 ≤ _), (by decide : 6 + 0 ≤ _)⟩)
    dsimp only [Pt.U, Pt.locs, Pt.cells, Pt.slots] at X65 l65 y65 z65 st65 hQ65
    subst l65 y65 z65
    obtain ⟨rfl, N65q, e65⟩ := hQ65
    have N65 := Fr.app N61 N65q
    have c66 : ∀ t, Steps p.tables e below (T65.setTop (mkF m 136 #[.val (.long q0), .second, .val (.long q1), .second, .val (.long q2), .second, .val (.long q3), .second, .val (.int p4), .val (.int (1 : Int32)), .val (.ref b42), .val (.ref b47), .val (.int (1 : Int32))] [(.long q1), (.int (1 : Int32)), (.long q2), (.long q1), (.long q0), (.int (own_lk (own_t1 (own_sN 63 q0)) 2 (own_e [q0] q1) 8 (own_sN 63 q1)))])) t → Steps p.tables e below (T65.setTop (mkF m 129 #[.val (.long q0), .second, .val (.long q1), .second, .val (.long q2), .second, .val (.long q3), .second, .val (.int p4), .val (.int (1 : Int32)), .val (.ref b42), .val (.ref b47), .val (.int (1 : Int32))] [(.int (own_lk (own_t1 (own_sN 63 q0)) 2 (own_e [q0] q1) 8 (own_sN 63 q1)))])) t := by
      intro t kt
      show Steps p.tables e below (T65.setTop (mkF m 129 #[.val (.long q0), .second, .val (.long q1), .second, .val (.long q2), .second, .val (.long q3), .second, .val (.int p4), .val (.int (1 : Int32)), .val (.ref b42), .val (.ref b47), .val (.int (1 : Int32))] [(.int (own_lk (own_t1 (own_sN 63 q0)) 2 (own_e [q0] q1) 8 (own_sN 63 q1)))])) _
      refine XS.lloadN X65.here hx rfl (hb hby at_129) rfl ?_
      show Steps p.tables e below (T65.setTop (mkF m 130 #[.val (.long q0), .second, .val (.long q1), .second, .val (.long q2), .second, .val (.long q3), .second, .val (.int p4), .val (.int (1 : Int32)), .val (.ref b42), .val (.ref b47), .val (.int (1 : Int32))] [(.long q0), (.int (own_lk (own_t1 (own_sN 63 q0)) 2 (own_e [q0] q1) 8 (own_sN 63 q1)))])) _
      refine XS.lloadN X65.here hx rfl (hb hby at_130) rfl ?_
      show Steps p.tables e below (T65.setTop (mkF m 131 #[.val (.long q0), .second, .val (.long q1), .second, .val (.long q2), .second, .val (.long q3), .second, .val (.int p4), .val (.int (1 : Int32)), .val (.ref b42), .val (.ref b47), .val (.int (1 : Int32))] [(.long q1), (.long q0), (.int (own_lk (own_t1 (own_sN 63 q0)) 2 (own_e [q0] q1) 8 (own_sN 63 q1)))])) _
      refine XS.lload X65.here hx rfl (hb hby at_131) rfl ?_
      show Steps p.tables e below (T65.setTop (mkF m 133 #[.val (.long q0), .second, .val (.long q1), .second, .val (.long q2), .second, .val (.long q3), .second, .val (.int p4), .val (.int (1 : Int32)), .val (.ref b42), .val (.ref b47), .val (.int (1 : Int32))] [(.long q2), (.long q1), (.long q0), (.int (own_lk (own_t1 (own_sN 63 q0)) 2 (own_e [q0] q1) 8 (own_sN 63 q1)))])) _
      refine XS.iload X65.here hx rfl (hb hby at_133) rfl ?_
      show Steps p.tables e below (T65.setTop (mkF m 135 #[.val (.long q0), .second, .val (.long q1), .second, .val (.long q2), .second, .val (.long q3), .second, .val (.int p4), .val (.int (1 : Int32)), .val (.ref b42), .val (.ref b47), .val (.int (1 : Int32))] [(.int (1 : Int32)), (.long q2), (.long q1), (.long q0), (.int (own_lk (own_t1 (own_sN 63 q0)) 2 (own_e [q0] q1) 8 (own_sN 63 q1)))])) _
      refine XS.lloadN X65.here hx rfl (hb hby at_135) rfl ?_
      exact kt
    obtain ⟨_, _, ⟨T67, L67, k67, n67⟩, -, X67, ⟨Lc67, hQ67, l67, y67, z67⟩, st67⟩ := Jvm.LawKit.callS X65 hx (y := (⟨"com/example/mapstone/mapstone/engine/ConceptIndexPlacePinLaw", "ref", "(JJJIJ)I"⟩ : MethodName)) hown (mvT hZ (hw _ (List.mem_of_getElem? (i := 41) rfl))) (mvT hZ (hw _ (List.mem_of_getElem? (i := 42) rfl))) (mvT hZ (hw _ (List.mem_of_getElem? (i := 43) rfl))) (mvT hZ (hw _ (List.mem_of_getElem? (i := 44) rfl))) (by decide) (backOf (W := 1) (rm8 l Z a0 hw [] q0 q1 q2 (1 : Int32) q1  T54.heap n0 f56 ) hZ (hw _ (List.mem_of_getElem? (i := 44) rfl)) (hw _ (List.mem_of_getElem? (i := 43) rfl)) (by decide) (by decide)) (g := (mkF m 136 #[.val (.long q0), .second, .val (.long q1), .second, .val (.long q2), .second, .val (.long q3), .second, .val (.int p4), .val (.int (1 : Int32)), .val (.ref b42), .val (.ref b47), .val (.int (1 : Int32))] [(.long q1), (.int (1 : Int32)), (.long q2), (.long q1), (.long q0), (.int (own_lk (own_t1 (own_sN 63 q0)) 2 (own_e [q0] q1) 8 (own_sN 63 q1)))])) rfl (by rw [hml]; rfl) (argsL := [(.long q0), (.long q1), (.long q2), (.int (1 : Int32)), (.long q1)]) (rest := [(.int (own_lk (own_t1 (own_sN 63 q0)) 2 (own_e [q0] q1) 8 (own_sN 63 q1)))]) (lenOf pd_4 rfl) rfl (by show 2 * 0 + _ ≤ _; exact Nat.le_of_eq rfl) (hb hby at_136) (fun _ _ => ⟨rfl, e65, (by decide : 3 + 0 ≤ _), (by decide : 6 + 0 ≤ _)⟩)
    dsimp only [Pt.U, Pt.locs, Pt.cells, Pt.slots] at X67 l67 y67 z67 st67 hQ67
    subst l67 y67 z67
    obtain ⟨rfl, N67q, e67⟩ := hQ67
    have N67 := Fr.app N65 N67q
    have hd68 : (own_lk (own_t1 (own_sN 63 q0)) 2 (own_e [q0] q1) 8 (own_sN 63 q1)) = (own_rf (1 : Int32) q0 q1 q2 q1) := own_k1 q0 q1 q2 _
    have c69 : ∀ t, Steps p.tables e below (T67.setTop (mkF m 158 #[.val (.long q0), .second, .val (.long q1), .second, .val (.long q2), .second, .val (.long q3), .second, .val (.int p4), .val (.int (1 : Int32)), .val (.ref b42), .val (.ref b47), .val (.int (1 : Int32))] [(.long q2), (.ref b47)])) t → Steps p.tables e below (T67.setTop (mkF m 139 #[.val (.long q0), .second, .val (.long q1), .second, .val (.long q2), .second, .val (.long q3), .second, .val (.int p4), .val (.int (1 : Int32)), .val (.ref b42), .val (.ref b47), .val (.int (1 : Int32))] [(.int (own_rf (1 : Int32) q0 q1 q2 q1)), (.int (own_lk (own_t1 (own_sN 63 q0)) 2 (own_e [q0] q1) 8 (own_sN 63 q1)))])) t := by
      intro t kt
      show Steps p.tables e below (T67.setTop (mkF m 139 #[.val (.long q0), .second, .val (.long q1), .second, .val (.long q2), .second, .val (.long q3), .second, .val (.int p4), .val (.int (1 : Int32)), .val (.ref b42), .val (.ref b47), .val (.int (1 : Int32))] [(.int (own_rf (1 : Int32) q0 q1 q2 q1)), (.int (own_lk (own_t1 (own_sN 63 q0)) 2 (own_e [q0] q1) 8 (own_sN 63 q1)))])) _
      refine XS.icmpNo X67.here hx rfl (hb hby at_139) rfl (teq (hd68)).2 ?_
      show Steps p.tables e below (T67.setTop (mkF m 142 #[.val (.long q0), .second, .val (.long q1), .second, .val (.long q2), .second, .val (.long q3), .second, .val (.int p4), .val (.int (1 : Int32)), .val (.ref b42), .val (.ref b47), .val (.int (1 : Int32))] [])) _
      refine XS.iconst X67.here hx rfl (hb hby at_142) ?_
      show Steps p.tables e below (T67.setTop (mkF m 143 #[.val (.long q0), .second, .val (.long q1), .second, .val (.long q2), .second, .val (.long q3), .second, .val (.int p4), .val (.int (1 : Int32)), .val (.ref b42), .val (.ref b47), .val (.int (1 : Int32))] [(.int (1 : Int32))])) _
      refine XS.goto X67.here hx rfl (pc0 := 143) (pc' := 147) rfl (hb hby at_143) (by decide) (by decide) ?_
      show Steps p.tables e below (T67.setTop (mkF m 147 #[.val (.long q0), .second, .val (.long q1), .second, .val (.long q2), .second, .val (.long q3), .second, .val (.int p4), .val (.int (1 : Int32)), .val (.ref b42), .val (.ref b47), .val (.int (1 : Int32))] [(.int (1 : Int32))])) _
      refine XS.istore X67.here hx rfl (hb hby at_147) rfl (l' := #[.val (.long q0), .second, .val (.long q1), .second, .val (.long q2), .second, .val (.long q3), .second, .val (.int p4), .val (.int (1 : Int32)), .val (.ref b42), .val (.ref b47), .val (.int (1 : Int32))]) rfl ?_
      show Steps p.tables e below (T67.setTop (mkF m 149 #[.val (.long q0), .second, .val (.long q1), .second, .val (.long q2), .second, .val (.long q3), .second, .val (.int p4), .val (.int (1 : Int32)), .val (.ref b42), .val (.ref b47), .val (.int (1 : Int32))] [])) _
      refine XS.iload X67.here hx rfl (hb hby at_149) rfl ?_
      show Steps p.tables e below (T67.setTop (mkF m 151 #[.val (.long q0), .second, .val (.long q1), .second, .val (.long q2), .second, .val (.long q3), .second, .val (.int p4), .val (.int (1 : Int32)), .val (.ref b42), .val (.ref b47), .val (.int (1 : Int32))] [(.int (1 : Int32))])) _
      refine XS.ifNo X67.here hx rfl (hb hby at_151) rfl ((if0 _ _).trans (feq (by decide : ¬ ((1 : Int32) = (0 : Int32)))).1) ?_
      show Steps p.tables e below (T67.setTop (mkF m 154 #[.val (.long q0), .second, .val (.long q1), .second, .val (.long q2), .second, .val (.long q3), .second, .val (.int p4), .val (.int (1 : Int32)), .val (.ref b42), .val (.ref b47), .val (.int (1 : Int32))] [])) _
      refine XS.aload X67.here hx rfl (hb hby at_154) rfl rfl ?_
      show Steps p.tables e below (T67.setTop (mkF m 156 #[.val (.long q0), .second, .val (.long q1), .second, .val (.long q2), .second, .val (.long q3), .second, .val (.int p4), .val (.int (1 : Int32)), .val (.ref b42), .val (.ref b47), .val (.int (1 : Int32))] [(.ref b47)])) _
      refine XS.lload X67.here hx rfl (hb hby at_156) rfl ?_
      exact kt
    obtain ⟨cq70, kq70, q70a, q70b, q70c⟩ := isOf hZ e67 Eq54
    obtain ⟨_, _, ⟨T71, L71, k71, n71⟩, -, X71, ⟨Lc71, hQ71, l71, y71, z71⟩, st71⟩ := X67.virtualBack hx (y := (⟨"com/example/mapstone/mapstone/engine/ConceptIndex", "place", "(J)I"⟩ : MethodName)) (z := (⟨"com/example/mapstone/mapstone/engine/ConceptIndex", "place", "(J)I"⟩ : MethodName)) hown (mvT hZ (hw _ (List.mem_of_getElem? (i := 36) rfl))) (mvT hZ (hw _ (List.mem_of_getElem? (i := 37) rfl))) (notFace_of_selects (args := #[]) (mvT hZ (hw _ (List.mem_of_getElem? (i := 39) rfl)))) (mvT hZ (hw _ (List.mem_of_getElem? (i := 39) rfl))) (mvT hZ (hw _ (List.mem_of_getElem? (i := 38) rfl))) (by decide) (backOf (W := 0) (rm7 l Z a0 hw [] b47 q2 (63 : Int32) os54 ks54 2 (own_t1 (own_sN 63 q0)) b42 k42 [q0] (.long (0 : Int64)) T54.heap n0 f56 Fh54 Eq54 Fs54 Vs54 Fc54 f57 (by decide) hok.1 hok.2.1 (Nat.le_of_ble_eq_true rfl) (own_slotv 63 q2 0 2 (by decide)) (hok.2.2 _ (own_slotv 63 q2 0 2 (by decide)).2).1) hZ (hw _ (List.mem_of_getElem? (i := 40) rfl)) (hw _ (List.mem_of_getElem? (i := 3) rfl)) (by decide) (by decide)) q70a q70c (g := (mkF m 158 #[.val (.long q0), .second, .val (.long q1), .second, .val (.long q2), .second, .val (.long q3), .second, .val (.int p4), .val (.int (1 : Int32)), .val (.ref b42), .val (.ref b47), .val (.int (1 : Int32))] [(.long q2), (.ref b47)])) rfl (by rw [hml]; rfl) (Steps.refl _) (argsL := [(.long q2)]) (rest := []) (lenOf pd_2 rfl) rfl (by show 2 * 0 + _ ≤ _; exact Nat.le_of_eq rfl) (hb hby at_158) (fun _ _ => ⟨rfl, e67, (by decide : 3 + 0 ≤ _), (by decide : 6 + 0 ≤ _)⟩)
    dsimp only [Pt.U, Pt.locs, Pt.cells, Pt.slots] at X71 l71 y71 z71 st71 hQ71
    subst l71 y71 z71
    obtain ⟨rfl, N71q, e71⟩ := hQ71
    have N71 := Fr.app N67 N71q
    have c72 : ∀ t, Steps p.tables e below (T71.setTop (mkF m 169 #[.val (.long q0), .second, .val (.long q1), .second, .val (.long q2), .second, .val (.long q3), .second, .val (.int p4), .val (.int (1 : Int32)), .val (.ref b42), .val (.ref b47), .val (.int (1 : Int32))] [(.long q2), (.int (1 : Int32)), (.long q2), (.long q1), (.long q0), (.int (own_lk (own_t1 (own_sN 63 q0)) 2 (own_e [q0] q2) 8 (own_sN 63 q2)))])) t → Steps p.tables e below (T71.setTop (mkF m 161 #[.val (.long q0), .second, .val (.long q1), .second, .val (.long q2), .second, .val (.long q3), .second, .val (.int p4), .val (.int (1 : Int32)), .val (.ref b42), .val (.ref b47), .val (.int (1 : Int32))] [(.int (own_lk (own_t1 (own_sN 63 q0)) 2 (own_e [q0] q2) 8 (own_sN 63 q2)))])) t := by
      intro t kt
      show Steps p.tables e below (T71.setTop (mkF m 161 #[.val (.long q0), .second, .val (.long q1), .second, .val (.long q2), .second, .val (.long q3), .second, .val (.int p4), .val (.int (1 : Int32)), .val (.ref b42), .val (.ref b47), .val (.int (1 : Int32))] [(.int (own_lk (own_t1 (own_sN 63 q0)) 2 (own_e [q0] q2) 8 (own_sN 63 q2)))])) _
      refine XS.lloadN X71.here hx rfl (hb hby at_161) rfl ?_
      show Steps p.tables e below (T71.setTop (mkF m 162 #[.val (.long q0), .second, .val (.long q1), .second, .val (.long q2), .second, .val (.long q3), .second, .val (.int p4), .val (.int (1 : Int32)), .val (.ref b42), .val (.ref b47), .val (.int (1 : Int32))] [(.long q0), (.int (own_lk (own_t1 (own_sN 63 q0)) 2 (own_e [q0] q2) 8 (own_sN 63 q2)))])) _
      refine XS.lloadN X71.here hx rfl (hb hby at_162) rfl ?_
      show Steps p.tables e below (T71.setTop (mkF m 163 #[.val (.long q0), .second, .val (.long q1), .second, .val (.long q2), .second, .val (.long q3), .second, .val (.int p4), .val (.int (1 : Int32)), .val (.ref b42), .val (.ref b47), .val (.int (1 : Int32))] [(.long q1), (.long q0), (.int (own_lk (own_t1 (own_sN 63 q0)) 2 (own_e [q0] q2) 8 (own_sN 63 q2)))])) _
      refine XS.lload X71.here hx rfl (hb hby at_163) rfl ?_
      show Steps p.tables e below (T71.setTop (mkF m 165 #[.val (.long q0), .second, .val (.long q1), .second, .val (.long q2), .second, .val (.long q3), .second, .val (.int p4), .val (.int (1 : Int32)), .val (.ref b42), .val (.ref b47), .val (.int (1 : Int32))] [(.long q2), (.long q1), (.long q0), (.int (own_lk (own_t1 (own_sN 63 q0)) 2 (own_e [q0] q2) 8 (own_sN 63 q2)))])) _
      refine XS.iload X71.here hx rfl (hb hby at_165) rfl ?_
      show Steps p.tables e below (T71.setTop (mkF m 167 #[.val (.long q0), .second, .val (.long q1), .second, .val (.long q2), .second, .val (.long q3), .second, .val (.int p4), .val (.int (1 : Int32)), .val (.ref b42), .val (.ref b47), .val (.int (1 : Int32))] [(.int (1 : Int32)), (.long q2), (.long q1), (.long q0), (.int (own_lk (own_t1 (own_sN 63 q0)) 2 (own_e [q0] q2) 8 (own_sN 63 q2)))])) _
      refine XS.lload X71.here hx rfl (hb hby at_167) rfl ?_
      exact kt
    obtain ⟨_, _, ⟨T73, L73, k73, n73⟩, -, X73, ⟨Lc73, hQ73, l73, y73, z73⟩, st73⟩ := Jvm.LawKit.callS X71 hx (y := (⟨"com/example/mapstone/mapstone/engine/ConceptIndexPlacePinLaw", "ref", "(JJJIJ)I"⟩ : MethodName)) hown (mvT hZ (hw _ (List.mem_of_getElem? (i := 41) rfl))) (mvT hZ (hw _ (List.mem_of_getElem? (i := 42) rfl))) (mvT hZ (hw _ (List.mem_of_getElem? (i := 43) rfl))) (mvT hZ (hw _ (List.mem_of_getElem? (i := 44) rfl))) (by decide) (backOf (W := 1) (rm8 l Z a0 hw [] q0 q1 q2 (1 : Int32) q2  T54.heap n0 f56 ) hZ (hw _ (List.mem_of_getElem? (i := 44) rfl)) (hw _ (List.mem_of_getElem? (i := 43) rfl)) (by decide) (by decide)) (g := (mkF m 169 #[.val (.long q0), .second, .val (.long q1), .second, .val (.long q2), .second, .val (.long q3), .second, .val (.int p4), .val (.int (1 : Int32)), .val (.ref b42), .val (.ref b47), .val (.int (1 : Int32))] [(.long q2), (.int (1 : Int32)), (.long q2), (.long q1), (.long q0), (.int (own_lk (own_t1 (own_sN 63 q0)) 2 (own_e [q0] q2) 8 (own_sN 63 q2)))])) rfl (by rw [hml]; rfl) (argsL := [(.long q0), (.long q1), (.long q2), (.int (1 : Int32)), (.long q2)]) (rest := [(.int (own_lk (own_t1 (own_sN 63 q0)) 2 (own_e [q0] q2) 8 (own_sN 63 q2)))]) (lenOf pd_4 rfl) rfl (by show 2 * 0 + _ ≤ _; exact Nat.le_of_eq rfl) (hb hby at_169) (fun _ _ => ⟨rfl, e71, (by decide : 3 + 0 ≤ _), (by decide : 6 + 0 ≤ _)⟩)
    dsimp only [Pt.U, Pt.locs, Pt.cells, Pt.slots] at X73 l73 y73 z73 st73 hQ73
    subst l73 y73 z73
    obtain ⟨rfl, N73q, e73⟩ := hQ73
    have N73 := Fr.app N71 N73q
    have hd74 : (own_lk (own_t1 (own_sN 63 q0)) 2 (own_e [q0] q2) 8 (own_sN 63 q2)) = (own_rf (1 : Int32) q0 q1 q2 q2) := own_k1 q0 q1 q2 _
    have c75 : ∀ t, Steps p.tables e below (T73.setTop (mkF m 191 #[.val (.long q0), .second, .val (.long q1), .second, .val (.long q2), .second, .val (.long q3), .second, .val (.int p4), .val (.int (1 : Int32)), .val (.ref b42), .val (.ref b47), .val (.int (1 : Int32))] [(.long q3), (.ref b47)])) t → Steps p.tables e below (T73.setTop (mkF m 172 #[.val (.long q0), .second, .val (.long q1), .second, .val (.long q2), .second, .val (.long q3), .second, .val (.int p4), .val (.int (1 : Int32)), .val (.ref b42), .val (.ref b47), .val (.int (1 : Int32))] [(.int (own_rf (1 : Int32) q0 q1 q2 q2)), (.int (own_lk (own_t1 (own_sN 63 q0)) 2 (own_e [q0] q2) 8 (own_sN 63 q2)))])) t := by
      intro t kt
      show Steps p.tables e below (T73.setTop (mkF m 172 #[.val (.long q0), .second, .val (.long q1), .second, .val (.long q2), .second, .val (.long q3), .second, .val (.int p4), .val (.int (1 : Int32)), .val (.ref b42), .val (.ref b47), .val (.int (1 : Int32))] [(.int (own_rf (1 : Int32) q0 q1 q2 q2)), (.int (own_lk (own_t1 (own_sN 63 q0)) 2 (own_e [q0] q2) 8 (own_sN 63 q2)))])) _
      refine XS.icmpNo X73.here hx rfl (hb hby at_172) rfl (teq (hd74)).2 ?_
      show Steps p.tables e below (T73.setTop (mkF m 175 #[.val (.long q0), .second, .val (.long q1), .second, .val (.long q2), .second, .val (.long q3), .second, .val (.int p4), .val (.int (1 : Int32)), .val (.ref b42), .val (.ref b47), .val (.int (1 : Int32))] [])) _
      refine XS.iconst X73.here hx rfl (hb hby at_175) ?_
      show Steps p.tables e below (T73.setTop (mkF m 176 #[.val (.long q0), .second, .val (.long q1), .second, .val (.long q2), .second, .val (.long q3), .second, .val (.int p4), .val (.int (1 : Int32)), .val (.ref b42), .val (.ref b47), .val (.int (1 : Int32))] [(.int (1 : Int32))])) _
      refine XS.goto X73.here hx rfl (pc0 := 176) (pc' := 180) rfl (hb hby at_176) (by decide) (by decide) ?_
      show Steps p.tables e below (T73.setTop (mkF m 180 #[.val (.long q0), .second, .val (.long q1), .second, .val (.long q2), .second, .val (.long q3), .second, .val (.int p4), .val (.int (1 : Int32)), .val (.ref b42), .val (.ref b47), .val (.int (1 : Int32))] [(.int (1 : Int32))])) _
      refine XS.istore X73.here hx rfl (hb hby at_180) rfl (l' := #[.val (.long q0), .second, .val (.long q1), .second, .val (.long q2), .second, .val (.long q3), .second, .val (.int p4), .val (.int (1 : Int32)), .val (.ref b42), .val (.ref b47), .val (.int (1 : Int32))]) rfl ?_
      show Steps p.tables e below (T73.setTop (mkF m 182 #[.val (.long q0), .second, .val (.long q1), .second, .val (.long q2), .second, .val (.long q3), .second, .val (.int p4), .val (.int (1 : Int32)), .val (.ref b42), .val (.ref b47), .val (.int (1 : Int32))] [])) _
      refine XS.iload X73.here hx rfl (hb hby at_182) rfl ?_
      show Steps p.tables e below (T73.setTop (mkF m 184 #[.val (.long q0), .second, .val (.long q1), .second, .val (.long q2), .second, .val (.long q3), .second, .val (.int p4), .val (.int (1 : Int32)), .val (.ref b42), .val (.ref b47), .val (.int (1 : Int32))] [(.int (1 : Int32))])) _
      refine XS.ifNo X73.here hx rfl (hb hby at_184) rfl ((if0 _ _).trans (feq (by decide : ¬ ((1 : Int32) = (0 : Int32)))).1) ?_
      show Steps p.tables e below (T73.setTop (mkF m 187 #[.val (.long q0), .second, .val (.long q1), .second, .val (.long q2), .second, .val (.long q3), .second, .val (.int p4), .val (.int (1 : Int32)), .val (.ref b42), .val (.ref b47), .val (.int (1 : Int32))] [])) _
      refine XS.aload X73.here hx rfl (hb hby at_187) rfl rfl ?_
      show Steps p.tables e below (T73.setTop (mkF m 189 #[.val (.long q0), .second, .val (.long q1), .second, .val (.long q2), .second, .val (.long q3), .second, .val (.int p4), .val (.int (1 : Int32)), .val (.ref b42), .val (.ref b47), .val (.int (1 : Int32))] [(.ref b47)])) _
      refine XS.lload X73.here hx rfl (hb hby at_189) rfl ?_
      exact kt
    obtain ⟨cq76, kq76, q76a, q76b, q76c⟩ := isOf hZ e73 Eq54
    obtain ⟨_, _, ⟨T77, L77, k77, n77⟩, -, X77, ⟨Lc77, hQ77, l77, y77, z77⟩, st77⟩ := X73.virtualBack hx (y := (⟨"com/example/mapstone/mapstone/engine/ConceptIndex", "place", "(J)I"⟩ : MethodName)) (z := (⟨"com/example/mapstone/mapstone/engine/ConceptIndex", "place", "(J)I"⟩ : MethodName)) hown (mvT hZ (hw _ (List.mem_of_getElem? (i := 36) rfl))) (mvT hZ (hw _ (List.mem_of_getElem? (i := 37) rfl))) (notFace_of_selects (args := #[]) (mvT hZ (hw _ (List.mem_of_getElem? (i := 39) rfl)))) (mvT hZ (hw _ (List.mem_of_getElem? (i := 39) rfl))) (mvT hZ (hw _ (List.mem_of_getElem? (i := 38) rfl))) (by decide) (backOf (W := 0) (rm7 l Z a0 hw [] b47 q3 (63 : Int32) os54 ks54 2 (own_t1 (own_sN 63 q0)) b42 k42 [q0] (.long (0 : Int64)) T54.heap n0 f56 Fh54 Eq54 Fs54 Vs54 Fc54 f57 (by decide) hok.1 hok.2.1 (Nat.le_of_ble_eq_true rfl) (own_slotv 63 q3 0 2 (by decide)) (hok.2.2 _ (own_slotv 63 q3 0 2 (by decide)).2).1) hZ (hw _ (List.mem_of_getElem? (i := 40) rfl)) (hw _ (List.mem_of_getElem? (i := 3) rfl)) (by decide) (by decide)) q76a q76c (g := (mkF m 191 #[.val (.long q0), .second, .val (.long q1), .second, .val (.long q2), .second, .val (.long q3), .second, .val (.int p4), .val (.int (1 : Int32)), .val (.ref b42), .val (.ref b47), .val (.int (1 : Int32))] [(.long q3), (.ref b47)])) rfl (by rw [hml]; rfl) (Steps.refl _) (argsL := [(.long q3)]) (rest := []) (lenOf pd_2 rfl) rfl (by show 2 * 0 + _ ≤ _; exact Nat.le_of_eq rfl) (hb hby at_191) (fun _ _ => ⟨rfl, e73, (by decide : 3 + 0 ≤ _), (by decide : 6 + 0 ≤ _)⟩)
    dsimp only [Pt.U, Pt.locs, Pt.cells, Pt.slots] at X77 l77 y77 z77 st77 hQ77
    subst l77 y77 z77
    obtain ⟨rfl, N77q, e77⟩ := hQ77
    have N77 := Fr.app N73 N77q
    have c78 : ∀ t, Steps p.tables e below (T77.setTop (mkF m 202 #[.val (.long q0), .second, .val (.long q1), .second, .val (.long q2), .second, .val (.long q3), .second, .val (.int p4), .val (.int (1 : Int32)), .val (.ref b42), .val (.ref b47), .val (.int (1 : Int32))] [(.long q3), (.int (1 : Int32)), (.long q2), (.long q1), (.long q0), (.int (own_lk (own_t1 (own_sN 63 q0)) 2 (own_e [q0] q3) 8 (own_sN 63 q3)))])) t → Steps p.tables e below (T77.setTop (mkF m 194 #[.val (.long q0), .second, .val (.long q1), .second, .val (.long q2), .second, .val (.long q3), .second, .val (.int p4), .val (.int (1 : Int32)), .val (.ref b42), .val (.ref b47), .val (.int (1 : Int32))] [(.int (own_lk (own_t1 (own_sN 63 q0)) 2 (own_e [q0] q3) 8 (own_sN 63 q3)))])) t := by
      intro t kt
      show Steps p.tables e below (T77.setTop (mkF m 194 #[.val (.long q0), .second, .val (.long q1), .second, .val (.long q2), .second, .val (.long q3), .second, .val (.int p4), .val (.int (1 : Int32)), .val (.ref b42), .val (.ref b47), .val (.int (1 : Int32))] [(.int (own_lk (own_t1 (own_sN 63 q0)) 2 (own_e [q0] q3) 8 (own_sN 63 q3)))])) _
      refine XS.lloadN X77.here hx rfl (hb hby at_194) rfl ?_
      show Steps p.tables e below (T77.setTop (mkF m 195 #[.val (.long q0), .second, .val (.long q1), .second, .val (.long q2), .second, .val (.long q3), .second, .val (.int p4), .val (.int (1 : Int32)), .val (.ref b42), .val (.ref b47), .val (.int (1 : Int32))] [(.long q0), (.int (own_lk (own_t1 (own_sN 63 q0)) 2 (own_e [q0] q3) 8 (own_sN 63 q3)))])) _
      refine XS.lloadN X77.here hx rfl (hb hby at_195) rfl ?_
      show Steps p.tables e below (T77.setTop (mkF m 196 #[.val (.long q0), .second, .val (.long q1), .second, .val (.long q2), .second, .val (.long q3), .second, .val (.int p4), .val (.int (1 : Int32)), .val (.ref b42), .val (.ref b47), .val (.int (1 : Int32))] [(.long q1), (.long q0), (.int (own_lk (own_t1 (own_sN 63 q0)) 2 (own_e [q0] q3) 8 (own_sN 63 q3)))])) _
      refine XS.lload X77.here hx rfl (hb hby at_196) rfl ?_
      show Steps p.tables e below (T77.setTop (mkF m 198 #[.val (.long q0), .second, .val (.long q1), .second, .val (.long q2), .second, .val (.long q3), .second, .val (.int p4), .val (.int (1 : Int32)), .val (.ref b42), .val (.ref b47), .val (.int (1 : Int32))] [(.long q2), (.long q1), (.long q0), (.int (own_lk (own_t1 (own_sN 63 q0)) 2 (own_e [q0] q3) 8 (own_sN 63 q3)))])) _
      refine XS.iload X77.here hx rfl (hb hby at_198) rfl ?_
      show Steps p.tables e below (T77.setTop (mkF m 200 #[.val (.long q0), .second, .val (.long q1), .second, .val (.long q2), .second, .val (.long q3), .second, .val (.int p4), .val (.int (1 : Int32)), .val (.ref b42), .val (.ref b47), .val (.int (1 : Int32))] [(.int (1 : Int32)), (.long q2), (.long q1), (.long q0), (.int (own_lk (own_t1 (own_sN 63 q0)) 2 (own_e [q0] q3) 8 (own_sN 63 q3)))])) _
      refine XS.lload X77.here hx rfl (hb hby at_200) rfl ?_
      exact kt
    obtain ⟨_, _, ⟨T79, L79, k79, n79⟩, -, X79, ⟨Lc79, hQ79, l79, y79, z79⟩, st79⟩ := Jvm.LawKit.callS X77 hx (y := (⟨"com/example/mapstone/mapstone/engine/ConceptIndexPlacePinLaw", "ref", "(JJJIJ)I"⟩ : MethodName)) hown (mvT hZ (hw _ (List.mem_of_getElem? (i := 41) rfl))) (mvT hZ (hw _ (List.mem_of_getElem? (i := 42) rfl))) (mvT hZ (hw _ (List.mem_of_getElem? (i := 43) rfl))) (mvT hZ (hw _ (List.mem_of_getElem? (i := 44) rfl))) (by decide) (backOf (W := 1) (rm8 l Z a0 hw [] q0 q1 q2 (1 : Int32) q3  T54.heap n0 f56 ) hZ (hw _ (List.mem_of_getElem? (i := 44) rfl)) (hw _ (List.mem_of_getElem? (i := 43) rfl)) (by decide) (by decide)) (g := (mkF m 202 #[.val (.long q0), .second, .val (.long q1), .second, .val (.long q2), .second, .val (.long q3), .second, .val (.int p4), .val (.int (1 : Int32)), .val (.ref b42), .val (.ref b47), .val (.int (1 : Int32))] [(.long q3), (.int (1 : Int32)), (.long q2), (.long q1), (.long q0), (.int (own_lk (own_t1 (own_sN 63 q0)) 2 (own_e [q0] q3) 8 (own_sN 63 q3)))])) rfl (by rw [hml]; rfl) (argsL := [(.long q0), (.long q1), (.long q2), (.int (1 : Int32)), (.long q3)]) (rest := [(.int (own_lk (own_t1 (own_sN 63 q0)) 2 (own_e [q0] q3) 8 (own_sN 63 q3)))]) (lenOf pd_4 rfl) rfl (by show 2 * 0 + _ ≤ _; exact Nat.le_of_eq rfl) (hb hby at_202) (fun _ _ => ⟨rfl, e77, (by decide : 3 + 0 ≤ _), (by decide : 6 + 0 ≤ _)⟩)
    dsimp only [Pt.U, Pt.locs, Pt.cells, Pt.slots] at X79 l79 y79 z79 st79 hQ79
    subst l79 y79 z79
    obtain ⟨rfl, N79q, e79⟩ := hQ79
    have N79 := Fr.app N77 N79q
    have hd80 : (own_lk (own_t1 (own_sN 63 q0)) 2 (own_e [q0] q3) 8 (own_sN 63 q3)) = (own_rf (1 : Int32) q0 q1 q2 q3) := own_k1 q0 q1 q2 _
    have c81 : ∀ t, Steps p.tables e below (T79.setTop (mkF m 217 #[.val (.long q0), .second, .val (.long q1), .second, .val (.long q2), .second, .val (.long q3), .second, .val (.int p4), .val (.int (1 : Int32)), .val (.ref b42), .val (.ref b47), .val (.int (1 : Int32))] [(.int (1 : Int32))])) t → Steps p.tables e below (T79.setTop (mkF m 205 #[.val (.long q0), .second, .val (.long q1), .second, .val (.long q2), .second, .val (.long q3), .second, .val (.int p4), .val (.int (1 : Int32)), .val (.ref b42), .val (.ref b47), .val (.int (1 : Int32))] [(.int (own_rf (1 : Int32) q0 q1 q2 q3)), (.int (own_lk (own_t1 (own_sN 63 q0)) 2 (own_e [q0] q3) 8 (own_sN 63 q3)))])) t := by
      intro t kt
      show Steps p.tables e below (T79.setTop (mkF m 205 #[.val (.long q0), .second, .val (.long q1), .second, .val (.long q2), .second, .val (.long q3), .second, .val (.int p4), .val (.int (1 : Int32)), .val (.ref b42), .val (.ref b47), .val (.int (1 : Int32))] [(.int (own_rf (1 : Int32) q0 q1 q2 q3)), (.int (own_lk (own_t1 (own_sN 63 q0)) 2 (own_e [q0] q3) 8 (own_sN 63 q3)))])) _
      refine XS.icmpNo X79.here hx rfl (hb hby at_205) rfl (teq (hd80)).2 ?_
      show Steps p.tables e below (T79.setTop (mkF m 208 #[.val (.long q0), .second, .val (.long q1), .second, .val (.long q2), .second, .val (.long q3), .second, .val (.int p4), .val (.int (1 : Int32)), .val (.ref b42), .val (.ref b47), .val (.int (1 : Int32))] [])) _
      refine XS.iconst X79.here hx rfl (hb hby at_208) ?_
      show Steps p.tables e below (T79.setTop (mkF m 209 #[.val (.long q0), .second, .val (.long q1), .second, .val (.long q2), .second, .val (.long q3), .second, .val (.int p4), .val (.int (1 : Int32)), .val (.ref b42), .val (.ref b47), .val (.int (1 : Int32))] [(.int (1 : Int32))])) _
      refine XS.goto X79.here hx rfl (pc0 := 209) (pc' := 213) rfl (hb hby at_209) (by decide) (by decide) ?_
      show Steps p.tables e below (T79.setTop (mkF m 213 #[.val (.long q0), .second, .val (.long q1), .second, .val (.long q2), .second, .val (.long q3), .second, .val (.int p4), .val (.int (1 : Int32)), .val (.ref b42), .val (.ref b47), .val (.int (1 : Int32))] [(.int (1 : Int32))])) _
      refine XS.istore X79.here hx rfl (hb hby at_213) rfl (l' := #[.val (.long q0), .second, .val (.long q1), .second, .val (.long q2), .second, .val (.long q3), .second, .val (.int p4), .val (.int (1 : Int32)), .val (.ref b42), .val (.ref b47), .val (.int (1 : Int32))]) rfl ?_
      show Steps p.tables e below (T79.setTop (mkF m 215 #[.val (.long q0), .second, .val (.long q1), .second, .val (.long q2), .second, .val (.long q3), .second, .val (.int p4), .val (.int (1 : Int32)), .val (.ref b42), .val (.ref b47), .val (.int (1 : Int32))] [])) _
      refine XS.iload X79.here hx rfl (hb hby at_215) rfl ?_
      exact kt
    obtain ⟨fs, hr, hrun, hended, hW, hsame⟩ := X79.leave (v := some (.int (1 : Int32))) (fun h => by rw [Bd.returns] at h; cases h)
    refine ⟨_, _, pre0 _ (c1 _ (c41 _ (c43 _ (st42 _ (c44 _ (st46 _ (c48 _ (st47 _ (c51 _ (st54.trans (c55 _ (st59.trans (c60 _ (st61 _ (c63 _ (st65.trans (c66 _ (st67 _ (c69 _ (st71.trans (c72 _ (st73 _ (c75 _ (st77.trans (c78 _ (st79 _ (c81 _ (?_)))))))))))))))))))))))))))), hrun, hended, _, _, rfl, ?_, ⟨_, rfl⟩, hW, hsame.mono (by decide) (by decide)⟩
    · show Steps p.tables e below (T79.setTop (mkF m 217 #[.val (.long q0), .second, .val (.long q1), .second, .val (.long q2), .second, .val (.long q3), .second, .val (.int p4), .val (.int (1 : Int32)), .val (.ref b42), .val (.ref b47), .val (.int (1 : Int32))] [(.int (1 : Int32))])) _
      exact retN X79 hx (t := .boolean) Bd.returns (by simp) (hb hby at_217) hr
    · show Q0 Z q0 q1 q2 q3 p4 h0 n0 _ T79.heap _
      rw [e79]
      exact ⟨congrArg (fun z => some (Value.int z)) (show (1 : Int32) = (1 : Int32) from by rfl), N79⟩
  · skip
    have c83 : ∀ t, Steps p.tables e below (s₁.setTop (mkF m 6 #[.val (.long q0), .second, .val (.long q1), .second, .val (.long q2), .second, .val (.long q3), .second, .val (.int p4), .val (.int (2 : Int32)), .unset, .unset, .unset] [])) t → Steps p.tables e below (s₁.setTop (mkF m 6 #[.val (.long q0), .second, .val (.long q1), .second, .val (.long q2), .second, .val (.long q3), .second, .val (.int p4), .val (.int (p4 &&& (3 : Int32))), .unset, .unset, .unset] [])) t := fun t kt => castTop (congrArg (fun z => (mkF m 6 #[.val (.long q0), .second, .val (.long q1), .second, .val (.long q2), .second, .val (.long q3), .second, .val (.int p4), .val (.int z), .unset, .unset, .unset] [])) (show (p4 &&& (3 : Int32)) = (2 : Int32) from hsz)) kt
    have c84 : ∀ t, Steps p.tables e below (s₁.setTop (mkF m 15 #[.val (.long q0), .second, .val (.long q1), .second, .val (.long q2), .second, .val (.long q3), .second, .val (.int p4), .val (.int (2 : Int32)), .unset, .unset, .unset] [(.int (lcmpW q0 q1))])) t → Steps p.tables e below (s₁.setTop (mkF m 6 #[.val (.long q0), .second, .val (.long q1), .second, .val (.long q2), .second, .val (.long q3), .second, .val (.int p4), .val (.int (2 : Int32)), .unset, .unset, .unset] [])) t := by
      intro t kt
      show Steps p.tables e below (s₁.setTop (mkF m 6 #[.val (.long q0), .second, .val (.long q1), .second, .val (.long q2), .second, .val (.long q3), .second, .val (.int p4), .val (.int (2 : Int32)), .unset, .unset, .unset] [])) _
      refine XS.iload X0.here hx rfl (hb hby at_6) rfl ?_
      show Steps p.tables e below (s₁.setTop (mkF m 8 #[.val (.long q0), .second, .val (.long q1), .second, .val (.long q2), .second, .val (.long q3), .second, .val (.int p4), .val (.int (2 : Int32)), .unset, .unset, .unset] [(.int (2 : Int32))])) _
      refine XS.iconst X0.here hx rfl (hb hby at_8) ?_
      show Steps p.tables e below (s₁.setTop (mkF m 9 #[.val (.long q0), .second, .val (.long q1), .second, .val (.long q2), .second, .val (.long q3), .second, .val (.int p4), .val (.int (2 : Int32)), .unset, .unset, .unset] [(.int (1 : Int32)), (.int (2 : Int32))])) _
      refine XS.icmpNo X0.here hx rfl (hb hby at_9) rfl (tlt (by decide : (1 : Int32) < (2 : Int32))).2.2.2 ?_
      show Steps p.tables e below (s₁.setTop (mkF m 12 #[.val (.long q0), .second, .val (.long q1), .second, .val (.long q2), .second, .val (.long q3), .second, .val (.int p4), .val (.int (2 : Int32)), .unset, .unset, .unset] [])) _
      refine XS.lloadN X0.here hx rfl (hb hby at_12) rfl ?_
      show Steps p.tables e below (s₁.setTop (mkF m 13 #[.val (.long q0), .second, .val (.long q1), .second, .val (.long q2), .second, .val (.long q3), .second, .val (.int p4), .val (.int (2 : Int32)), .unset, .unset, .unset] [(.long q0)])) _
      refine XS.lloadN X0.here hx rfl (hb hby at_13) rfl ?_
      show Steps p.tables e below (s₁.setTop (mkF m 14 #[.val (.long q0), .second, .val (.long q1), .second, .val (.long q2), .second, .val (.long q3), .second, .val (.int p4), .val (.int (2 : Int32)), .unset, .unset, .unset] [(.long q1), (.long q0)])) _
      refine XS.lcmp X0.here hx rfl (hb hby at_14) rfl ?_
      exact kt
    by_cases hc15 : q0 = q1
    · -- it is
      have c85 : ∀ t, Steps p.tables e below (s₁.setTop (mkF m 19 #[.val (.long q0), .second, .val (.long q1), .second, .val (.long q2), .second, .val (.long q3), .second, .val (.int p4), .val (.int (2 : Int32)), .unset, .unset, .unset] [(.int (1 : Int32))])) t → Steps p.tables e below (s₁.setTop (mkF m 15 #[.val (.long q0), .second, .val (.long q1), .second, .val (.long q2), .second, .val (.long q3), .second, .val (.int p4), .val (.int (2 : Int32)), .unset, .unset, .unset] [(.int (lcmpW q0 q1))])) t := by
        intro t kt
        show Steps p.tables e below (s₁.setTop (mkF m 15 #[.val (.long q0), .second, .val (.long q1), .second, .val (.long q2), .second, .val (.long q3), .second, .val (.int p4), .val (.int (2 : Int32)), .unset, .unset, .unset] [(.int (lcmpW q0 q1))])) _
        refine XS.ifNo X0.here hx rfl (hb hby at_15) rfl ((if0 _ _).trans (teq ((lw_eq _ _).mpr hc15)).2) ?_
        show Steps p.tables e below (s₁.setTop (mkF m 18 #[.val (.long q0), .second, .val (.long q1), .second, .val (.long q2), .second, .val (.long q3), .second, .val (.int p4), .val (.int (2 : Int32)), .unset, .unset, .unset] [])) _
        refine XS.iconst X0.here hx rfl (hb hby at_18) ?_
        exact kt
      obtain ⟨fs, hr, hrun, hended, hW, hsame⟩ := X0.leave (v := some (.int (1 : Int32))) (fun h => by rw [Bd.returns] at h; cases h)
      refine ⟨_, _, pre0 _ (c1 _ (c83 _ (c84 _ (c85 _ (?_))))), hrun, hended, _, _, rfl, ?_, ⟨_, rfl⟩, hW, hsame.mono (by decide) (by decide)⟩
      · show Steps p.tables e below (s₁.setTop (mkF m 19 #[.val (.long q0), .second, .val (.long q1), .second, .val (.long q2), .second, .val (.long q3), .second, .val (.int p4), .val (.int (2 : Int32)), .unset, .unset, .unset] [(.int (1 : Int32))])) _
        exact retN X0 hx (t := .boolean) Bd.returns (by simp) (hb hby at_19) hr
      · show Q0 Z q0 q1 q2 q3 p4 h0 n0 _ s₁.heap _
        rw [e0]
        exact ⟨congrArg (fun z => some (Value.int z)) (show (1 : Int32) = (1 : Int32) from by rfl), N0⟩
    · -- it isn't
      have c88 : ∀ t, Steps p.tables e below (s₁.setTop (mkF m 44 #[.val (.long q0), .second, .val (.long q1), .second, .val (.long q2), .second, .val (.long q3), .second, .val (.int p4), .val (.int (2 : Int32)), .unset, .unset, .unset] [(.int (2 : Int32))])) t → Steps p.tables e below (s₁.setTop (mkF m 15 #[.val (.long q0), .second, .val (.long q1), .second, .val (.long q2), .second, .val (.long q3), .second, .val (.int p4), .val (.int (2 : Int32)), .unset, .unset, .unset] [(.int (lcmpW q0 q1))])) t := by
        intro t kt
        show Steps p.tables e below (s₁.setTop (mkF m 15 #[.val (.long q0), .second, .val (.long q1), .second, .val (.long q2), .second, .val (.long q3), .second, .val (.int p4), .val (.int (2 : Int32)), .unset, .unset, .unset] [(.int (lcmpW q0 q1))])) _
        refine XS.ifYes X0.here hx rfl (pc0 := 15) (pc' := 20) rfl (hb hby at_15) rfl ((if0 _ _).trans (feq (fun q => hc15 ((lw_eq _ _).mp q))).2) (by decide) (by decide) ?_
        show Steps p.tables e below (s₁.setTop (mkF m 20 #[.val (.long q0), .second, .val (.long q1), .second, .val (.long q2), .second, .val (.long q3), .second, .val (.int p4), .val (.int (2 : Int32)), .unset, .unset, .unset] [])) _
        refine XS.iload X0.here hx rfl (hb hby at_20) rfl ?_
        show Steps p.tables e below (s₁.setTop (mkF m 22 #[.val (.long q0), .second, .val (.long q1), .second, .val (.long q2), .second, .val (.long q3), .second, .val (.int p4), .val (.int (2 : Int32)), .unset, .unset, .unset] [(.int (2 : Int32))])) _
        refine XS.iconst X0.here hx rfl (hb hby at_22) ?_
        show Steps p.tables e below (s₁.setTop (mkF m 23 #[.val (.long q0), .second, .val (.long q1), .second, .val (.long q2), .second, .val (.long q3), .second, .val (.int p4), .val (.int (2 : Int32)), .unset, .unset, .unset] [(.int (2 : Int32)), (.int (2 : Int32))])) _
        refine XS.icmpYes X0.here hx rfl (pc0 := 23) (pc' := 42) rfl (hb hby at_23) rfl (flt (by decide : ¬ ((2 : Int32) < (2 : Int32)))).2.2.2 (by decide) (by decide) ?_
        show Steps p.tables e below (s₁.setTop (mkF m 42 #[.val (.long q0), .second, .val (.long q1), .second, .val (.long q2), .second, .val (.long q3), .second, .val (.int p4), .val (.int (2 : Int32)), .unset, .unset, .unset] [])) _
        refine XS.iload X0.here hx rfl (hb hby at_42) rfl ?_
        exact kt
      obtain ⟨T87, h87, k87, X87, e87, E87, A87, st87⟩ := newP X0 hx hZ (hw _ (List.mem_of_getElem? (i := 0) rfl)) e0 (g := (mkF m 44 #[.val (.long q0), .second, .val (.long q1), .second, .val (.long q2), .second, .val (.long q3), .second, .val (.int p4), .val (.int (2 : Int32)), .unset, .unset, .unset] [(.int (2 : Int32))])) rfl (hb hby at_44) rfl (by decide) (cap := 2) (by decide) (by decide) (by decide) (by decide)
      obtain ⟨b87, g87⟩ : ∃ z, z = h0.size := ⟨_, rfl⟩
      rw [← g87] at A87 st87
      have g_b87 : n0 ≤ b87 := Nat.le_trans Z0 (Nat.le_of_eq g87.symm)
      have sz_b87 : h0.size ≤ b87 := Nat.le_trans (Keep.refl h0 []).1 (Nat.le_of_eq g87.symm)
      have V87 : Arv Z h87 b87 k87 .long (2 : Int32) [(.long (0 : Int64)), (.long (0 : Int64))] (.long (0 : Int64)) := (Arv.new A87 (by decide)).pad (pad_rep [] (.long (0 : Int64)) 2)
      have c89 : ∀ t, Steps p.tables e below (T87.setTop (mkF m 57 #[.val (.long q0), .second, .val (.long q1), .second, .val (.long q2), .second, .val (.long q3), .second, .val (.int p4), .val (.int (2 : Int32)), .val (.ref b87), .unset, .unset] [(.long q0), (.int (0 : Int32)), (.ref b87)])) t → Steps p.tables e below (T87.setTop (mkF m 46 #[.val (.long q0), .second, .val (.long q1), .second, .val (.long q2), .second, .val (.long q3), .second, .val (.int p4), .val (.int (2 : Int32)), .unset, .unset, .unset] [(.ref b87)])) t := by
        intro t kt
        show Steps p.tables e below (T87.setTop (mkF m 46 #[.val (.long q0), .second, .val (.long q1), .second, .val (.long q2), .second, .val (.long q3), .second, .val (.int p4), .val (.int (2 : Int32)), .unset, .unset, .unset] [(.ref b87)])) _
        refine XS.astore X87.here hx rfl (hb hby at_46) rfl rfl (l' := #[.val (.long q0), .second, .val (.long q1), .second, .val (.long q2), .second, .val (.long q3), .second, .val (.int p4), .val (.int (2 : Int32)), .val (.ref b87), .unset, .unset]) rfl ?_
        show Steps p.tables e below (T87.setTop (mkF m 48 #[.val (.long q0), .second, .val (.long q1), .second, .val (.long q2), .second, .val (.long q3), .second, .val (.int p4), .val (.int (2 : Int32)), .val (.ref b87), .unset, .unset] [])) _
        refine XS.iload X87.here hx rfl (hb hby at_48) rfl ?_
        show Steps p.tables e below (T87.setTop (mkF m 50 #[.val (.long q0), .second, .val (.long q1), .second, .val (.long q2), .second, .val (.long q3), .second, .val (.int p4), .val (.int (2 : Int32)), .val (.ref b87), .unset, .unset] [(.int (2 : Int32))])) _
        refine XS.ifNo X87.here hx rfl (hb hby at_50) rfl ((if0 _ _).trans (tlt (by decide : (0 : Int32) < (2 : Int32))).2.2.2) ?_
        show Steps p.tables e below (T87.setTop (mkF m 53 #[.val (.long q0), .second, .val (.long q1), .second, .val (.long q2), .second, .val (.long q3), .second, .val (.int p4), .val (.int (2 : Int32)), .val (.ref b87), .unset, .unset] [])) _
        refine XS.aload X87.here hx rfl (hb hby at_53) rfl rfl ?_
        show Steps p.tables e below (T87.setTop (mkF m 55 #[.val (.long q0), .second, .val (.long q1), .second, .val (.long q2), .second, .val (.long q3), .second, .val (.int p4), .val (.int (2 : Int32)), .val (.ref b87), .unset, .unset] [(.ref b87)])) _
        refine XS.iconst X87.here hx rfl (hb hby at_55) ?_
        show Steps p.tables e below (T87.setTop (mkF m 56 #[.val (.long q0), .second, .val (.long q1), .second, .val (.long q2), .second, .val (.long q3), .second, .val (.int p4), .val (.int (2 : Int32)), .val (.ref b87), .unset, .unset] [(.int (0 : Int32)), (.ref b87)])) _
        refine XS.lloadN X87.here hx rfl (hb hby at_56) rfl ?_
        exact kt
      have Vc90 := V87
      obtain ⟨cl90, Ar90, qk90, S90, M90, H90, G90⟩ := Vc90
      have hin90 : ¬ ((0 : Int32) < 0 ∨ cl90.slots.size ≤ ((0 : Int32)).toNatClampNeg) := inb_of S90 ⟨by decide, by decide⟩
      obtain ⟨T91, h91, X91, e91, W91, st91⟩ := stJ X87 hx hZ e87 Ar90 (j := (0 : Int32)) hin90 (g := (mkF m 57 #[.val (.long q0), .second, .val (.long q1), .second, .val (.long q2), .second, .val (.long q3), .second, .val (.int p4), .val (.int (2 : Int32)), .val (.ref b87), .unset, .unset] [(.long q0), (.int (0 : Int32)), (.ref b87)])) rfl rfl (hb hby at_57)
      have V91 : Arv Z h91 b87 k87 .long (2 : Int32) [(.long q0), (.long (0 : Int64))] (.long (0 : Int64)) := Arv.set Ar90 qk90 S90 M90 H90 G90 rfl W91 0 rfl (Nat.le_of_ble_eq_true rfl)
      have N91 := Fr.snoc X91 N0 g_b87
      have c92 : ∀ t, Steps p.tables e below (T91.setTop (mkF m 68 #[.val (.long q0), .second, .val (.long q1), .second, .val (.long q2), .second, .val (.long q3), .second, .val (.int p4), .val (.int (2 : Int32)), .val (.ref b87), .unset, .unset] [(.long q1), (.int (1 : Int32)), (.ref b87)])) t → Steps p.tables e below (T91.setTop (mkF m 58 #[.val (.long q0), .second, .val (.long q1), .second, .val (.long q2), .second, .val (.long q3), .second, .val (.int p4), .val (.int (2 : Int32)), .val (.ref b87), .unset, .unset] [])) t := by
        intro t kt
        show Steps p.tables e below (T91.setTop (mkF m 58 #[.val (.long q0), .second, .val (.long q1), .second, .val (.long q2), .second, .val (.long q3), .second, .val (.int p4), .val (.int (2 : Int32)), .val (.ref b87), .unset, .unset] [])) _
        refine XS.iload X91.here hx rfl (hb hby at_58) rfl ?_
        show Steps p.tables e below (T91.setTop (mkF m 60 #[.val (.long q0), .second, .val (.long q1), .second, .val (.long q2), .second, .val (.long q3), .second, .val (.int p4), .val (.int (2 : Int32)), .val (.ref b87), .unset, .unset] [(.int (2 : Int32))])) _
        refine XS.iconst X91.here hx rfl (hb hby at_60) ?_
        show Steps p.tables e below (T91.setTop (mkF m 61 #[.val (.long q0), .second, .val (.long q1), .second, .val (.long q2), .second, .val (.long q3), .second, .val (.int p4), .val (.int (2 : Int32)), .val (.ref b87), .unset, .unset] [(.int (1 : Int32)), (.int (2 : Int32))])) _
        refine XS.icmpNo X91.here hx rfl (hb hby at_61) rfl (tlt (by decide : (1 : Int32) < (2 : Int32))).2.2.2 ?_
        show Steps p.tables e below (T91.setTop (mkF m 64 #[.val (.long q0), .second, .val (.long q1), .second, .val (.long q2), .second, .val (.long q3), .second, .val (.int p4), .val (.int (2 : Int32)), .val (.ref b87), .unset, .unset] [])) _
        refine XS.aload X91.here hx rfl (hb hby at_64) rfl rfl ?_
        show Steps p.tables e below (T91.setTop (mkF m 66 #[.val (.long q0), .second, .val (.long q1), .second, .val (.long q2), .second, .val (.long q3), .second, .val (.int p4), .val (.int (2 : Int32)), .val (.ref b87), .unset, .unset] [(.ref b87)])) _
        refine XS.iconst X91.here hx rfl (hb hby at_66) ?_
        show Steps p.tables e below (T91.setTop (mkF m 67 #[.val (.long q0), .second, .val (.long q1), .second, .val (.long q2), .second, .val (.long q3), .second, .val (.int p4), .val (.int (2 : Int32)), .val (.ref b87), .unset, .unset] [(.int (1 : Int32)), (.ref b87)])) _
        refine XS.lloadN X91.here hx rfl (hb hby at_67) rfl ?_
        exact kt
      have Vc93 := V91
      obtain ⟨cl93, Ar93, qk93, S93, M93, H93, G93⟩ := Vc93
      have hin93 : ¬ ((1 : Int32) < 0 ∨ cl93.slots.size ≤ ((1 : Int32)).toNatClampNeg) := inb_of S93 ⟨by decide, by decide⟩
      obtain ⟨T94, h94, X94, e94, W94, st94⟩ := stJ X91 hx hZ e91 Ar93 (j := (1 : Int32)) hin93 (g := (mkF m 68 #[.val (.long q0), .second, .val (.long q1), .second, .val (.long q2), .second, .val (.long q3), .second, .val (.int p4), .val (.int (2 : Int32)), .val (.ref b87), .unset, .unset] [(.long q1), (.int (1 : Int32)), (.ref b87)])) rfl rfl (hb hby at_68)
      have V94 : Arv Z h94 b87 k87 .long (2 : Int32) [(.long q0), (.long q1)] (.long (0 : Int64)) := Arv.set Ar93 qk93 S93 M93 H93 G93 rfl W94 1 rfl (Nat.le_of_ble_eq_true rfl)
      have N94 := Fr.snoc X94 N91 g_b87
      have c96 : ∀ t, Steps p.tables e below (T94.setTop (mkF m 81 #[.val (.long q0), .second, .val (.long q1), .second, .val (.long q2), .second, .val (.long q3), .second, .val (.int p4), .val (.int (2 : Int32)), .val (.ref b87), .unset, .unset] [])) t → Steps p.tables e below (T94.setTop (mkF m 69 #[.val (.long q0), .second, .val (.long q1), .second, .val (.long q2), .second, .val (.long q3), .second, .val (.int p4), .val (.int (2 : Int32)), .val (.ref b87), .unset, .unset] [])) t := by
        intro t kt
        show Steps p.tables e below (T94.setTop (mkF m 69 #[.val (.long q0), .second, .val (.long q1), .second, .val (.long q2), .second, .val (.long q3), .second, .val (.int p4), .val (.int (2 : Int32)), .val (.ref b87), .unset, .unset] [])) _
        refine XS.iload X94.here hx rfl (hb hby at_69) rfl ?_
        show Steps p.tables e below (T94.setTop (mkF m 71 #[.val (.long q0), .second, .val (.long q1), .second, .val (.long q2), .second, .val (.long q3), .second, .val (.int p4), .val (.int (2 : Int32)), .val (.ref b87), .unset, .unset] [(.int (2 : Int32))])) _
        refine XS.iconst X94.here hx rfl (hb hby at_71) ?_
        show Steps p.tables e below (T94.setTop (mkF m 72 #[.val (.long q0), .second, .val (.long q1), .second, .val (.long q2), .second, .val (.long q3), .second, .val (.int p4), .val (.int (2 : Int32)), .val (.ref b87), .unset, .unset] [(.int (2 : Int32)), (.int (2 : Int32))])) _
        refine XS.icmpYes X94.here hx rfl (pc0 := 72) (pc' := 81) rfl (hb hby at_72) rfl (flt (by decide : ¬ ((2 : Int32) < (2 : Int32)))).2.2.2 (by decide) (by decide) ?_
        exact kt
      obtain ⟨T95, h95, X95, e95, E95, A95, D95, U95, st95⟩ := newO X94 hx hZ hown (hw _ (List.mem_of_getElem? (i := 1) rfl)) (hw _ (List.mem_of_getElem? (i := 2) rfl)) (hw _ (List.mem_of_getElem? (i := 3) rfl)) e94 (g := (mkF m 81 #[.val (.long q0), .second, .val (.long q1), .second, .val (.long q2), .second, .val (.long q3), .second, .val (.int p4), .val (.int (2 : Int32)), .val (.ref b87), .unset, .unset] [])) rfl (hb hby at_81) (by decide) (by decide)
      obtain ⟨b95, g95⟩ : ∃ z, z = h94.size := ⟨_, rfl⟩
      rw [← g95] at A95 D95 U95 st95
      have f97 := (Nat.le_trans (Nat.le_trans (Nat.le_trans Z0 E87.1) (Keep.of_wr W91).1) (Keep.of_wr W94).1)
      have f98 := ((((Keep.refl h0 []).ext E87).wr W91 (Or.inr sz_b87)).wr W94 (Or.inr sz_b87))
      have g_b95 : n0 ≤ b95 := Nat.le_trans f97 (Nat.le_of_eq g95.symm)
      have sz_b95 : h0.size ≤ b95 := Nat.le_trans f98.1 (Nat.le_of_eq g95.symm)
      have lt_b87_95 := V94.lt
      have F95_concepts : Fld Z h95 b95 "com/example/mapstone/mapstone/engine/ConceptIndex" "concepts" "[J" .null := D95 (Or.inr (hw _ (List.mem_of_getElem? (i := 11) rfl))) (ty := (.array .long)) (by decide)
      have F95_slots : Fld Z h95 b95 "com/example/mapstone/mapstone/engine/ConceptIndex" "slots" "[I" .null := D95 (Or.inr (hw _ (List.mem_of_getElem? (i := 28) rfl))) (ty := (.array .int)) (by decide)
      have F95_shift : Fld Z h95 b95 "com/example/mapstone/mapstone/engine/ConceptIndex" "shift" "I" (.int (0 : Int32)) := D95 (Or.inr (hw _ (List.mem_of_getElem? (i := 30) rfl))) (ty := .int) (by decide)
      have c99 : ∀ t, Steps p.tables e below (T95.setTop (mkF m 87 #[.val (.long q0), .second, .val (.long q1), .second, .val (.long q2), .second, .val (.long q3), .second, .val (.int p4), .val (.int (2 : Int32)), .val (.ref b87), .unset, .unset] [(.ref b87), (.ref b95), (.ref b95)])) t → Steps p.tables e below (T95.setTop (mkF m 84 #[.val (.long q0), .second, .val (.long q1), .second, .val (.long q2), .second, .val (.long q3), .second, .val (.int p4), .val (.int (2 : Int32)), .val (.ref b87), .unset, .unset] [(.ref b95)])) t := by
        intro t kt
        show Steps p.tables e below (T95.setTop (mkF m 84 #[.val (.long q0), .second, .val (.long q1), .second, .val (.long q2), .second, .val (.long q3), .second, .val (.int p4), .val (.int (2 : Int32)), .val (.ref b87), .unset, .unset] [(.ref b95)])) _
        refine XS.dup X95.here hx rfl (hb hby at_84) rfl rfl ?_
        show Steps p.tables e below (T95.setTop (mkF m 85 #[.val (.long q0), .second, .val (.long q1), .second, .val (.long q2), .second, .val (.long q3), .second, .val (.int p4), .val (.int (2 : Int32)), .val (.ref b87), .unset, .unset] [(.ref b95), (.ref b95)])) _
        refine XS.aload X95.here hx rfl (hb hby at_85) rfl rfl ?_
        exact kt
      have f100 := (Nat.le_trans f97 E95.1)
      have f101 := (V94.ext E95)
      obtain ⟨_, _, ⟨T102, L102, k102, n102⟩, -, X102, ⟨Lc102, hQ102, l102, y102, z102⟩, st102⟩ := X95.specialBack hx (y := (⟨"com/example/mapstone/mapstone/engine/ConceptIndex", "<init>", "([J)V"⟩ : MethodName)) rfl hown (mvT hZ (hw _ (List.mem_of_getElem? (i := 4) rfl))) (mvT hZ (hw _ (List.mem_of_getElem? (i := 5) rfl))) (mvT hZ (hw _ (List.mem_of_getElem? (i := 6) rfl))) (by decide) (backOf (W := 1) (rm1_2 l Z a0 hw [] b95 b87 k87 q0 q1 (.long (0 : Int64)) h95 n0 f100 f101 F95_concepts F95_slots F95_shift A95 g_b95 (Nat.ne_of_lt (Nat.lt_of_lt_of_le lt_b87_95 (Nat.le_of_eq g95.symm)))) hZ (hw _ (List.mem_of_getElem? (i := 6) rfl)) (hw _ (List.mem_of_getElem? (i := 3) rfl)) (by decide) (by decide)) (g := (mkF m 87 #[.val (.long q0), .second, .val (.long q1), .second, .val (.long q2), .second, .val (.long q3), .second, .val (.int p4), .val (.int (2 : Int32)), .val (.ref b87), .unset, .unset] [(.ref b87), (.ref b95), (.ref b95)])) rfl (by rw [hml]; rfl) (Steps.refl _) (a := b95) (argsL := [(.ref b87)]) (rest := [(.ref b95)]) (lenOf pd_3 rfl) rfl (by show 2 * 0 + _ ≤ _; exact Nat.le_of_eq rfl) (hb hby at_87) (fun _ _ => ⟨rfl, e95, (by decide : 2 + 1 ≤ _), (by decide : 5 + 4 ≤ _)⟩)
      dsimp only [Pt.U, Pt.locs, Pt.cells, Pt.slots] at X102 l102 y102 z102 st102 hQ102
      subst l102 y102 z102
      obtain ⟨os102, ks102, rfl, N102q, Kq102, Eq102, Fc102, Fs102, Fh102, Vs102⟩ := hQ102
      have N102 := Fr.app N94 N102q
      have hok : own_ok (own_t2 (own_sN 62 q0) (own_sN 62 q1)) 4 2 := own_mk _ _ _ (own_c2 _ (own_slotv 62 q0 0 4 (by decide)).2 _ (own_slotv 62 q1 0 4 (by decide)).2).1 (own_c2 _ (own_slotv 62 q0 0 4 (by decide)).2 _ (own_slotv 62 q1 0 4 (by decide)).2).2.1 (own_c2 _ (own_slotv 62 q0 0 4 (by decide)).2 _ (own_slotv 62 q1 0 4 (by decide)).2).2.2
      have c103 : ∀ t, Steps p.tables e below (T102.setTop (mkF m 95 #[.val (.long q0), .second, .val (.long q1), .second, .val (.long q2), .second, .val (.long q3), .second, .val (.int p4), .val (.int (2 : Int32)), .val (.ref b87), .val (.ref b95), .unset] [(.long q0), (.ref b95)])) t → Steps p.tables e below (T102.setTop (mkF m 90 #[.val (.long q0), .second, .val (.long q1), .second, .val (.long q2), .second, .val (.long q3), .second, .val (.int p4), .val (.int (2 : Int32)), .val (.ref b87), .unset, .unset] [(.ref b95)])) t := by
        intro t kt
        show Steps p.tables e below (T102.setTop (mkF m 90 #[.val (.long q0), .second, .val (.long q1), .second, .val (.long q2), .second, .val (.long q3), .second, .val (.int p4), .val (.int (2 : Int32)), .val (.ref b87), .unset, .unset] [(.ref b95)])) _
        refine XS.astore X102.here hx rfl (hb hby at_90) rfl rfl (l' := #[.val (.long q0), .second, .val (.long q1), .second, .val (.long q2), .second, .val (.long q3), .second, .val (.int p4), .val (.int (2 : Int32)), .val (.ref b87), .val (.ref b95), .unset]) rfl ?_
        show Steps p.tables e below (T102.setTop (mkF m 92 #[.val (.long q0), .second, .val (.long q1), .second, .val (.long q2), .second, .val (.long q3), .second, .val (.int p4), .val (.int (2 : Int32)), .val (.ref b87), .val (.ref b95), .unset] [])) _
        refine XS.aload X102.here hx rfl (hb hby at_92) rfl rfl ?_
        show Steps p.tables e below (T102.setTop (mkF m 94 #[.val (.long q0), .second, .val (.long q1), .second, .val (.long q2), .second, .val (.long q3), .second, .val (.int p4), .val (.int (2 : Int32)), .val (.ref b87), .val (.ref b95), .unset] [(.ref b95)])) _
        refine XS.lloadN X102.here hx rfl (hb hby at_94) rfl ?_
        exact kt
      have f104 := (Nat.le_trans f100 Kq102.1)
      have f105 := (f101.keep Kq102 (ninS (Nat.ne_of_lt (Nat.lt_of_lt_of_le lt_b87_95 (Nat.le_of_eq g95.symm))) nin0))
      obtain ⟨cq106, kq106, q106a, q106b, q106c⟩ := isOf hZ rfl Eq102
      obtain ⟨_, _, ⟨T107, L107, k107, n107⟩, -, X107, ⟨Lc107, hQ107, l107, y107, z107⟩, st107⟩ := X102.virtualBack hx (y := (⟨"com/example/mapstone/mapstone/engine/ConceptIndex", "place", "(J)I"⟩ : MethodName)) (z := (⟨"com/example/mapstone/mapstone/engine/ConceptIndex", "place", "(J)I"⟩ : MethodName)) hown (mvT hZ (hw _ (List.mem_of_getElem? (i := 36) rfl))) (mvT hZ (hw _ (List.mem_of_getElem? (i := 37) rfl))) (notFace_of_selects (args := #[]) (mvT hZ (hw _ (List.mem_of_getElem? (i := 39) rfl)))) (mvT hZ (hw _ (List.mem_of_getElem? (i := 39) rfl))) (mvT hZ (hw _ (List.mem_of_getElem? (i := 38) rfl))) (by decide) (backOf (W := 0) (rm7 l Z a0 hw [] b95 q0 (62 : Int32) os102 ks102 4 (own_t2 (own_sN 62 q0) (own_sN 62 q1)) b87 k87 [q0, q1] (.long (0 : Int64)) T102.heap n0 f104 Fh102 Eq102 Fs102 Vs102 Fc102 f105 (by decide) hok.1 hok.2.1 (Nat.le_of_ble_eq_true rfl) (own_slotv 62 q0 0 4 (by decide)) (hok.2.2 _ (own_slotv 62 q0 0 4 (by decide)).2).1) hZ (hw _ (List.mem_of_getElem? (i := 40) rfl)) (hw _ (List.mem_of_getElem? (i := 3) rfl)) (by decide) (by decide)) q106a q106c (g := (mkF m 95 #[.val (.long q0), .second, .val (.long q1), .second, .val (.long q2), .second, .val (.long q3), .second, .val (.int p4), .val (.int (2 : Int32)), .val (.ref b87), .val (.ref b95), .unset] [(.long q0), (.ref b95)])) rfl (by rw [hml]; rfl) (Steps.refl _) (argsL := [(.long q0)]) (rest := []) (lenOf pd_2 rfl) rfl (by show 2 * 0 + _ ≤ _; exact Nat.le_of_eq rfl) (hb hby at_95) (fun _ _ => ⟨rfl, rfl, (by decide : 3 + 0 ≤ _), (by decide : 9 + 0 ≤ _)⟩)
      dsimp only [Pt.U, Pt.locs, Pt.cells, Pt.slots] at X107 l107 y107 z107 st107 hQ107
      subst l107 y107 z107
      obtain ⟨rfl, N107q, e107⟩ := hQ107
      have N107 := Fr.app N102 N107q
      have c108 : ∀ t, Steps p.tables e below (T107.setTop (mkF m 105 #[.val (.long q0), .second, .val (.long q1), .second, .val (.long q2), .second, .val (.long q3), .second, .val (.int p4), .val (.int (2 : Int32)), .val (.ref b87), .val (.ref b95), .unset] [(.long q0), (.int (2 : Int32)), (.long q2), (.long q1), (.long q0), (.int (own_lk (own_t2 (own_sN 62 q0) (own_sN 62 q1)) 4 (own_e [q0, q1] q0) 8 (own_sN 62 q0)))])) t → Steps p.tables e below (T107.setTop (mkF m 98 #[.val (.long q0), .second, .val (.long q1), .second, .val (.long q2), .second, .val (.long q3), .second, .val (.int p4), .val (.int (2 : Int32)), .val (.ref b87), .val (.ref b95), .unset] [(.int (own_lk (own_t2 (own_sN 62 q0) (own_sN 62 q1)) 4 (own_e [q0, q1] q0) 8 (own_sN 62 q0)))])) t := by
        intro t kt
        show Steps p.tables e below (T107.setTop (mkF m 98 #[.val (.long q0), .second, .val (.long q1), .second, .val (.long q2), .second, .val (.long q3), .second, .val (.int p4), .val (.int (2 : Int32)), .val (.ref b87), .val (.ref b95), .unset] [(.int (own_lk (own_t2 (own_sN 62 q0) (own_sN 62 q1)) 4 (own_e [q0, q1] q0) 8 (own_sN 62 q0)))])) _
        refine XS.lloadN X107.here hx rfl (hb hby at_98) rfl ?_
        show Steps p.tables e below (T107.setTop (mkF m 99 #[.val (.long q0), .second, .val (.long q1), .second, .val (.long q2), .second, .val (.long q3), .second, .val (.int p4), .val (.int (2 : Int32)), .val (.ref b87), .val (.ref b95), .unset] [(.long q0), (.int (own_lk (own_t2 (own_sN 62 q0) (own_sN 62 q1)) 4 (own_e [q0, q1] q0) 8 (own_sN 62 q0)))])) _
        refine XS.lloadN X107.here hx rfl (hb hby at_99) rfl ?_
        show Steps p.tables e below (T107.setTop (mkF m 100 #[.val (.long q0), .second, .val (.long q1), .second, .val (.long q2), .second, .val (.long q3), .second, .val (.int p4), .val (.int (2 : Int32)), .val (.ref b87), .val (.ref b95), .unset] [(.long q1), (.long q0), (.int (own_lk (own_t2 (own_sN 62 q0) (own_sN 62 q1)) 4 (own_e [q0, q1] q0) 8 (own_sN 62 q0)))])) _
        refine XS.lload X107.here hx rfl (hb hby at_100) rfl ?_
        show Steps p.tables e below (T107.setTop (mkF m 102 #[.val (.long q0), .second, .val (.long q1), .second, .val (.long q2), .second, .val (.long q3), .second, .val (.int p4), .val (.int (2 : Int32)), .val (.ref b87), .val (.ref b95), .unset] [(.long q2), (.long q1), (.long q0), (.int (own_lk (own_t2 (own_sN 62 q0) (own_sN 62 q1)) 4 (own_e [q0, q1] q0) 8 (own_sN 62 q0)))])) _
        refine XS.iload X107.here hx rfl (hb hby at_102) rfl ?_
        show Steps p.tables e below (T107.setTop (mkF m 104 #[.val (.long q0), .second, .val (.long q1), .second, .val (.long q2), .second, .val (.long q3), .second, .val (.int p4), .val (.int (2 : Int32)), .val (.ref b87), .val (.ref b95), .unset] [(.int (2 : Int32)), (.long q2), (.long q1), (.long q0), (.int (own_lk (own_t2 (own_sN 62 q0) (own_sN 62 q1)) 4 (own_e [q0, q1] q0) 8 (own_sN 62 q0)))])) _
        refine XS.lloadN X107.here hx rfl (hb hby at_104) rfl ?_
        exact kt
      obtain ⟨_, _, ⟨T109, L109, k109, n109⟩, -, X109, ⟨Lc109, hQ109, l109, y109, z109⟩, st109⟩ := Jvm.LawKit.callS X107 hx (y := (⟨"com/example/mapstone/mapstone/engine/ConceptIndexPlacePinLaw", "ref", "(JJJIJ)I"⟩ : MethodName)) hown (mvT hZ (hw _ (List.mem_of_getElem? (i := 41) rfl))) (mvT hZ (hw _ (List.mem_of_getElem? (i := 42) rfl))) (mvT hZ (hw _ (List.mem_of_getElem? (i := 43) rfl))) (mvT hZ (hw _ (List.mem_of_getElem? (i := 44) rfl))) (by decide) (backOf (W := 1) (rm8 l Z a0 hw [] q0 q1 q2 (2 : Int32) q0  T102.heap n0 f104 ) hZ (hw _ (List.mem_of_getElem? (i := 44) rfl)) (hw _ (List.mem_of_getElem? (i := 43) rfl)) (by decide) (by decide)) (g := (mkF m 105 #[.val (.long q0), .second, .val (.long q1), .second, .val (.long q2), .second, .val (.long q3), .second, .val (.int p4), .val (.int (2 : Int32)), .val (.ref b87), .val (.ref b95), .unset] [(.long q0), (.int (2 : Int32)), (.long q2), (.long q1), (.long q0), (.int (own_lk (own_t2 (own_sN 62 q0) (own_sN 62 q1)) 4 (own_e [q0, q1] q0) 8 (own_sN 62 q0)))])) rfl (by rw [hml]; rfl) (argsL := [(.long q0), (.long q1), (.long q2), (.int (2 : Int32)), (.long q0)]) (rest := [(.int (own_lk (own_t2 (own_sN 62 q0) (own_sN 62 q1)) 4 (own_e [q0, q1] q0) 8 (own_sN 62 q0)))]) (lenOf pd_4 rfl) rfl (by show 2 * 0 + _ ≤ _; exact Nat.le_of_eq rfl) (hb hby at_105) (fun _ _ => ⟨rfl, e107, (by decide : 3 + 0 ≤ _), (by decide : 9 + 0 ≤ _)⟩)
      dsimp only [Pt.U, Pt.locs, Pt.cells, Pt.slots] at X109 l109 y109 z109 st109 hQ109
      subst l109 y109 z109
      obtain ⟨rfl, N109q, e109⟩ := hQ109
      have N109 := Fr.app N107 N109q
      have hd110 : (own_lk (own_t2 (own_sN 62 q0) (own_sN 62 q1)) 4 (own_e [q0, q1] q0) 8 (own_sN 62 q0)) = (own_rf (2 : Int32) q0 q1 q2 q0) := own_k2 q0 q1 q2 _ hc15
      have c111 : ∀ t, Steps p.tables e below (T109.setTop (mkF m 126 #[.val (.long q0), .second, .val (.long q1), .second, .val (.long q2), .second, .val (.long q3), .second, .val (.int p4), .val (.int (2 : Int32)), .val (.ref b87), .val (.ref b95), .val (.int (1 : Int32))] [(.long q1), (.ref b95)])) t → Steps p.tables e below (T109.setTop (mkF m 108 #[.val (.long q0), .second, .val (.long q1), .second, .val (.long q2), .second, .val (.long q3), .second, .val (.int p4), .val (.int (2 : Int32)), .val (.ref b87), .val (.ref b95), .unset] [(.int (own_rf (2 : Int32) q0 q1 q2 q0)), (.int (own_lk (own_t2 (own_sN 62 q0) (own_sN 62 q1)) 4 (own_e [q0, q1] q0) 8 (own_sN 62 q0)))])) t := by
        intro t kt
        show Steps p.tables e below (T109.setTop (mkF m 108 #[.val (.long q0), .second, .val (.long q1), .second, .val (.long q2), .second, .val (.long q3), .second, .val (.int p4), .val (.int (2 : Int32)), .val (.ref b87), .val (.ref b95), .unset] [(.int (own_rf (2 : Int32) q0 q1 q2 q0)), (.int (own_lk (own_t2 (own_sN 62 q0) (own_sN 62 q1)) 4 (own_e [q0, q1] q0) 8 (own_sN 62 q0)))])) _
        refine XS.icmpNo X109.here hx rfl (hb hby at_108) rfl (teq (hd110)).2 ?_
        show Steps p.tables e below (T109.setTop (mkF m 111 #[.val (.long q0), .second, .val (.long q1), .second, .val (.long q2), .second, .val (.long q3), .second, .val (.int p4), .val (.int (2 : Int32)), .val (.ref b87), .val (.ref b95), .unset] [])) _
        refine XS.iconst X109.here hx rfl (hb hby at_111) ?_
        show Steps p.tables e below (T109.setTop (mkF m 112 #[.val (.long q0), .second, .val (.long q1), .second, .val (.long q2), .second, .val (.long q3), .second, .val (.int p4), .val (.int (2 : Int32)), .val (.ref b87), .val (.ref b95), .unset] [(.int (1 : Int32))])) _
        refine XS.goto X109.here hx rfl (pc0 := 112) (pc' := 116) rfl (hb hby at_112) (by decide) (by decide) ?_
        show Steps p.tables e below (T109.setTop (mkF m 116 #[.val (.long q0), .second, .val (.long q1), .second, .val (.long q2), .second, .val (.long q3), .second, .val (.int p4), .val (.int (2 : Int32)), .val (.ref b87), .val (.ref b95), .unset] [(.int (1 : Int32))])) _
        refine XS.istore X109.here hx rfl (hb hby at_116) rfl (l' := #[.val (.long q0), .second, .val (.long q1), .second, .val (.long q2), .second, .val (.long q3), .second, .val (.int p4), .val (.int (2 : Int32)), .val (.ref b87), .val (.ref b95), .val (.int (1 : Int32))]) rfl ?_
        show Steps p.tables e below (T109.setTop (mkF m 118 #[.val (.long q0), .second, .val (.long q1), .second, .val (.long q2), .second, .val (.long q3), .second, .val (.int p4), .val (.int (2 : Int32)), .val (.ref b87), .val (.ref b95), .val (.int (1 : Int32))] [])) _
        refine XS.iload X109.here hx rfl (hb hby at_118) rfl ?_
        show Steps p.tables e below (T109.setTop (mkF m 120 #[.val (.long q0), .second, .val (.long q1), .second, .val (.long q2), .second, .val (.long q3), .second, .val (.int p4), .val (.int (2 : Int32)), .val (.ref b87), .val (.ref b95), .val (.int (1 : Int32))] [(.int (1 : Int32))])) _
        refine XS.ifNo X109.here hx rfl (hb hby at_120) rfl ((if0 _ _).trans (feq (by decide : ¬ ((1 : Int32) = (0 : Int32)))).1) ?_
        show Steps p.tables e below (T109.setTop (mkF m 123 #[.val (.long q0), .second, .val (.long q1), .second, .val (.long q2), .second, .val (.long q3), .second, .val (.int p4), .val (.int (2 : Int32)), .val (.ref b87), .val (.ref b95), .val (.int (1 : Int32))] [])) _
        refine XS.aload X109.here hx rfl (hb hby at_123) rfl rfl ?_
        show Steps p.tables e below (T109.setTop (mkF m 125 #[.val (.long q0), .second, .val (.long q1), .second, .val (.long q2), .second, .val (.long q3), .second, .val (.int p4), .val (.int (2 : Int32)), .val (.ref b87), .val (.ref b95), .val (.int (1 : Int32))] [(.ref b95)])) _
        refine XS.lloadN X109.here hx rfl (hb hby at_125) rfl ?_
        exact kt
      obtain ⟨cq112, kq112, q112a, q112b, q112c⟩ := isOf hZ e109 Eq102
      obtain ⟨_, _, ⟨T113, L113, k113, n113⟩, -, X113, ⟨Lc113, hQ113, l113, y113, z113⟩, st113⟩ := X109.virtualBack hx (y := (⟨"com/example/mapstone/mapstone/engine/ConceptIndex", "place", "(J)I"⟩ : MethodName)) (z := (⟨"com/example/mapstone/mapstone/engine/ConceptIndex", "place", "(J)I"⟩ : MethodName)) hown (mvT hZ (hw _ (List.mem_of_getElem? (i := 36) rfl))) (mvT hZ (hw _ (List.mem_of_getElem? (i := 37) rfl))) (notFace_of_selects (args := #[]) (mvT hZ (hw _ (List.mem_of_getElem? (i := 39) rfl)))) (mvT hZ (hw _ (List.mem_of_getElem? (i := 39) rfl))) (mvT hZ (hw _ (List.mem_of_getElem? (i := 38) rfl))) (by decide) (backOf (W := 0) (rm7 l Z a0 hw [] b95 q1 (62 : Int32) os102 ks102 4 (own_t2 (own_sN 62 q0) (own_sN 62 q1)) b87 k87 [q0, q1] (.long (0 : Int64)) T102.heap n0 f104 Fh102 Eq102 Fs102 Vs102 Fc102 f105 (by decide) hok.1 hok.2.1 (Nat.le_of_ble_eq_true rfl) (own_slotv 62 q1 0 4 (by decide)) (hok.2.2 _ (own_slotv 62 q1 0 4 (by decide)).2).1) hZ (hw _ (List.mem_of_getElem? (i := 40) rfl)) (hw _ (List.mem_of_getElem? (i := 3) rfl)) (by decide) (by decide)) q112a q112c (g := (mkF m 126 #[.val (.long q0), .second, .val (.long q1), .second, .val (.long q2), .second, .val (.long q3), .second, .val (.int p4), .val (.int (2 : Int32)), .val (.ref b87), .val (.ref b95), .val (.int (1 : Int32))] [(.long q1), (.ref b95)])) rfl (by rw [hml]; rfl) (Steps.refl _) (argsL := [(.long q1)]) (rest := []) (lenOf pd_2 rfl) rfl (by show 2 * 0 + _ ≤ _; exact Nat.le_of_eq rfl) (hb hby at_126) (fun _ _ => ⟨rfl, e109, (by decide : 3 + 0 ≤ _), (by decide : 9 + 0 ≤ _)⟩)
      dsimp only [Pt.U, Pt.locs, Pt.cells, Pt.slots] at X113 l113 y113 z113 st113 hQ113
      subst l113 y113 z113
      obtain ⟨rfl, N113q, e113⟩ := hQ113
      have N113 := Fr.app N109 N113q
      have c114 : ∀ t, Steps p.tables e below (T113.setTop (mkF m 136 #[.val (.long q0), .second, .val (.long q1), .second, .val (.long q2), .second, .val (.long q3), .second, .val (.int p4), .val (.int (2 : Int32)), .val (.ref b87), .val (.ref b95), .val (.int (1 : Int32))] [(.long q1), (.int (2 : Int32)), (.long q2), (.long q1), (.long q0), (.int (own_lk (own_t2 (own_sN 62 q0) (own_sN 62 q1)) 4 (own_e [q0, q1] q1) 8 (own_sN 62 q1)))])) t → Steps p.tables e below (T113.setTop (mkF m 129 #[.val (.long q0), .second, .val (.long q1), .second, .val (.long q2), .second, .val (.long q3), .second, .val (.int p4), .val (.int (2 : Int32)), .val (.ref b87), .val (.ref b95), .val (.int (1 : Int32))] [(.int (own_lk (own_t2 (own_sN 62 q0) (own_sN 62 q1)) 4 (own_e [q0, q1] q1) 8 (own_sN 62 q1)))])) t := by
        intro t kt
        show Steps p.tables e below (T113.setTop (mkF m 129 #[.val (.long q0), .second, .val (.long q1), .second, .val (.long q2), .second, .val (.long q3), .second, .val (.int p4), .val (.int (2 : Int32)), .val (.ref b87), .val (.ref b95), .val (.int (1 : Int32))] [(.int (own_lk (own_t2 (own_sN 62 q0) (own_sN 62 q1)) 4 (own_e [q0, q1] q1) 8 (own_sN 62 q1)))])) _
        refine XS.lloadN X113.here hx rfl (hb hby at_129) rfl ?_
        show Steps p.tables e below (T113.setTop (mkF m 130 #[.val (.long q0), .second, .val (.long q1), .second, .val (.long q2), .second, .val (.long q3), .second, .val (.int p4), .val (.int (2 : Int32)), .val (.ref b87), .val (.ref b95), .val (.int (1 : Int32))] [(.long q0), (.int (own_lk (own_t2 (own_sN 62 q0) (own_sN 62 q1)) 4 (own_e [q0, q1] q1) 8 (own_sN 62 q1)))])) _
        refine XS.lloadN X113.here hx rfl (hb hby at_130) rfl ?_
        show Steps p.tables e below (T113.setTop (mkF m 131 #[.val (.long q0), .second, .val (.long q1), .second, .val (.long q2), .second, .val (.long q3), .second, .val (.int p4), .val (.int (2 : Int32)), .val (.ref b87), .val (.ref b95), .val (.int (1 : Int32))] [(.long q1), (.long q0), (.int (own_lk (own_t2 (own_sN 62 q0) (own_sN 62 q1)) 4 (own_e [q0, q1] q1) 8 (own_sN 62 q1)))])) _
        refine XS.lload X113.here hx rfl (hb hby at_131) rfl ?_
        show Steps p.tables e below (T113.setTop (mkF m 133 #[.val (.long q0), .second, .val (.long q1), .second, .val (.long q2), .second, .val (.long q3), .second, .val (.int p4), .val (.int (2 : Int32)), .val (.ref b87), .val (.ref b95), .val (.int (1 : Int32))] [(.long q2), (.long q1), (.long q0), (.int (own_lk (own_t2 (own_sN 62 q0) (own_sN 62 q1)) 4 (own_e [q0, q1] q1) 8 (own_sN 62 q1)))])) _
        refine XS.iload X113.here hx rfl (hb hby at_133) rfl ?_
        show Steps p.tables e below (T113.setTop (mkF m 135 #[.val (.long q0), .second, .val (.long q1), .second, .val (.long q2), .second, .val (.long q3), .second, .val (.int p4), .val (.int (2 : Int32)), .val (.ref b87), .val (.ref b95), .val (.int (1 : Int32))] [(.int (2 : Int32)), (.long q2), (.long q1), (.long q0), (.int (own_lk (own_t2 (own_sN 62 q0) (own_sN 62 q1)) 4 (own_e [q0, q1] q1) 8 (own_sN 62 q1)))])) _
        refine XS.lloadN X113.here hx rfl (hb hby at_135) rfl ?_
        exact kt
      obtain ⟨_, _, ⟨T115, L115, k115, n115⟩, -, X115, ⟨Lc115, hQ115, l115, y115, z115⟩, st115⟩ := Jvm.LawKit.callS X113 hx (y := (⟨"com/example/mapstone/mapstone/engine/ConceptIndexPlacePinLaw", "ref", "(JJJIJ)I"⟩ : MethodName)) hown (mvT hZ (hw _ (List.mem_of_getElem? (i := 41) rfl))) (mvT hZ (hw _ (List.mem_of_getElem? (i := 42) rfl))) (mvT hZ (hw _ (List.mem_of_getElem? (i := 43) rfl))) (mvT hZ (hw _ (List.mem_of_getElem? (i := 44) rfl))) (by decide) (backOf (W := 1) (rm8 l Z a0 hw [] q0 q1 q2 (2 : Int32) q1  T102.heap n0 f104 ) hZ (hw _ (List.mem_of_getElem? (i := 44) rfl)) (hw _ (List.mem_of_getElem? (i := 43) rfl)) (by decide) (by decide)) (g := (mkF m 136 #[.val (.long q0), .second, .val (.long q1), .second, .val (.long q2), .second, .val (.long q3), .second, .val (.int p4), .val (.int (2 : Int32)), .val (.ref b87), .val (.ref b95), .val (.int (1 : Int32))] [(.long q1), (.int (2 : Int32)), (.long q2), (.long q1), (.long q0), (.int (own_lk (own_t2 (own_sN 62 q0) (own_sN 62 q1)) 4 (own_e [q0, q1] q1) 8 (own_sN 62 q1)))])) rfl (by rw [hml]; rfl) (argsL := [(.long q0), (.long q1), (.long q2), (.int (2 : Int32)), (.long q1)]) (rest := [(.int (own_lk (own_t2 (own_sN 62 q0) (own_sN 62 q1)) 4 (own_e [q0, q1] q1) 8 (own_sN 62 q1)))]) (lenOf pd_4 rfl) rfl (by show 2 * 0 + _ ≤ _; exact Nat.le_of_eq rfl) (hb hby at_136) (fun _ _ => ⟨rfl, e113, (by decide : 3 + 0 ≤ _), (by decide : 9 + 0 ≤ _)⟩)
      dsimp only [Pt.U, Pt.locs, Pt.cells, Pt.slots] at X115 l115 y115 z115 st115 hQ115
      subst l115 y115 z115
      obtain ⟨rfl, N115q, e115⟩ := hQ115
      have N115 := Fr.app N113 N115q
      have hd116 : (own_lk (own_t2 (own_sN 62 q0) (own_sN 62 q1)) 4 (own_e [q0, q1] q1) 8 (own_sN 62 q1)) = (own_rf (2 : Int32) q0 q1 q2 q1) := own_k2 q0 q1 q2 _ hc15
      have c117 : ∀ t, Steps p.tables e below (T115.setTop (mkF m 158 #[.val (.long q0), .second, .val (.long q1), .second, .val (.long q2), .second, .val (.long q3), .second, .val (.int p4), .val (.int (2 : Int32)), .val (.ref b87), .val (.ref b95), .val (.int (1 : Int32))] [(.long q2), (.ref b95)])) t → Steps p.tables e below (T115.setTop (mkF m 139 #[.val (.long q0), .second, .val (.long q1), .second, .val (.long q2), .second, .val (.long q3), .second, .val (.int p4), .val (.int (2 : Int32)), .val (.ref b87), .val (.ref b95), .val (.int (1 : Int32))] [(.int (own_rf (2 : Int32) q0 q1 q2 q1)), (.int (own_lk (own_t2 (own_sN 62 q0) (own_sN 62 q1)) 4 (own_e [q0, q1] q1) 8 (own_sN 62 q1)))])) t := by
        intro t kt
        show Steps p.tables e below (T115.setTop (mkF m 139 #[.val (.long q0), .second, .val (.long q1), .second, .val (.long q2), .second, .val (.long q3), .second, .val (.int p4), .val (.int (2 : Int32)), .val (.ref b87), .val (.ref b95), .val (.int (1 : Int32))] [(.int (own_rf (2 : Int32) q0 q1 q2 q1)), (.int (own_lk (own_t2 (own_sN 62 q0) (own_sN 62 q1)) 4 (own_e [q0, q1] q1) 8 (own_sN 62 q1)))])) _
        refine XS.icmpNo X115.here hx rfl (hb hby at_139) rfl (teq (hd116)).2 ?_
        show Steps p.tables e below (T115.setTop (mkF m 142 #[.val (.long q0), .second, .val (.long q1), .second, .val (.long q2), .second, .val (.long q3), .second, .val (.int p4), .val (.int (2 : Int32)), .val (.ref b87), .val (.ref b95), .val (.int (1 : Int32))] [])) _
        refine XS.iconst X115.here hx rfl (hb hby at_142) ?_
        show Steps p.tables e below (T115.setTop (mkF m 143 #[.val (.long q0), .second, .val (.long q1), .second, .val (.long q2), .second, .val (.long q3), .second, .val (.int p4), .val (.int (2 : Int32)), .val (.ref b87), .val (.ref b95), .val (.int (1 : Int32))] [(.int (1 : Int32))])) _
        refine XS.goto X115.here hx rfl (pc0 := 143) (pc' := 147) rfl (hb hby at_143) (by decide) (by decide) ?_
        show Steps p.tables e below (T115.setTop (mkF m 147 #[.val (.long q0), .second, .val (.long q1), .second, .val (.long q2), .second, .val (.long q3), .second, .val (.int p4), .val (.int (2 : Int32)), .val (.ref b87), .val (.ref b95), .val (.int (1 : Int32))] [(.int (1 : Int32))])) _
        refine XS.istore X115.here hx rfl (hb hby at_147) rfl (l' := #[.val (.long q0), .second, .val (.long q1), .second, .val (.long q2), .second, .val (.long q3), .second, .val (.int p4), .val (.int (2 : Int32)), .val (.ref b87), .val (.ref b95), .val (.int (1 : Int32))]) rfl ?_
        show Steps p.tables e below (T115.setTop (mkF m 149 #[.val (.long q0), .second, .val (.long q1), .second, .val (.long q2), .second, .val (.long q3), .second, .val (.int p4), .val (.int (2 : Int32)), .val (.ref b87), .val (.ref b95), .val (.int (1 : Int32))] [])) _
        refine XS.iload X115.here hx rfl (hb hby at_149) rfl ?_
        show Steps p.tables e below (T115.setTop (mkF m 151 #[.val (.long q0), .second, .val (.long q1), .second, .val (.long q2), .second, .val (.long q3), .second, .val (.int p4), .val (.int (2 : Int32)), .val (.ref b87), .val (.ref b95), .val (.int (1 : Int32))] [(.int (1 : Int32))])) _
        refine XS.ifNo X115.here hx rfl (hb hby at_151) rfl ((if0 _ _).trans (feq (by decide : ¬ ((1 : Int32) = (0 : Int32)))).1) ?_
        show Steps p.tables e below (T115.setTop (mkF m 154 #[.val (.long q0), .second, .val (.long q1), .second, .val (.long q2), .second, .val (.long q3), .second, .val (.int p4), .val (.int (2 : Int32)), .val (.ref b87), .val (.ref b95), .val (.int (1 : Int32))] [])) _
        refine XS.aload X115.here hx rfl (hb hby at_154) rfl rfl ?_
        show Steps p.tables e below (T115.setTop (mkF m 156 #[.val (.long q0), .second, .val (.long q1), .second, .val (.long q2), .second, .val (.long q3), .second, .val (.int p4), .val (.int (2 : Int32)), .val (.ref b87), .val (.ref b95), .val (.int (1 : Int32))] [(.ref b95)])) _
        refine XS.lload X115.here hx rfl (hb hby at_156) rfl ?_
        exact kt
      obtain ⟨cq118, kq118, q118a, q118b, q118c⟩ := isOf hZ e115 Eq102
      obtain ⟨_, _, ⟨T119, L119, k119, n119⟩, -, X119, ⟨Lc119, hQ119, l119, y119, z119⟩, st119⟩ := X115.virtualBack hx (y := (⟨"com/example/mapstone/mapstone/engine/ConceptIndex", "place", "(J)I"⟩ : MethodName)) (z := (⟨"com/example/mapstone/mapstone/engine/ConceptIndex", "place", "(J)I"⟩ : MethodName)) hown (mvT hZ (hw _ (List.mem_of_getElem? (i := 36) rfl))) (mvT hZ (hw _ (List.mem_of_getElem? (i := 37) rfl))) (notFace_of_selects (args := #[]) (mvT hZ (hw _ (List.mem_of_getElem? (i := 39) rfl)))) (mvT hZ (hw _ (List.mem_of_getElem? (i := 39) rfl))) (mvT hZ (hw _ (List.mem_of_getElem? (i := 38) rfl))) (by decide) (backOf (W := 0) (rm7 l Z a0 hw [] b95 q2 (62 : Int32) os102 ks102 4 (own_t2 (own_sN 62 q0) (own_sN 62 q1)) b87 k87 [q0, q1] (.long (0 : Int64)) T102.heap n0 f104 Fh102 Eq102 Fs102 Vs102 Fc102 f105 (by decide) hok.1 hok.2.1 (Nat.le_of_ble_eq_true rfl) (own_slotv 62 q2 0 4 (by decide)) (hok.2.2 _ (own_slotv 62 q2 0 4 (by decide)).2).1) hZ (hw _ (List.mem_of_getElem? (i := 40) rfl)) (hw _ (List.mem_of_getElem? (i := 3) rfl)) (by decide) (by decide)) q118a q118c (g := (mkF m 158 #[.val (.long q0), .second, .val (.long q1), .second, .val (.long q2), .second, .val (.long q3), .second, .val (.int p4), .val (.int (2 : Int32)), .val (.ref b87), .val (.ref b95), .val (.int (1 : Int32))] [(.long q2), (.ref b95)])) rfl (by rw [hml]; rfl) (Steps.refl _) (argsL := [(.long q2)]) (rest := []) (lenOf pd_2 rfl) rfl (by show 2 * 0 + _ ≤ _; exact Nat.le_of_eq rfl) (hb hby at_158) (fun _ _ => ⟨rfl, e115, (by decide : 3 + 0 ≤ _), (by decide : 9 + 0 ≤ _)⟩)
      dsimp only [Pt.U, Pt.locs, Pt.cells, Pt.slots] at X119 l119 y119 z119 st119 hQ119
      subst l119 y119 z119
      obtain ⟨rfl, N119q, e119⟩ := hQ119
      have N119 := Fr.app N115 N119q
      have c120 : ∀ t, Steps p.tables e below (T119.setTop (mkF m 169 #[.val (.long q0), .second, .val (.long q1), .second, .val (.long q2), .second, .val (.long q3), .second, .val (.int p4), .val (.int (2 : Int32)), .val (.ref b87), .val (.ref b95), .val (.int (1 : Int32))] [(.long q2), (.int (2 : Int32)), (.long q2), (.long q1), (.long q0), (.int (own_lk (own_t2 (own_sN 62 q0) (own_sN 62 q1)) 4 (own_e [q0, q1] q2) 8 (own_sN 62 q2)))])) t → Steps p.tables e below (T119.setTop (mkF m 161 #[.val (.long q0), .second, .val (.long q1), .second, .val (.long q2), .second, .val (.long q3), .second, .val (.int p4), .val (.int (2 : Int32)), .val (.ref b87), .val (.ref b95), .val (.int (1 : Int32))] [(.int (own_lk (own_t2 (own_sN 62 q0) (own_sN 62 q1)) 4 (own_e [q0, q1] q2) 8 (own_sN 62 q2)))])) t := by
        intro t kt
        show Steps p.tables e below (T119.setTop (mkF m 161 #[.val (.long q0), .second, .val (.long q1), .second, .val (.long q2), .second, .val (.long q3), .second, .val (.int p4), .val (.int (2 : Int32)), .val (.ref b87), .val (.ref b95), .val (.int (1 : Int32))] [(.int (own_lk (own_t2 (own_sN 62 q0) (own_sN 62 q1)) 4 (own_e [q0, q1] q2) 8 (own_sN 62 q2)))])) _
        refine XS.lloadN X119.here hx rfl (hb hby at_161) rfl ?_
        show Steps p.tables e below (T119.setTop (mkF m 162 #[.val (.long q0), .second, .val (.long q1), .second, .val (.long q2), .second, .val (.long q3), .second, .val (.int p4), .val (.int (2 : Int32)), .val (.ref b87), .val (.ref b95), .val (.int (1 : Int32))] [(.long q0), (.int (own_lk (own_t2 (own_sN 62 q0) (own_sN 62 q1)) 4 (own_e [q0, q1] q2) 8 (own_sN 62 q2)))])) _
        refine XS.lloadN X119.here hx rfl (hb hby at_162) rfl ?_
        show Steps p.tables e below (T119.setTop (mkF m 163 #[.val (.long q0), .second, .val (.long q1), .second, .val (.long q2), .second, .val (.long q3), .second, .val (.int p4), .val (.int (2 : Int32)), .val (.ref b87), .val (.ref b95), .val (.int (1 : Int32))] [(.long q1), (.long q0), (.int (own_lk (own_t2 (own_sN 62 q0) (own_sN 62 q1)) 4 (own_e [q0, q1] q2) 8 (own_sN 62 q2)))])) _
        refine XS.lload X119.here hx rfl (hb hby at_163) rfl ?_
        show Steps p.tables e below (T119.setTop (mkF m 165 #[.val (.long q0), .second, .val (.long q1), .second, .val (.long q2), .second, .val (.long q3), .second, .val (.int p4), .val (.int (2 : Int32)), .val (.ref b87), .val (.ref b95), .val (.int (1 : Int32))] [(.long q2), (.long q1), (.long q0), (.int (own_lk (own_t2 (own_sN 62 q0) (own_sN 62 q1)) 4 (own_e [q0, q1] q2) 8 (own_sN 62 q2)))])) _
        refine XS.iload X119.here hx rfl (hb hby at_165) rfl ?_
        show Steps p.tables e below (T119.setTop (mkF m 167 #[.val (.long q0), .second, .val (.long q1), .second, .val (.long q2), .second, .val (.long q3), .second, .val (.int p4), .val (.int (2 : Int32)), .val (.ref b87), .val (.ref b95), .val (.int (1 : Int32))] [(.int (2 : Int32)), (.long q2), (.long q1), (.long q0), (.int (own_lk (own_t2 (own_sN 62 q0) (own_sN 62 q1)) 4 (own_e [q0, q1] q2) 8 (own_sN 62 q2)))])) _
        refine XS.lload X119.here hx rfl (hb hby at_167) rfl ?_
        exact kt
      obtain ⟨_, _, ⟨T121, L121, k121, n121⟩, -, X121, ⟨Lc121, hQ121, l121, y121, z121⟩, st121⟩ := Jvm.LawKit.callS X119 hx (y := (⟨"com/example/mapstone/mapstone/engine/ConceptIndexPlacePinLaw", "ref", "(JJJIJ)I"⟩ : MethodName)) hown (mvT hZ (hw _ (List.mem_of_getElem? (i := 41) rfl))) (mvT hZ (hw _ (List.mem_of_getElem? (i := 42) rfl))) (mvT hZ (hw _ (List.mem_of_getElem? (i := 43) rfl))) (mvT hZ (hw _ (List.mem_of_getElem? (i := 44) rfl))) (by decide) (backOf (W := 1) (rm8 l Z a0 hw [] q0 q1 q2 (2 : Int32) q2  T102.heap n0 f104 ) hZ (hw _ (List.mem_of_getElem? (i := 44) rfl)) (hw _ (List.mem_of_getElem? (i := 43) rfl)) (by decide) (by decide)) (g := (mkF m 169 #[.val (.long q0), .second, .val (.long q1), .second, .val (.long q2), .second, .val (.long q3), .second, .val (.int p4), .val (.int (2 : Int32)), .val (.ref b87), .val (.ref b95), .val (.int (1 : Int32))] [(.long q2), (.int (2 : Int32)), (.long q2), (.long q1), (.long q0), (.int (own_lk (own_t2 (own_sN 62 q0) (own_sN 62 q1)) 4 (own_e [q0, q1] q2) 8 (own_sN 62 q2)))])) rfl (by rw [hml]; rfl) (argsL := [(.long q0), (.long q1), (.long q2), (.int (2 : Int32)), (.long q2)]) (rest := [(.int (own_lk (own_t2 (own_sN 62 q0) (own_sN 62 q1)) 4 (own_e [q0, q1] q2) 8 (own_sN 62 q2)))]) (lenOf pd_4 rfl) rfl (by show 2 * 0 + _ ≤ _; exact Nat.le_of_eq rfl) (hb hby at_169) (fun _ _ => ⟨rfl, e119, (by decide : 3 + 0 ≤ _), (by decide : 9 + 0 ≤ _)⟩)
      dsimp only [Pt.U, Pt.locs, Pt.cells, Pt.slots] at X121 l121 y121 z121 st121 hQ121
      subst l121 y121 z121
      obtain ⟨rfl, N121q, e121⟩ := hQ121
      have N121 := Fr.app N119 N121q
      have hd122 : (own_lk (own_t2 (own_sN 62 q0) (own_sN 62 q1)) 4 (own_e [q0, q1] q2) 8 (own_sN 62 q2)) = (own_rf (2 : Int32) q0 q1 q2 q2) := own_k2 q0 q1 q2 _ hc15
      have c123 : ∀ t, Steps p.tables e below (T121.setTop (mkF m 191 #[.val (.long q0), .second, .val (.long q1), .second, .val (.long q2), .second, .val (.long q3), .second, .val (.int p4), .val (.int (2 : Int32)), .val (.ref b87), .val (.ref b95), .val (.int (1 : Int32))] [(.long q3), (.ref b95)])) t → Steps p.tables e below (T121.setTop (mkF m 172 #[.val (.long q0), .second, .val (.long q1), .second, .val (.long q2), .second, .val (.long q3), .second, .val (.int p4), .val (.int (2 : Int32)), .val (.ref b87), .val (.ref b95), .val (.int (1 : Int32))] [(.int (own_rf (2 : Int32) q0 q1 q2 q2)), (.int (own_lk (own_t2 (own_sN 62 q0) (own_sN 62 q1)) 4 (own_e [q0, q1] q2) 8 (own_sN 62 q2)))])) t := by
        intro t kt
        show Steps p.tables e below (T121.setTop (mkF m 172 #[.val (.long q0), .second, .val (.long q1), .second, .val (.long q2), .second, .val (.long q3), .second, .val (.int p4), .val (.int (2 : Int32)), .val (.ref b87), .val (.ref b95), .val (.int (1 : Int32))] [(.int (own_rf (2 : Int32) q0 q1 q2 q2)), (.int (own_lk (own_t2 (own_sN 62 q0) (own_sN 62 q1)) 4 (own_e [q0, q1] q2) 8 (own_sN 62 q2)))])) _
        refine XS.icmpNo X121.here hx rfl (hb hby at_172) rfl (teq (hd122)).2 ?_
        show Steps p.tables e below (T121.setTop (mkF m 175 #[.val (.long q0), .second, .val (.long q1), .second, .val (.long q2), .second, .val (.long q3), .second, .val (.int p4), .val (.int (2 : Int32)), .val (.ref b87), .val (.ref b95), .val (.int (1 : Int32))] [])) _
        refine XS.iconst X121.here hx rfl (hb hby at_175) ?_
        show Steps p.tables e below (T121.setTop (mkF m 176 #[.val (.long q0), .second, .val (.long q1), .second, .val (.long q2), .second, .val (.long q3), .second, .val (.int p4), .val (.int (2 : Int32)), .val (.ref b87), .val (.ref b95), .val (.int (1 : Int32))] [(.int (1 : Int32))])) _
        refine XS.goto X121.here hx rfl (pc0 := 176) (pc' := 180) rfl (hb hby at_176) (by decide) (by decide) ?_
        show Steps p.tables e below (T121.setTop (mkF m 180 #[.val (.long q0), .second, .val (.long q1), .second, .val (.long q2), .second, .val (.long q3), .second, .val (.int p4), .val (.int (2 : Int32)), .val (.ref b87), .val (.ref b95), .val (.int (1 : Int32))] [(.int (1 : Int32))])) _
        refine XS.istore X121.here hx rfl (hb hby at_180) rfl (l' := #[.val (.long q0), .second, .val (.long q1), .second, .val (.long q2), .second, .val (.long q3), .second, .val (.int p4), .val (.int (2 : Int32)), .val (.ref b87), .val (.ref b95), .val (.int (1 : Int32))]) rfl ?_
        show Steps p.tables e below (T121.setTop (mkF m 182 #[.val (.long q0), .second, .val (.long q1), .second, .val (.long q2), .second, .val (.long q3), .second, .val (.int p4), .val (.int (2 : Int32)), .val (.ref b87), .val (.ref b95), .val (.int (1 : Int32))] [])) _
        refine XS.iload X121.here hx rfl (hb hby at_182) rfl ?_
        show Steps p.tables e below (T121.setTop (mkF m 184 #[.val (.long q0), .second, .val (.long q1), .second, .val (.long q2), .second, .val (.long q3), .second, .val (.int p4), .val (.int (2 : Int32)), .val (.ref b87), .val (.ref b95), .val (.int (1 : Int32))] [(.int (1 : Int32))])) _
        refine XS.ifNo X121.here hx rfl (hb hby at_184) rfl ((if0 _ _).trans (feq (by decide : ¬ ((1 : Int32) = (0 : Int32)))).1) ?_
        show Steps p.tables e below (T121.setTop (mkF m 187 #[.val (.long q0), .second, .val (.long q1), .second, .val (.long q2), .second, .val (.long q3), .second, .val (.int p4), .val (.int (2 : Int32)), .val (.ref b87), .val (.ref b95), .val (.int (1 : Int32))] [])) _
        refine XS.aload X121.here hx rfl (hb hby at_187) rfl rfl ?_
        show Steps p.tables e below (T121.setTop (mkF m 189 #[.val (.long q0), .second, .val (.long q1), .second, .val (.long q2), .second, .val (.long q3), .second, .val (.int p4), .val (.int (2 : Int32)), .val (.ref b87), .val (.ref b95), .val (.int (1 : Int32))] [(.ref b95)])) _
        refine XS.lload X121.here hx rfl (hb hby at_189) rfl ?_
        exact kt
      obtain ⟨cq124, kq124, q124a, q124b, q124c⟩ := isOf hZ e121 Eq102
      obtain ⟨_, _, ⟨T125, L125, k125, n125⟩, -, X125, ⟨Lc125, hQ125, l125, y125, z125⟩, st125⟩ := X121.virtualBack hx (y := (⟨"com/example/mapstone/mapstone/engine/ConceptIndex", "place", "(J)I"⟩ : MethodName)) (z := (⟨"com/example/mapstone/mapstone/engine/ConceptIndex", "place", "(J)I"⟩ : MethodName)) hown (mvT hZ (hw _ (List.mem_of_getElem? (i := 36) rfl))) (mvT hZ (hw _ (List.mem_of_getElem? (i := 37) rfl))) (notFace_of_selects (args := #[]) (mvT hZ (hw _ (List.mem_of_getElem? (i := 39) rfl)))) (mvT hZ (hw _ (List.mem_of_getElem? (i := 39) rfl))) (mvT hZ (hw _ (List.mem_of_getElem? (i := 38) rfl))) (by decide) (backOf (W := 0) (rm7 l Z a0 hw [] b95 q3 (62 : Int32) os102 ks102 4 (own_t2 (own_sN 62 q0) (own_sN 62 q1)) b87 k87 [q0, q1] (.long (0 : Int64)) T102.heap n0 f104 Fh102 Eq102 Fs102 Vs102 Fc102 f105 (by decide) hok.1 hok.2.1 (Nat.le_of_ble_eq_true rfl) (own_slotv 62 q3 0 4 (by decide)) (hok.2.2 _ (own_slotv 62 q3 0 4 (by decide)).2).1) hZ (hw _ (List.mem_of_getElem? (i := 40) rfl)) (hw _ (List.mem_of_getElem? (i := 3) rfl)) (by decide) (by decide)) q124a q124c (g := (mkF m 191 #[.val (.long q0), .second, .val (.long q1), .second, .val (.long q2), .second, .val (.long q3), .second, .val (.int p4), .val (.int (2 : Int32)), .val (.ref b87), .val (.ref b95), .val (.int (1 : Int32))] [(.long q3), (.ref b95)])) rfl (by rw [hml]; rfl) (Steps.refl _) (argsL := [(.long q3)]) (rest := []) (lenOf pd_2 rfl) rfl (by show 2 * 0 + _ ≤ _; exact Nat.le_of_eq rfl) (hb hby at_191) (fun _ _ => ⟨rfl, e121, (by decide : 3 + 0 ≤ _), (by decide : 9 + 0 ≤ _)⟩)
      dsimp only [Pt.U, Pt.locs, Pt.cells, Pt.slots] at X125 l125 y125 z125 st125 hQ125
      subst l125 y125 z125
      obtain ⟨rfl, N125q, e125⟩ := hQ125
      have N125 := Fr.app N121 N125q
      have c126 : ∀ t, Steps p.tables e below (T125.setTop (mkF m 202 #[.val (.long q0), .second, .val (.long q1), .second, .val (.long q2), .second, .val (.long q3), .second, .val (.int p4), .val (.int (2 : Int32)), .val (.ref b87), .val (.ref b95), .val (.int (1 : Int32))] [(.long q3), (.int (2 : Int32)), (.long q2), (.long q1), (.long q0), (.int (own_lk (own_t2 (own_sN 62 q0) (own_sN 62 q1)) 4 (own_e [q0, q1] q3) 8 (own_sN 62 q3)))])) t → Steps p.tables e below (T125.setTop (mkF m 194 #[.val (.long q0), .second, .val (.long q1), .second, .val (.long q2), .second, .val (.long q3), .second, .val (.int p4), .val (.int (2 : Int32)), .val (.ref b87), .val (.ref b95), .val (.int (1 : Int32))] [(.int (own_lk (own_t2 (own_sN 62 q0) (own_sN 62 q1)) 4 (own_e [q0, q1] q3) 8 (own_sN 62 q3)))])) t := by
        intro t kt
        show Steps p.tables e below (T125.setTop (mkF m 194 #[.val (.long q0), .second, .val (.long q1), .second, .val (.long q2), .second, .val (.long q3), .second, .val (.int p4), .val (.int (2 : Int32)), .val (.ref b87), .val (.ref b95), .val (.int (1 : Int32))] [(.int (own_lk (own_t2 (own_sN 62 q0) (own_sN 62 q1)) 4 (own_e [q0, q1] q3) 8 (own_sN 62 q3)))])) _
        refine XS.lloadN X125.here hx rfl (hb hby at_194) rfl ?_
        show Steps p.tables e below (T125.setTop (mkF m 195 #[.val (.long q0), .second, .val (.long q1), .second, .val (.long q2), .second, .val (.long q3), .second, .val (.int p4), .val (.int (2 : Int32)), .val (.ref b87), .val (.ref b95), .val (.int (1 : Int32))] [(.long q0), (.int (own_lk (own_t2 (own_sN 62 q0) (own_sN 62 q1)) 4 (own_e [q0, q1] q3) 8 (own_sN 62 q3)))])) _
        refine XS.lloadN X125.here hx rfl (hb hby at_195) rfl ?_
        show Steps p.tables e below (T125.setTop (mkF m 196 #[.val (.long q0), .second, .val (.long q1), .second, .val (.long q2), .second, .val (.long q3), .second, .val (.int p4), .val (.int (2 : Int32)), .val (.ref b87), .val (.ref b95), .val (.int (1 : Int32))] [(.long q1), (.long q0), (.int (own_lk (own_t2 (own_sN 62 q0) (own_sN 62 q1)) 4 (own_e [q0, q1] q3) 8 (own_sN 62 q3)))])) _
        refine XS.lload X125.here hx rfl (hb hby at_196) rfl ?_
        show Steps p.tables e below (T125.setTop (mkF m 198 #[.val (.long q0), .second, .val (.long q1), .second, .val (.long q2), .second, .val (.long q3), .second, .val (.int p4), .val (.int (2 : Int32)), .val (.ref b87), .val (.ref b95), .val (.int (1 : Int32))] [(.long q2), (.long q1), (.long q0), (.int (own_lk (own_t2 (own_sN 62 q0) (own_sN 62 q1)) 4 (own_e [q0, q1] q3) 8 (own_sN 62 q3)))])) _
        refine XS.iload X125.here hx rfl (hb hby at_198) rfl ?_
        show Steps p.tables e below (T125.setTop (mkF m 200 #[.val (.long q0), .second, .val (.long q1), .second, .val (.long q2), .second, .val (.long q3), .second, .val (.int p4), .val (.int (2 : Int32)), .val (.ref b87), .val (.ref b95), .val (.int (1 : Int32))] [(.int (2 : Int32)), (.long q2), (.long q1), (.long q0), (.int (own_lk (own_t2 (own_sN 62 q0) (own_sN 62 q1)) 4 (own_e [q0, q1] q3) 8 (own_sN 62 q3)))])) _
        refine XS.lload X125.here hx rfl (hb hby at_200) rfl ?_
        exact kt
      obtain ⟨_, _, ⟨T127, L127, k127, n127⟩, -, X127, ⟨Lc127, hQ127, l127, y127, z127⟩, st127⟩ := Jvm.LawKit.callS X125 hx (y := (⟨"com/example/mapstone/mapstone/engine/ConceptIndexPlacePinLaw", "ref", "(JJJIJ)I"⟩ : MethodName)) hown (mvT hZ (hw _ (List.mem_of_getElem? (i := 41) rfl))) (mvT hZ (hw _ (List.mem_of_getElem? (i := 42) rfl))) (mvT hZ (hw _ (List.mem_of_getElem? (i := 43) rfl))) (mvT hZ (hw _ (List.mem_of_getElem? (i := 44) rfl))) (by decide) (backOf (W := 1) (rm8 l Z a0 hw [] q0 q1 q2 (2 : Int32) q3  T102.heap n0 f104 ) hZ (hw _ (List.mem_of_getElem? (i := 44) rfl)) (hw _ (List.mem_of_getElem? (i := 43) rfl)) (by decide) (by decide)) (g := (mkF m 202 #[.val (.long q0), .second, .val (.long q1), .second, .val (.long q2), .second, .val (.long q3), .second, .val (.int p4), .val (.int (2 : Int32)), .val (.ref b87), .val (.ref b95), .val (.int (1 : Int32))] [(.long q3), (.int (2 : Int32)), (.long q2), (.long q1), (.long q0), (.int (own_lk (own_t2 (own_sN 62 q0) (own_sN 62 q1)) 4 (own_e [q0, q1] q3) 8 (own_sN 62 q3)))])) rfl (by rw [hml]; rfl) (argsL := [(.long q0), (.long q1), (.long q2), (.int (2 : Int32)), (.long q3)]) (rest := [(.int (own_lk (own_t2 (own_sN 62 q0) (own_sN 62 q1)) 4 (own_e [q0, q1] q3) 8 (own_sN 62 q3)))]) (lenOf pd_4 rfl) rfl (by show 2 * 0 + _ ≤ _; exact Nat.le_of_eq rfl) (hb hby at_202) (fun _ _ => ⟨rfl, e125, (by decide : 3 + 0 ≤ _), (by decide : 9 + 0 ≤ _)⟩)
      dsimp only [Pt.U, Pt.locs, Pt.cells, Pt.slots] at X127 l127 y127 z127 st127 hQ127
      subst l127 y127 z127
      obtain ⟨rfl, N127q, e127⟩ := hQ127
      have N127 := Fr.app N125 N127q
      have hd128 : (own_lk (own_t2 (own_sN 62 q0) (own_sN 62 q1)) 4 (own_e [q0, q1] q3) 8 (own_sN 62 q3)) = (own_rf (2 : Int32) q0 q1 q2 q3) := own_k2 q0 q1 q2 _ hc15
      have c129 : ∀ t, Steps p.tables e below (T127.setTop (mkF m 217 #[.val (.long q0), .second, .val (.long q1), .second, .val (.long q2), .second, .val (.long q3), .second, .val (.int p4), .val (.int (2 : Int32)), .val (.ref b87), .val (.ref b95), .val (.int (1 : Int32))] [(.int (1 : Int32))])) t → Steps p.tables e below (T127.setTop (mkF m 205 #[.val (.long q0), .second, .val (.long q1), .second, .val (.long q2), .second, .val (.long q3), .second, .val (.int p4), .val (.int (2 : Int32)), .val (.ref b87), .val (.ref b95), .val (.int (1 : Int32))] [(.int (own_rf (2 : Int32) q0 q1 q2 q3)), (.int (own_lk (own_t2 (own_sN 62 q0) (own_sN 62 q1)) 4 (own_e [q0, q1] q3) 8 (own_sN 62 q3)))])) t := by
        intro t kt
        show Steps p.tables e below (T127.setTop (mkF m 205 #[.val (.long q0), .second, .val (.long q1), .second, .val (.long q2), .second, .val (.long q3), .second, .val (.int p4), .val (.int (2 : Int32)), .val (.ref b87), .val (.ref b95), .val (.int (1 : Int32))] [(.int (own_rf (2 : Int32) q0 q1 q2 q3)), (.int (own_lk (own_t2 (own_sN 62 q0) (own_sN 62 q1)) 4 (own_e [q0, q1] q3) 8 (own_sN 62 q3)))])) _
        refine XS.icmpNo X127.here hx rfl (hb hby at_205) rfl (teq (hd128)).2 ?_
        show Steps p.tables e below (T127.setTop (mkF m 208 #[.val (.long q0), .second, .val (.long q1), .second, .val (.long q2), .second, .val (.long q3), .second, .val (.int p4), .val (.int (2 : Int32)), .val (.ref b87), .val (.ref b95), .val (.int (1 : Int32))] [])) _
        refine XS.iconst X127.here hx rfl (hb hby at_208) ?_
        show Steps p.tables e below (T127.setTop (mkF m 209 #[.val (.long q0), .second, .val (.long q1), .second, .val (.long q2), .second, .val (.long q3), .second, .val (.int p4), .val (.int (2 : Int32)), .val (.ref b87), .val (.ref b95), .val (.int (1 : Int32))] [(.int (1 : Int32))])) _
        refine XS.goto X127.here hx rfl (pc0 := 209) (pc' := 213) rfl (hb hby at_209) (by decide) (by decide) ?_
        show Steps p.tables e below (T127.setTop (mkF m 213 #[.val (.long q0), .second, .val (.long q1), .second, .val (.long q2), .second, .val (.long q3), .second, .val (.int p4), .val (.int (2 : Int32)), .val (.ref b87), .val (.ref b95), .val (.int (1 : Int32))] [(.int (1 : Int32))])) _
        refine XS.istore X127.here hx rfl (hb hby at_213) rfl (l' := #[.val (.long q0), .second, .val (.long q1), .second, .val (.long q2), .second, .val (.long q3), .second, .val (.int p4), .val (.int (2 : Int32)), .val (.ref b87), .val (.ref b95), .val (.int (1 : Int32))]) rfl ?_
        show Steps p.tables e below (T127.setTop (mkF m 215 #[.val (.long q0), .second, .val (.long q1), .second, .val (.long q2), .second, .val (.long q3), .second, .val (.int p4), .val (.int (2 : Int32)), .val (.ref b87), .val (.ref b95), .val (.int (1 : Int32))] [])) _
        refine XS.iload X127.here hx rfl (hb hby at_215) rfl ?_
        exact kt
      obtain ⟨fs, hr, hrun, hended, hW, hsame⟩ := X127.leave (v := some (.int (1 : Int32))) (fun h => by rw [Bd.returns] at h; cases h)
      refine ⟨_, _, pre0 _ (c1 _ (c83 _ (c84 _ (c88 _ (st87 _ (c89 _ (st91 _ (c92 _ (st94 _ (c96 _ (st95 _ (c99 _ (st102.trans (c103 _ (st107.trans (c108 _ (st109 _ (c111 _ (st113.trans (c114 _ (st115 _ (c117 _ (st119.trans (c120 _ (st121 _ (c123 _ (st125.trans (c126 _ (st127 _ (c129 _ (?_))))))))))))))))))))))))))))))), hrun, hended, _, _, rfl, ?_, ⟨_, rfl⟩, hW, hsame.mono (by decide) (by decide)⟩
      · show Steps p.tables e below (T127.setTop (mkF m 217 #[.val (.long q0), .second, .val (.long q1), .second, .val (.long q2), .second, .val (.long q3), .second, .val (.int p4), .val (.int (2 : Int32)), .val (.ref b87), .val (.ref b95), .val (.int (1 : Int32))] [(.int (1 : Int32))])) _
        exact retN X127 hx (t := .boolean) Bd.returns (by simp) (hb hby at_217) hr
      · show Q0 Z q0 q1 q2 q3 p4 h0 n0 _ T127.heap _
        rw [e127]
        exact ⟨congrArg (fun z => some (Value.int z)) (show (1 : Int32) = (1 : Int32) from by rfl), N127⟩
  · skip
    have c131 : ∀ t, Steps p.tables e below (s₁.setTop (mkF m 6 #[.val (.long q0), .second, .val (.long q1), .second, .val (.long q2), .second, .val (.long q3), .second, .val (.int p4), .val (.int (3 : Int32)), .unset, .unset, .unset] [])) t → Steps p.tables e below (s₁.setTop (mkF m 6 #[.val (.long q0), .second, .val (.long q1), .second, .val (.long q2), .second, .val (.long q3), .second, .val (.int p4), .val (.int (p4 &&& (3 : Int32))), .unset, .unset, .unset] [])) t := fun t kt => castTop (congrArg (fun z => (mkF m 6 #[.val (.long q0), .second, .val (.long q1), .second, .val (.long q2), .second, .val (.long q3), .second, .val (.int p4), .val (.int z), .unset, .unset, .unset] [])) (show (p4 &&& (3 : Int32)) = (3 : Int32) from hsz)) kt
    have c132 : ∀ t, Steps p.tables e below (s₁.setTop (mkF m 15 #[.val (.long q0), .second, .val (.long q1), .second, .val (.long q2), .second, .val (.long q3), .second, .val (.int p4), .val (.int (3 : Int32)), .unset, .unset, .unset] [(.int (lcmpW q0 q1))])) t → Steps p.tables e below (s₁.setTop (mkF m 6 #[.val (.long q0), .second, .val (.long q1), .second, .val (.long q2), .second, .val (.long q3), .second, .val (.int p4), .val (.int (3 : Int32)), .unset, .unset, .unset] [])) t := by
      intro t kt
      show Steps p.tables e below (s₁.setTop (mkF m 6 #[.val (.long q0), .second, .val (.long q1), .second, .val (.long q2), .second, .val (.long q3), .second, .val (.int p4), .val (.int (3 : Int32)), .unset, .unset, .unset] [])) _
      refine XS.iload X0.here hx rfl (hb hby at_6) rfl ?_
      show Steps p.tables e below (s₁.setTop (mkF m 8 #[.val (.long q0), .second, .val (.long q1), .second, .val (.long q2), .second, .val (.long q3), .second, .val (.int p4), .val (.int (3 : Int32)), .unset, .unset, .unset] [(.int (3 : Int32))])) _
      refine XS.iconst X0.here hx rfl (hb hby at_8) ?_
      show Steps p.tables e below (s₁.setTop (mkF m 9 #[.val (.long q0), .second, .val (.long q1), .second, .val (.long q2), .second, .val (.long q3), .second, .val (.int p4), .val (.int (3 : Int32)), .unset, .unset, .unset] [(.int (1 : Int32)), (.int (3 : Int32))])) _
      refine XS.icmpNo X0.here hx rfl (hb hby at_9) rfl (tlt (by decide : (1 : Int32) < (3 : Int32))).2.2.2 ?_
      show Steps p.tables e below (s₁.setTop (mkF m 12 #[.val (.long q0), .second, .val (.long q1), .second, .val (.long q2), .second, .val (.long q3), .second, .val (.int p4), .val (.int (3 : Int32)), .unset, .unset, .unset] [])) _
      refine XS.lloadN X0.here hx rfl (hb hby at_12) rfl ?_
      show Steps p.tables e below (s₁.setTop (mkF m 13 #[.val (.long q0), .second, .val (.long q1), .second, .val (.long q2), .second, .val (.long q3), .second, .val (.int p4), .val (.int (3 : Int32)), .unset, .unset, .unset] [(.long q0)])) _
      refine XS.lloadN X0.here hx rfl (hb hby at_13) rfl ?_
      show Steps p.tables e below (s₁.setTop (mkF m 14 #[.val (.long q0), .second, .val (.long q1), .second, .val (.long q2), .second, .val (.long q3), .second, .val (.int p4), .val (.int (3 : Int32)), .unset, .unset, .unset] [(.long q1), (.long q0)])) _
      refine XS.lcmp X0.here hx rfl (hb hby at_14) rfl ?_
      exact kt
    by_cases hc15 : q0 = q1
    · -- it is
      have c133 : ∀ t, Steps p.tables e below (s₁.setTop (mkF m 19 #[.val (.long q0), .second, .val (.long q1), .second, .val (.long q2), .second, .val (.long q3), .second, .val (.int p4), .val (.int (3 : Int32)), .unset, .unset, .unset] [(.int (1 : Int32))])) t → Steps p.tables e below (s₁.setTop (mkF m 15 #[.val (.long q0), .second, .val (.long q1), .second, .val (.long q2), .second, .val (.long q3), .second, .val (.int p4), .val (.int (3 : Int32)), .unset, .unset, .unset] [(.int (lcmpW q0 q1))])) t := by
        intro t kt
        show Steps p.tables e below (s₁.setTop (mkF m 15 #[.val (.long q0), .second, .val (.long q1), .second, .val (.long q2), .second, .val (.long q3), .second, .val (.int p4), .val (.int (3 : Int32)), .unset, .unset, .unset] [(.int (lcmpW q0 q1))])) _
        refine XS.ifNo X0.here hx rfl (hb hby at_15) rfl ((if0 _ _).trans (teq ((lw_eq _ _).mpr hc15)).2) ?_
        show Steps p.tables e below (s₁.setTop (mkF m 18 #[.val (.long q0), .second, .val (.long q1), .second, .val (.long q2), .second, .val (.long q3), .second, .val (.int p4), .val (.int (3 : Int32)), .unset, .unset, .unset] [])) _
        refine XS.iconst X0.here hx rfl (hb hby at_18) ?_
        exact kt
      obtain ⟨fs, hr, hrun, hended, hW, hsame⟩ := X0.leave (v := some (.int (1 : Int32))) (fun h => by rw [Bd.returns] at h; cases h)
      refine ⟨_, _, pre0 _ (c1 _ (c131 _ (c132 _ (c133 _ (?_))))), hrun, hended, _, _, rfl, ?_, ⟨_, rfl⟩, hW, hsame.mono (by decide) (by decide)⟩
      · show Steps p.tables e below (s₁.setTop (mkF m 19 #[.val (.long q0), .second, .val (.long q1), .second, .val (.long q2), .second, .val (.long q3), .second, .val (.int p4), .val (.int (3 : Int32)), .unset, .unset, .unset] [(.int (1 : Int32))])) _
        exact retN X0 hx (t := .boolean) Bd.returns (by simp) (hb hby at_19) hr
      · show Q0 Z q0 q1 q2 q3 p4 h0 n0 _ s₁.heap _
        rw [e0]
        exact ⟨congrArg (fun z => some (Value.int z)) (show (1 : Int32) = (1 : Int32) from by rfl), N0⟩
    · -- it isn't
      have c135 : ∀ t, Steps p.tables e below (s₁.setTop (mkF m 30 #[.val (.long q0), .second, .val (.long q1), .second, .val (.long q2), .second, .val (.long q3), .second, .val (.int p4), .val (.int (3 : Int32)), .unset, .unset, .unset] [(.int (lcmpW q0 q2))])) t → Steps p.tables e below (s₁.setTop (mkF m 15 #[.val (.long q0), .second, .val (.long q1), .second, .val (.long q2), .second, .val (.long q3), .second, .val (.int p4), .val (.int (3 : Int32)), .unset, .unset, .unset] [(.int (lcmpW q0 q1))])) t := by
        intro t kt
        show Steps p.tables e below (s₁.setTop (mkF m 15 #[.val (.long q0), .second, .val (.long q1), .second, .val (.long q2), .second, .val (.long q3), .second, .val (.int p4), .val (.int (3 : Int32)), .unset, .unset, .unset] [(.int (lcmpW q0 q1))])) _
        refine XS.ifYes X0.here hx rfl (pc0 := 15) (pc' := 20) rfl (hb hby at_15) rfl ((if0 _ _).trans (feq (fun q => hc15 ((lw_eq _ _).mp q))).2) (by decide) (by decide) ?_
        show Steps p.tables e below (s₁.setTop (mkF m 20 #[.val (.long q0), .second, .val (.long q1), .second, .val (.long q2), .second, .val (.long q3), .second, .val (.int p4), .val (.int (3 : Int32)), .unset, .unset, .unset] [])) _
        refine XS.iload X0.here hx rfl (hb hby at_20) rfl ?_
        show Steps p.tables e below (s₁.setTop (mkF m 22 #[.val (.long q0), .second, .val (.long q1), .second, .val (.long q2), .second, .val (.long q3), .second, .val (.int p4), .val (.int (3 : Int32)), .unset, .unset, .unset] [(.int (3 : Int32))])) _
        refine XS.iconst X0.here hx rfl (hb hby at_22) ?_
        show Steps p.tables e below (s₁.setTop (mkF m 23 #[.val (.long q0), .second, .val (.long q1), .second, .val (.long q2), .second, .val (.long q3), .second, .val (.int p4), .val (.int (3 : Int32)), .unset, .unset, .unset] [(.int (2 : Int32)), (.int (3 : Int32))])) _
        refine XS.icmpNo X0.here hx rfl (hb hby at_23) rfl (tlt (by decide : (2 : Int32) < (3 : Int32))).2.2.2 ?_
        show Steps p.tables e below (s₁.setTop (mkF m 26 #[.val (.long q0), .second, .val (.long q1), .second, .val (.long q2), .second, .val (.long q3), .second, .val (.int p4), .val (.int (3 : Int32)), .unset, .unset, .unset] [])) _
        refine XS.lloadN X0.here hx rfl (hb hby at_26) rfl ?_
        show Steps p.tables e below (s₁.setTop (mkF m 27 #[.val (.long q0), .second, .val (.long q1), .second, .val (.long q2), .second, .val (.long q3), .second, .val (.int p4), .val (.int (3 : Int32)), .unset, .unset, .unset] [(.long q0)])) _
        refine XS.lload X0.here hx rfl (hb hby at_27) rfl ?_
        show Steps p.tables e below (s₁.setTop (mkF m 29 #[.val (.long q0), .second, .val (.long q1), .second, .val (.long q2), .second, .val (.long q3), .second, .val (.int p4), .val (.int (3 : Int32)), .unset, .unset, .unset] [(.long q2), (.long q0)])) _
        refine XS.lcmp X0.here hx rfl (hb hby at_29) rfl ?_
        exact kt
      by_cases hc30 : q0 = q2
      · -- it is
        have c136 : ∀ t, Steps p.tables e below (s₁.setTop (mkF m 41 #[.val (.long q0), .second, .val (.long q1), .second, .val (.long q2), .second, .val (.long q3), .second, .val (.int p4), .val (.int (3 : Int32)), .unset, .unset, .unset] [(.int (1 : Int32))])) t → Steps p.tables e below (s₁.setTop (mkF m 30 #[.val (.long q0), .second, .val (.long q1), .second, .val (.long q2), .second, .val (.long q3), .second, .val (.int p4), .val (.int (3 : Int32)), .unset, .unset, .unset] [(.int (lcmpW q0 q2))])) t := by
          intro t kt
          show Steps p.tables e below (s₁.setTop (mkF m 30 #[.val (.long q0), .second, .val (.long q1), .second, .val (.long q2), .second, .val (.long q3), .second, .val (.int p4), .val (.int (3 : Int32)), .unset, .unset, .unset] [(.int (lcmpW q0 q2))])) _
          refine XS.ifYes X0.here hx rfl (pc0 := 30) (pc' := 40) rfl (hb hby at_30) rfl ((if0 _ _).trans (teq ((lw_eq _ _).mpr hc30)).1) (by decide) (by decide) ?_
          show Steps p.tables e below (s₁.setTop (mkF m 40 #[.val (.long q0), .second, .val (.long q1), .second, .val (.long q2), .second, .val (.long q3), .second, .val (.int p4), .val (.int (3 : Int32)), .unset, .unset, .unset] [])) _
          refine XS.iconst X0.here hx rfl (hb hby at_40) ?_
          exact kt
        obtain ⟨fs, hr, hrun, hended, hW, hsame⟩ := X0.leave (v := some (.int (1 : Int32))) (fun h => by rw [Bd.returns] at h; cases h)
        refine ⟨_, _, pre0 _ (c1 _ (c131 _ (c132 _ (c135 _ (c136 _ (?_)))))), hrun, hended, _, _, rfl, ?_, ⟨_, rfl⟩, hW, hsame.mono (by decide) (by decide)⟩
        · show Steps p.tables e below (s₁.setTop (mkF m 41 #[.val (.long q0), .second, .val (.long q1), .second, .val (.long q2), .second, .val (.long q3), .second, .val (.int p4), .val (.int (3 : Int32)), .unset, .unset, .unset] [(.int (1 : Int32))])) _
          exact retN X0 hx (t := .boolean) Bd.returns (by simp) (hb hby at_41) hr
        · show Q0 Z q0 q1 q2 q3 p4 h0 n0 _ s₁.heap _
          rw [e0]
          exact ⟨congrArg (fun z => some (Value.int z)) (show (1 : Int32) = (1 : Int32) from by rfl), N0⟩
      · -- it isn't
        have c138 : ∀ t, Steps p.tables e below (s₁.setTop (mkF m 37 #[.val (.long q0), .second, .val (.long q1), .second, .val (.long q2), .second, .val (.long q3), .second, .val (.int p4), .val (.int (3 : Int32)), .unset, .unset, .unset] [(.int (lcmpW q1 q2))])) t → Steps p.tables e below (s₁.setTop (mkF m 30 #[.val (.long q0), .second, .val (.long q1), .second, .val (.long q2), .second, .val (.long q3), .second, .val (.int p4), .val (.int (3 : Int32)), .unset, .unset, .unset] [(.int (lcmpW q0 q2))])) t := by
          intro t kt
          show Steps p.tables e below (s₁.setTop (mkF m 30 #[.val (.long q0), .second, .val (.long q1), .second, .val (.long q2), .second, .val (.long q3), .second, .val (.int p4), .val (.int (3 : Int32)), .unset, .unset, .unset] [(.int (lcmpW q0 q2))])) _
          refine XS.ifNo X0.here hx rfl (hb hby at_30) rfl ((if0 _ _).trans (feq (fun q => hc30 ((lw_eq _ _).mp q))).1) ?_
          show Steps p.tables e below (s₁.setTop (mkF m 33 #[.val (.long q0), .second, .val (.long q1), .second, .val (.long q2), .second, .val (.long q3), .second, .val (.int p4), .val (.int (3 : Int32)), .unset, .unset, .unset] [])) _
          refine XS.lloadN X0.here hx rfl (hb hby at_33) rfl ?_
          show Steps p.tables e below (s₁.setTop (mkF m 34 #[.val (.long q0), .second, .val (.long q1), .second, .val (.long q2), .second, .val (.long q3), .second, .val (.int p4), .val (.int (3 : Int32)), .unset, .unset, .unset] [(.long q1)])) _
          refine XS.lload X0.here hx rfl (hb hby at_34) rfl ?_
          show Steps p.tables e below (s₁.setTop (mkF m 36 #[.val (.long q0), .second, .val (.long q1), .second, .val (.long q2), .second, .val (.long q3), .second, .val (.int p4), .val (.int (3 : Int32)), .unset, .unset, .unset] [(.long q2), (.long q1)])) _
          refine XS.lcmp X0.here hx rfl (hb hby at_36) rfl ?_
          exact kt
        by_cases hc37 : q1 = q2
        · -- it is
          have c139 : ∀ t, Steps p.tables e below (s₁.setTop (mkF m 41 #[.val (.long q0), .second, .val (.long q1), .second, .val (.long q2), .second, .val (.long q3), .second, .val (.int p4), .val (.int (3 : Int32)), .unset, .unset, .unset] [(.int (1 : Int32))])) t → Steps p.tables e below (s₁.setTop (mkF m 37 #[.val (.long q0), .second, .val (.long q1), .second, .val (.long q2), .second, .val (.long q3), .second, .val (.int p4), .val (.int (3 : Int32)), .unset, .unset, .unset] [(.int (lcmpW q1 q2))])) t := by
            intro t kt
            show Steps p.tables e below (s₁.setTop (mkF m 37 #[.val (.long q0), .second, .val (.long q1), .second, .val (.long q2), .second, .val (.long q3), .second, .val (.int p4), .val (.int (3 : Int32)), .unset, .unset, .unset] [(.int (lcmpW q1 q2))])) _
            refine XS.ifNo X0.here hx rfl (hb hby at_37) rfl ((if0 _ _).trans (teq ((lw_eq _ _).mpr hc37)).2) ?_
            show Steps p.tables e below (s₁.setTop (mkF m 40 #[.val (.long q0), .second, .val (.long q1), .second, .val (.long q2), .second, .val (.long q3), .second, .val (.int p4), .val (.int (3 : Int32)), .unset, .unset, .unset] [])) _
            refine XS.iconst X0.here hx rfl (hb hby at_40) ?_
            exact kt
          obtain ⟨fs, hr, hrun, hended, hW, hsame⟩ := X0.leave (v := some (.int (1 : Int32))) (fun h => by rw [Bd.returns] at h; cases h)
          refine ⟨_, _, pre0 _ (c1 _ (c131 _ (c132 _ (c135 _ (c138 _ (c139 _ (?_))))))), hrun, hended, _, _, rfl, ?_, ⟨_, rfl⟩, hW, hsame.mono (by decide) (by decide)⟩
          · show Steps p.tables e below (s₁.setTop (mkF m 41 #[.val (.long q0), .second, .val (.long q1), .second, .val (.long q2), .second, .val (.long q3), .second, .val (.int p4), .val (.int (3 : Int32)), .unset, .unset, .unset] [(.int (1 : Int32))])) _
            exact retN X0 hx (t := .boolean) Bd.returns (by simp) (hb hby at_41) hr
          · show Q0 Z q0 q1 q2 q3 p4 h0 n0 _ s₁.heap _
            rw [e0]
            exact ⟨congrArg (fun z => some (Value.int z)) (show (1 : Int32) = (1 : Int32) from by rfl), N0⟩
        · -- it isn't
          have c142 : ∀ t, Steps p.tables e below (s₁.setTop (mkF m 44 #[.val (.long q0), .second, .val (.long q1), .second, .val (.long q2), .second, .val (.long q3), .second, .val (.int p4), .val (.int (3 : Int32)), .unset, .unset, .unset] [(.int (3 : Int32))])) t → Steps p.tables e below (s₁.setTop (mkF m 37 #[.val (.long q0), .second, .val (.long q1), .second, .val (.long q2), .second, .val (.long q3), .second, .val (.int p4), .val (.int (3 : Int32)), .unset, .unset, .unset] [(.int (lcmpW q1 q2))])) t := by
            intro t kt
            show Steps p.tables e below (s₁.setTop (mkF m 37 #[.val (.long q0), .second, .val (.long q1), .second, .val (.long q2), .second, .val (.long q3), .second, .val (.int p4), .val (.int (3 : Int32)), .unset, .unset, .unset] [(.int (lcmpW q1 q2))])) _
            refine XS.ifYes X0.here hx rfl (pc0 := 37) (pc' := 42) rfl (hb hby at_37) rfl ((if0 _ _).trans (feq (fun q => hc37 ((lw_eq _ _).mp q))).2) (by decide) (by decide) ?_
            show Steps p.tables e below (s₁.setTop (mkF m 42 #[.val (.long q0), .second, .val (.long q1), .second, .val (.long q2), .second, .val (.long q3), .second, .val (.int p4), .val (.int (3 : Int32)), .unset, .unset, .unset] [])) _
            refine XS.iload X0.here hx rfl (hb hby at_42) rfl ?_
            exact kt
          obtain ⟨T141, h141, k141, X141, e141, E141, A141, st141⟩ := newP X0 hx hZ (hw _ (List.mem_of_getElem? (i := 0) rfl)) e0 (g := (mkF m 44 #[.val (.long q0), .second, .val (.long q1), .second, .val (.long q2), .second, .val (.long q3), .second, .val (.int p4), .val (.int (3 : Int32)), .unset, .unset, .unset] [(.int (3 : Int32))])) rfl (hb hby at_44) rfl (by decide) (cap := 3) (by decide) (by decide) (by decide) (by decide)
          obtain ⟨b141, g141⟩ : ∃ z, z = h0.size := ⟨_, rfl⟩
          rw [← g141] at A141 st141
          have g_b141 : n0 ≤ b141 := Nat.le_trans Z0 (Nat.le_of_eq g141.symm)
          have sz_b141 : h0.size ≤ b141 := Nat.le_trans (Keep.refl h0 []).1 (Nat.le_of_eq g141.symm)
          have V141 : Arv Z h141 b141 k141 .long (3 : Int32) [(.long (0 : Int64)), (.long (0 : Int64)), (.long (0 : Int64))] (.long (0 : Int64)) := (Arv.new A141 (by decide)).pad (pad_rep [] (.long (0 : Int64)) 3)
          have c143 : ∀ t, Steps p.tables e below (T141.setTop (mkF m 57 #[.val (.long q0), .second, .val (.long q1), .second, .val (.long q2), .second, .val (.long q3), .second, .val (.int p4), .val (.int (3 : Int32)), .val (.ref b141), .unset, .unset] [(.long q0), (.int (0 : Int32)), (.ref b141)])) t → Steps p.tables e below (T141.setTop (mkF m 46 #[.val (.long q0), .second, .val (.long q1), .second, .val (.long q2), .second, .val (.long q3), .second, .val (.int p4), .val (.int (3 : Int32)), .unset, .unset, .unset] [(.ref b141)])) t := by
            intro t kt
            show Steps p.tables e below (T141.setTop (mkF m 46 #[.val (.long q0), .second, .val (.long q1), .second, .val (.long q2), .second, .val (.long q3), .second, .val (.int p4), .val (.int (3 : Int32)), .unset, .unset, .unset] [(.ref b141)])) _
            refine XS.astore X141.here hx rfl (hb hby at_46) rfl rfl (l' := #[.val (.long q0), .second, .val (.long q1), .second, .val (.long q2), .second, .val (.long q3), .second, .val (.int p4), .val (.int (3 : Int32)), .val (.ref b141), .unset, .unset]) rfl ?_
            show Steps p.tables e below (T141.setTop (mkF m 48 #[.val (.long q0), .second, .val (.long q1), .second, .val (.long q2), .second, .val (.long q3), .second, .val (.int p4), .val (.int (3 : Int32)), .val (.ref b141), .unset, .unset] [])) _
            refine XS.iload X141.here hx rfl (hb hby at_48) rfl ?_
            show Steps p.tables e below (T141.setTop (mkF m 50 #[.val (.long q0), .second, .val (.long q1), .second, .val (.long q2), .second, .val (.long q3), .second, .val (.int p4), .val (.int (3 : Int32)), .val (.ref b141), .unset, .unset] [(.int (3 : Int32))])) _
            refine XS.ifNo X141.here hx rfl (hb hby at_50) rfl ((if0 _ _).trans (tlt (by decide : (0 : Int32) < (3 : Int32))).2.2.2) ?_
            show Steps p.tables e below (T141.setTop (mkF m 53 #[.val (.long q0), .second, .val (.long q1), .second, .val (.long q2), .second, .val (.long q3), .second, .val (.int p4), .val (.int (3 : Int32)), .val (.ref b141), .unset, .unset] [])) _
            refine XS.aload X141.here hx rfl (hb hby at_53) rfl rfl ?_
            show Steps p.tables e below (T141.setTop (mkF m 55 #[.val (.long q0), .second, .val (.long q1), .second, .val (.long q2), .second, .val (.long q3), .second, .val (.int p4), .val (.int (3 : Int32)), .val (.ref b141), .unset, .unset] [(.ref b141)])) _
            refine XS.iconst X141.here hx rfl (hb hby at_55) ?_
            show Steps p.tables e below (T141.setTop (mkF m 56 #[.val (.long q0), .second, .val (.long q1), .second, .val (.long q2), .second, .val (.long q3), .second, .val (.int p4), .val (.int (3 : Int32)), .val (.ref b141), .unset, .unset] [(.int (0 : Int32)), (.ref b141)])) _
            refine XS.lloadN X141.here hx rfl (hb hby at_56) rfl ?_
            exact kt
          have Vc144 := V141
          obtain ⟨cl144, Ar144, qk144, S144, M144, H144, G144⟩ := Vc144
          have hin144 : ¬ ((0 : Int32) < 0 ∨ cl144.slots.size ≤ ((0 : Int32)).toNatClampNeg) := inb_of S144 ⟨by decide, by decide⟩
          obtain ⟨T145, h145, X145, e145, W145, st145⟩ := stJ X141 hx hZ e141 Ar144 (j := (0 : Int32)) hin144 (g := (mkF m 57 #[.val (.long q0), .second, .val (.long q1), .second, .val (.long q2), .second, .val (.long q3), .second, .val (.int p4), .val (.int (3 : Int32)), .val (.ref b141), .unset, .unset] [(.long q0), (.int (0 : Int32)), (.ref b141)])) rfl rfl (hb hby at_57)
          have V145 : Arv Z h145 b141 k141 .long (3 : Int32) [(.long q0), (.long (0 : Int64)), (.long (0 : Int64))] (.long (0 : Int64)) := Arv.set Ar144 qk144 S144 M144 H144 G144 rfl W145 0 rfl (Nat.le_of_ble_eq_true rfl)
          have N145 := Fr.snoc X145 N0 g_b141
          have c146 : ∀ t, Steps p.tables e below (T145.setTop (mkF m 68 #[.val (.long q0), .second, .val (.long q1), .second, .val (.long q2), .second, .val (.long q3), .second, .val (.int p4), .val (.int (3 : Int32)), .val (.ref b141), .unset, .unset] [(.long q1), (.int (1 : Int32)), (.ref b141)])) t → Steps p.tables e below (T145.setTop (mkF m 58 #[.val (.long q0), .second, .val (.long q1), .second, .val (.long q2), .second, .val (.long q3), .second, .val (.int p4), .val (.int (3 : Int32)), .val (.ref b141), .unset, .unset] [])) t := by
            intro t kt
            show Steps p.tables e below (T145.setTop (mkF m 58 #[.val (.long q0), .second, .val (.long q1), .second, .val (.long q2), .second, .val (.long q3), .second, .val (.int p4), .val (.int (3 : Int32)), .val (.ref b141), .unset, .unset] [])) _
            refine XS.iload X145.here hx rfl (hb hby at_58) rfl ?_
            show Steps p.tables e below (T145.setTop (mkF m 60 #[.val (.long q0), .second, .val (.long q1), .second, .val (.long q2), .second, .val (.long q3), .second, .val (.int p4), .val (.int (3 : Int32)), .val (.ref b141), .unset, .unset] [(.int (3 : Int32))])) _
            refine XS.iconst X145.here hx rfl (hb hby at_60) ?_
            show Steps p.tables e below (T145.setTop (mkF m 61 #[.val (.long q0), .second, .val (.long q1), .second, .val (.long q2), .second, .val (.long q3), .second, .val (.int p4), .val (.int (3 : Int32)), .val (.ref b141), .unset, .unset] [(.int (1 : Int32)), (.int (3 : Int32))])) _
            refine XS.icmpNo X145.here hx rfl (hb hby at_61) rfl (tlt (by decide : (1 : Int32) < (3 : Int32))).2.2.2 ?_
            show Steps p.tables e below (T145.setTop (mkF m 64 #[.val (.long q0), .second, .val (.long q1), .second, .val (.long q2), .second, .val (.long q3), .second, .val (.int p4), .val (.int (3 : Int32)), .val (.ref b141), .unset, .unset] [])) _
            refine XS.aload X145.here hx rfl (hb hby at_64) rfl rfl ?_
            show Steps p.tables e below (T145.setTop (mkF m 66 #[.val (.long q0), .second, .val (.long q1), .second, .val (.long q2), .second, .val (.long q3), .second, .val (.int p4), .val (.int (3 : Int32)), .val (.ref b141), .unset, .unset] [(.ref b141)])) _
            refine XS.iconst X145.here hx rfl (hb hby at_66) ?_
            show Steps p.tables e below (T145.setTop (mkF m 67 #[.val (.long q0), .second, .val (.long q1), .second, .val (.long q2), .second, .val (.long q3), .second, .val (.int p4), .val (.int (3 : Int32)), .val (.ref b141), .unset, .unset] [(.int (1 : Int32)), (.ref b141)])) _
            refine XS.lloadN X145.here hx rfl (hb hby at_67) rfl ?_
            exact kt
          have Vc147 := V145
          obtain ⟨cl147, Ar147, qk147, S147, M147, H147, G147⟩ := Vc147
          have hin147 : ¬ ((1 : Int32) < 0 ∨ cl147.slots.size ≤ ((1 : Int32)).toNatClampNeg) := inb_of S147 ⟨by decide, by decide⟩
          obtain ⟨T148, h148, X148, e148, W148, st148⟩ := stJ X145 hx hZ e145 Ar147 (j := (1 : Int32)) hin147 (g := (mkF m 68 #[.val (.long q0), .second, .val (.long q1), .second, .val (.long q2), .second, .val (.long q3), .second, .val (.int p4), .val (.int (3 : Int32)), .val (.ref b141), .unset, .unset] [(.long q1), (.int (1 : Int32)), (.ref b141)])) rfl rfl (hb hby at_68)
          have V148 : Arv Z h148 b141 k141 .long (3 : Int32) [(.long q0), (.long q1), (.long (0 : Int64))] (.long (0 : Int64)) := Arv.set Ar147 qk147 S147 M147 H147 G147 rfl W148 1 rfl (Nat.le_of_ble_eq_true rfl)
          have N148 := Fr.snoc X148 N145 g_b141
          have c149 : ∀ t, Steps p.tables e below (T148.setTop (mkF m 80 #[.val (.long q0), .second, .val (.long q1), .second, .val (.long q2), .second, .val (.long q3), .second, .val (.int p4), .val (.int (3 : Int32)), .val (.ref b141), .unset, .unset] [(.long q2), (.int (2 : Int32)), (.ref b141)])) t → Steps p.tables e below (T148.setTop (mkF m 69 #[.val (.long q0), .second, .val (.long q1), .second, .val (.long q2), .second, .val (.long q3), .second, .val (.int p4), .val (.int (3 : Int32)), .val (.ref b141), .unset, .unset] [])) t := by
            intro t kt
            show Steps p.tables e below (T148.setTop (mkF m 69 #[.val (.long q0), .second, .val (.long q1), .second, .val (.long q2), .second, .val (.long q3), .second, .val (.int p4), .val (.int (3 : Int32)), .val (.ref b141), .unset, .unset] [])) _
            refine XS.iload X148.here hx rfl (hb hby at_69) rfl ?_
            show Steps p.tables e below (T148.setTop (mkF m 71 #[.val (.long q0), .second, .val (.long q1), .second, .val (.long q2), .second, .val (.long q3), .second, .val (.int p4), .val (.int (3 : Int32)), .val (.ref b141), .unset, .unset] [(.int (3 : Int32))])) _
            refine XS.iconst X148.here hx rfl (hb hby at_71) ?_
            show Steps p.tables e below (T148.setTop (mkF m 72 #[.val (.long q0), .second, .val (.long q1), .second, .val (.long q2), .second, .val (.long q3), .second, .val (.int p4), .val (.int (3 : Int32)), .val (.ref b141), .unset, .unset] [(.int (2 : Int32)), (.int (3 : Int32))])) _
            refine XS.icmpNo X148.here hx rfl (hb hby at_72) rfl (tlt (by decide : (2 : Int32) < (3 : Int32))).2.2.2 ?_
            show Steps p.tables e below (T148.setTop (mkF m 75 #[.val (.long q0), .second, .val (.long q1), .second, .val (.long q2), .second, .val (.long q3), .second, .val (.int p4), .val (.int (3 : Int32)), .val (.ref b141), .unset, .unset] [])) _
            refine XS.aload X148.here hx rfl (hb hby at_75) rfl rfl ?_
            show Steps p.tables e below (T148.setTop (mkF m 77 #[.val (.long q0), .second, .val (.long q1), .second, .val (.long q2), .second, .val (.long q3), .second, .val (.int p4), .val (.int (3 : Int32)), .val (.ref b141), .unset, .unset] [(.ref b141)])) _
            refine XS.iconst X148.here hx rfl (hb hby at_77) ?_
            show Steps p.tables e below (T148.setTop (mkF m 78 #[.val (.long q0), .second, .val (.long q1), .second, .val (.long q2), .second, .val (.long q3), .second, .val (.int p4), .val (.int (3 : Int32)), .val (.ref b141), .unset, .unset] [(.int (2 : Int32)), (.ref b141)])) _
            refine XS.lload X148.here hx rfl (hb hby at_78) rfl ?_
            exact kt
          have Vc150 := V148
          obtain ⟨cl150, Ar150, qk150, S150, M150, H150, G150⟩ := Vc150
          have hin150 : ¬ ((2 : Int32) < 0 ∨ cl150.slots.size ≤ ((2 : Int32)).toNatClampNeg) := inb_of S150 ⟨by decide, by decide⟩
          obtain ⟨T151, h151, X151, e151, W151, st151⟩ := stJ X148 hx hZ e148 Ar150 (j := (2 : Int32)) hin150 (g := (mkF m 80 #[.val (.long q0), .second, .val (.long q1), .second, .val (.long q2), .second, .val (.long q3), .second, .val (.int p4), .val (.int (3 : Int32)), .val (.ref b141), .unset, .unset] [(.long q2), (.int (2 : Int32)), (.ref b141)])) rfl rfl (hb hby at_80)
          have V151 : Arv Z h151 b141 k141 .long (3 : Int32) [(.long q0), (.long q1), (.long q2)] (.long (0 : Int64)) := Arv.set Ar150 qk150 S150 M150 H150 G150 rfl W151 2 rfl (Nat.le_of_ble_eq_true rfl)
          have N151 := Fr.snoc X151 N148 g_b141
          obtain ⟨T152, h152, X152, e152, E152, A152, D152, U152, st152⟩ := newO X151 hx hZ hown (hw _ (List.mem_of_getElem? (i := 1) rfl)) (hw _ (List.mem_of_getElem? (i := 2) rfl)) (hw _ (List.mem_of_getElem? (i := 3) rfl)) e151 (g := (mkF m 81 #[.val (.long q0), .second, .val (.long q1), .second, .val (.long q2), .second, .val (.long q3), .second, .val (.int p4), .val (.int (3 : Int32)), .val (.ref b141), .unset, .unset] [])) rfl (hb hby at_81) (by decide) (by decide)
          obtain ⟨b152, g152⟩ : ∃ z, z = h151.size := ⟨_, rfl⟩
          rw [← g152] at A152 D152 U152 st152
          have f153 := (Nat.le_trans (Nat.le_trans (Nat.le_trans (Nat.le_trans Z0 E141.1) (Keep.of_wr W145).1) (Keep.of_wr W148).1) (Keep.of_wr W151).1)
          have f154 := (((((Keep.refl h0 []).ext E141).wr W145 (Or.inr sz_b141)).wr W148 (Or.inr sz_b141)).wr W151 (Or.inr sz_b141))
          have g_b152 : n0 ≤ b152 := Nat.le_trans f153 (Nat.le_of_eq g152.symm)
          have sz_b152 : h0.size ≤ b152 := Nat.le_trans f154.1 (Nat.le_of_eq g152.symm)
          have lt_b141_152 := V151.lt
          have F152_concepts : Fld Z h152 b152 "com/example/mapstone/mapstone/engine/ConceptIndex" "concepts" "[J" .null := D152 (Or.inr (hw _ (List.mem_of_getElem? (i := 11) rfl))) (ty := (.array .long)) (by decide)
          have F152_slots : Fld Z h152 b152 "com/example/mapstone/mapstone/engine/ConceptIndex" "slots" "[I" .null := D152 (Or.inr (hw _ (List.mem_of_getElem? (i := 28) rfl))) (ty := (.array .int)) (by decide)
          have F152_shift : Fld Z h152 b152 "com/example/mapstone/mapstone/engine/ConceptIndex" "shift" "I" (.int (0 : Int32)) := D152 (Or.inr (hw _ (List.mem_of_getElem? (i := 30) rfl))) (ty := .int) (by decide)
          have c155 : ∀ t, Steps p.tables e below (T152.setTop (mkF m 87 #[.val (.long q0), .second, .val (.long q1), .second, .val (.long q2), .second, .val (.long q3), .second, .val (.int p4), .val (.int (3 : Int32)), .val (.ref b141), .unset, .unset] [(.ref b141), (.ref b152), (.ref b152)])) t → Steps p.tables e below (T152.setTop (mkF m 84 #[.val (.long q0), .second, .val (.long q1), .second, .val (.long q2), .second, .val (.long q3), .second, .val (.int p4), .val (.int (3 : Int32)), .val (.ref b141), .unset, .unset] [(.ref b152)])) t := by
            intro t kt
            show Steps p.tables e below (T152.setTop (mkF m 84 #[.val (.long q0), .second, .val (.long q1), .second, .val (.long q2), .second, .val (.long q3), .second, .val (.int p4), .val (.int (3 : Int32)), .val (.ref b141), .unset, .unset] [(.ref b152)])) _
            refine XS.dup X152.here hx rfl (hb hby at_84) rfl rfl ?_
            show Steps p.tables e below (T152.setTop (mkF m 85 #[.val (.long q0), .second, .val (.long q1), .second, .val (.long q2), .second, .val (.long q3), .second, .val (.int p4), .val (.int (3 : Int32)), .val (.ref b141), .unset, .unset] [(.ref b152), (.ref b152)])) _
            refine XS.aload X152.here hx rfl (hb hby at_85) rfl rfl ?_
            exact kt
          have f156 := (Nat.le_trans f153 E152.1)
          have f157 := (V151.ext E152)
          obtain ⟨_, _, ⟨T158, L158, k158, n158⟩, -, X158, ⟨Lc158, hQ158, l158, y158, z158⟩, st158⟩ := X152.specialBack hx (y := (⟨"com/example/mapstone/mapstone/engine/ConceptIndex", "<init>", "([J)V"⟩ : MethodName)) rfl hown (mvT hZ (hw _ (List.mem_of_getElem? (i := 4) rfl))) (mvT hZ (hw _ (List.mem_of_getElem? (i := 5) rfl))) (mvT hZ (hw _ (List.mem_of_getElem? (i := 6) rfl))) (by decide) (backOf (W := 1) (rm1_3 l Z a0 hw [] b152 b141 k141 q0 q1 q2 (.long (0 : Int64)) h152 n0 f156 f157 F152_concepts F152_slots F152_shift A152 g_b152 (Nat.ne_of_lt (Nat.lt_of_lt_of_le lt_b141_152 (Nat.le_of_eq g152.symm)))) hZ (hw _ (List.mem_of_getElem? (i := 6) rfl)) (hw _ (List.mem_of_getElem? (i := 3) rfl)) (by decide) (by decide)) (g := (mkF m 87 #[.val (.long q0), .second, .val (.long q1), .second, .val (.long q2), .second, .val (.long q3), .second, .val (.int p4), .val (.int (3 : Int32)), .val (.ref b141), .unset, .unset] [(.ref b141), (.ref b152), (.ref b152)])) rfl (by rw [hml]; rfl) (Steps.refl _) (a := b152) (argsL := [(.ref b141)]) (rest := [(.ref b152)]) (lenOf pd_3 rfl) rfl (by show 2 * 0 + _ ≤ _; exact Nat.le_of_eq rfl) (hb hby at_87) (fun _ _ => ⟨rfl, e152, (by decide : 2 + 1 ≤ _), (by decide : 6 + 8 ≤ _)⟩)
          dsimp only [Pt.U, Pt.locs, Pt.cells, Pt.slots] at X158 l158 y158 z158 st158 hQ158
          subst l158 y158 z158
          obtain ⟨os158, ks158, rfl, N158q, Kq158, Eq158, Fc158, Fs158, Fh158, Vs158⟩ := hQ158
          have N158 := Fr.app N151 N158q
          have hok : own_ok (own_t3 (own_sN 61 q0) (own_sN 61 q1) (own_sN 61 q2)) 8 3 := own_mk _ _ _ (own_c3 _ (own_slotv 61 q0 0 8 (by decide)).2 _ (own_slotv 61 q1 0 8 (by decide)).2 _ (own_slotv 61 q2 0 8 (by decide)).2).1 (own_c3 _ (own_slotv 61 q0 0 8 (by decide)).2 _ (own_slotv 61 q1 0 8 (by decide)).2 _ (own_slotv 61 q2 0 8 (by decide)).2).2.1 (own_c3 _ (own_slotv 61 q0 0 8 (by decide)).2 _ (own_slotv 61 q1 0 8 (by decide)).2 _ (own_slotv 61 q2 0 8 (by decide)).2).2.2
          have c159 : ∀ t, Steps p.tables e below (T158.setTop (mkF m 95 #[.val (.long q0), .second, .val (.long q1), .second, .val (.long q2), .second, .val (.long q3), .second, .val (.int p4), .val (.int (3 : Int32)), .val (.ref b141), .val (.ref b152), .unset] [(.long q0), (.ref b152)])) t → Steps p.tables e below (T158.setTop (mkF m 90 #[.val (.long q0), .second, .val (.long q1), .second, .val (.long q2), .second, .val (.long q3), .second, .val (.int p4), .val (.int (3 : Int32)), .val (.ref b141), .unset, .unset] [(.ref b152)])) t := by
            intro t kt
            show Steps p.tables e below (T158.setTop (mkF m 90 #[.val (.long q0), .second, .val (.long q1), .second, .val (.long q2), .second, .val (.long q3), .second, .val (.int p4), .val (.int (3 : Int32)), .val (.ref b141), .unset, .unset] [(.ref b152)])) _
            refine XS.astore X158.here hx rfl (hb hby at_90) rfl rfl (l' := #[.val (.long q0), .second, .val (.long q1), .second, .val (.long q2), .second, .val (.long q3), .second, .val (.int p4), .val (.int (3 : Int32)), .val (.ref b141), .val (.ref b152), .unset]) rfl ?_
            show Steps p.tables e below (T158.setTop (mkF m 92 #[.val (.long q0), .second, .val (.long q1), .second, .val (.long q2), .second, .val (.long q3), .second, .val (.int p4), .val (.int (3 : Int32)), .val (.ref b141), .val (.ref b152), .unset] [])) _
            refine XS.aload X158.here hx rfl (hb hby at_92) rfl rfl ?_
            show Steps p.tables e below (T158.setTop (mkF m 94 #[.val (.long q0), .second, .val (.long q1), .second, .val (.long q2), .second, .val (.long q3), .second, .val (.int p4), .val (.int (3 : Int32)), .val (.ref b141), .val (.ref b152), .unset] [(.ref b152)])) _
            refine XS.lloadN X158.here hx rfl (hb hby at_94) rfl ?_
            exact kt
          have f160 := (Nat.le_trans f156 Kq158.1)
          have f161 := (f157.keep Kq158 (ninS (Nat.ne_of_lt (Nat.lt_of_lt_of_le lt_b141_152 (Nat.le_of_eq g152.symm))) nin0))
          obtain ⟨cq162, kq162, q162a, q162b, q162c⟩ := isOf hZ rfl Eq158
          obtain ⟨_, _, ⟨T163, L163, k163, n163⟩, -, X163, ⟨Lc163, hQ163, l163, y163, z163⟩, st163⟩ := X158.virtualBack hx (y := (⟨"com/example/mapstone/mapstone/engine/ConceptIndex", "place", "(J)I"⟩ : MethodName)) (z := (⟨"com/example/mapstone/mapstone/engine/ConceptIndex", "place", "(J)I"⟩ : MethodName)) hown (mvT hZ (hw _ (List.mem_of_getElem? (i := 36) rfl))) (mvT hZ (hw _ (List.mem_of_getElem? (i := 37) rfl))) (notFace_of_selects (args := #[]) (mvT hZ (hw _ (List.mem_of_getElem? (i := 39) rfl)))) (mvT hZ (hw _ (List.mem_of_getElem? (i := 39) rfl))) (mvT hZ (hw _ (List.mem_of_getElem? (i := 38) rfl))) (by decide) (backOf (W := 0) (rm7 l Z a0 hw [] b152 q0 (61 : Int32) os158 ks158 8 (own_t3 (own_sN 61 q0) (own_sN 61 q1) (own_sN 61 q2)) b141 k141 [q0, q1, q2] (.long (0 : Int64)) T158.heap n0 f160 Fh158 Eq158 Fs158 Vs158 Fc158 f161 (by decide) hok.1 hok.2.1 (Nat.le_of_ble_eq_true rfl) (own_slotv 61 q0 0 8 (by decide)) (hok.2.2 _ (own_slotv 61 q0 0 8 (by decide)).2).1) hZ (hw _ (List.mem_of_getElem? (i := 40) rfl)) (hw _ (List.mem_of_getElem? (i := 3) rfl)) (by decide) (by decide)) q162a q162c (g := (mkF m 95 #[.val (.long q0), .second, .val (.long q1), .second, .val (.long q2), .second, .val (.long q3), .second, .val (.int p4), .val (.int (3 : Int32)), .val (.ref b141), .val (.ref b152), .unset] [(.long q0), (.ref b152)])) rfl (by rw [hml]; rfl) (Steps.refl _) (argsL := [(.long q0)]) (rest := []) (lenOf pd_2 rfl) rfl (by show 2 * 0 + _ ≤ _; exact Nat.le_of_eq rfl) (hb hby at_95) (fun _ _ => ⟨rfl, rfl, (by decide : 3 + 0 ≤ _), (by decide : 14 + 0 ≤ _)⟩)
          dsimp only [Pt.U, Pt.locs, Pt.cells, Pt.slots] at X163 l163 y163 z163 st163 hQ163
          subst l163 y163 z163
          obtain ⟨rfl, N163q, e163⟩ := hQ163
          have N163 := Fr.app N158 N163q
          have c164 : ∀ t, Steps p.tables e below (T163.setTop (mkF m 105 #[.val (.long q0), .second, .val (.long q1), .second, .val (.long q2), .second, .val (.long q3), .second, .val (.int p4), .val (.int (3 : Int32)), .val (.ref b141), .val (.ref b152), .unset] [(.long q0), (.int (3 : Int32)), (.long q2), (.long q1), (.long q0), (.int (own_lk (own_t3 (own_sN 61 q0) (own_sN 61 q1) (own_sN 61 q2)) 8 (own_e [q0, q1, q2] q0) 8 (own_sN 61 q0)))])) t → Steps p.tables e below (T163.setTop (mkF m 98 #[.val (.long q0), .second, .val (.long q1), .second, .val (.long q2), .second, .val (.long q3), .second, .val (.int p4), .val (.int (3 : Int32)), .val (.ref b141), .val (.ref b152), .unset] [(.int (own_lk (own_t3 (own_sN 61 q0) (own_sN 61 q1) (own_sN 61 q2)) 8 (own_e [q0, q1, q2] q0) 8 (own_sN 61 q0)))])) t := by
            intro t kt
            show Steps p.tables e below (T163.setTop (mkF m 98 #[.val (.long q0), .second, .val (.long q1), .second, .val (.long q2), .second, .val (.long q3), .second, .val (.int p4), .val (.int (3 : Int32)), .val (.ref b141), .val (.ref b152), .unset] [(.int (own_lk (own_t3 (own_sN 61 q0) (own_sN 61 q1) (own_sN 61 q2)) 8 (own_e [q0, q1, q2] q0) 8 (own_sN 61 q0)))])) _
            refine XS.lloadN X163.here hx rfl (hb hby at_98) rfl ?_
            show Steps p.tables e below (T163.setTop (mkF m 99 #[.val (.long q0), .second, .val (.long q1), .second, .val (.long q2), .second, .val (.long q3), .second, .val (.int p4), .val (.int (3 : Int32)), .val (.ref b141), .val (.ref b152), .unset] [(.long q0), (.int (own_lk (own_t3 (own_sN 61 q0) (own_sN 61 q1) (own_sN 61 q2)) 8 (own_e [q0, q1, q2] q0) 8 (own_sN 61 q0)))])) _
            refine XS.lloadN X163.here hx rfl (hb hby at_99) rfl ?_
            show Steps p.tables e below (T163.setTop (mkF m 100 #[.val (.long q0), .second, .val (.long q1), .second, .val (.long q2), .second, .val (.long q3), .second, .val (.int p4), .val (.int (3 : Int32)), .val (.ref b141), .val (.ref b152), .unset] [(.long q1), (.long q0), (.int (own_lk (own_t3 (own_sN 61 q0) (own_sN 61 q1) (own_sN 61 q2)) 8 (own_e [q0, q1, q2] q0) 8 (own_sN 61 q0)))])) _
            refine XS.lload X163.here hx rfl (hb hby at_100) rfl ?_
            show Steps p.tables e below (T163.setTop (mkF m 102 #[.val (.long q0), .second, .val (.long q1), .second, .val (.long q2), .second, .val (.long q3), .second, .val (.int p4), .val (.int (3 : Int32)), .val (.ref b141), .val (.ref b152), .unset] [(.long q2), (.long q1), (.long q0), (.int (own_lk (own_t3 (own_sN 61 q0) (own_sN 61 q1) (own_sN 61 q2)) 8 (own_e [q0, q1, q2] q0) 8 (own_sN 61 q0)))])) _
            refine XS.iload X163.here hx rfl (hb hby at_102) rfl ?_
            show Steps p.tables e below (T163.setTop (mkF m 104 #[.val (.long q0), .second, .val (.long q1), .second, .val (.long q2), .second, .val (.long q3), .second, .val (.int p4), .val (.int (3 : Int32)), .val (.ref b141), .val (.ref b152), .unset] [(.int (3 : Int32)), (.long q2), (.long q1), (.long q0), (.int (own_lk (own_t3 (own_sN 61 q0) (own_sN 61 q1) (own_sN 61 q2)) 8 (own_e [q0, q1, q2] q0) 8 (own_sN 61 q0)))])) _
            refine XS.lloadN X163.here hx rfl (hb hby at_104) rfl ?_
            exact kt
          obtain ⟨_, _, ⟨T165, L165, k165, n165⟩, -, X165, ⟨Lc165, hQ165, l165, y165, z165⟩, st165⟩ := Jvm.LawKit.callS X163 hx (y := (⟨"com/example/mapstone/mapstone/engine/ConceptIndexPlacePinLaw", "ref", "(JJJIJ)I"⟩ : MethodName)) hown (mvT hZ (hw _ (List.mem_of_getElem? (i := 41) rfl))) (mvT hZ (hw _ (List.mem_of_getElem? (i := 42) rfl))) (mvT hZ (hw _ (List.mem_of_getElem? (i := 43) rfl))) (mvT hZ (hw _ (List.mem_of_getElem? (i := 44) rfl))) (by decide) (backOf (W := 1) (rm8 l Z a0 hw [] q0 q1 q2 (3 : Int32) q0  T158.heap n0 f160 ) hZ (hw _ (List.mem_of_getElem? (i := 44) rfl)) (hw _ (List.mem_of_getElem? (i := 43) rfl)) (by decide) (by decide)) (g := (mkF m 105 #[.val (.long q0), .second, .val (.long q1), .second, .val (.long q2), .second, .val (.long q3), .second, .val (.int p4), .val (.int (3 : Int32)), .val (.ref b141), .val (.ref b152), .unset] [(.long q0), (.int (3 : Int32)), (.long q2), (.long q1), (.long q0), (.int (own_lk (own_t3 (own_sN 61 q0) (own_sN 61 q1) (own_sN 61 q2)) 8 (own_e [q0, q1, q2] q0) 8 (own_sN 61 q0)))])) rfl (by rw [hml]; rfl) (argsL := [(.long q0), (.long q1), (.long q2), (.int (3 : Int32)), (.long q0)]) (rest := [(.int (own_lk (own_t3 (own_sN 61 q0) (own_sN 61 q1) (own_sN 61 q2)) 8 (own_e [q0, q1, q2] q0) 8 (own_sN 61 q0)))]) (lenOf pd_4 rfl) rfl (by show 2 * 0 + _ ≤ _; exact Nat.le_of_eq rfl) (hb hby at_105) (fun _ _ => ⟨rfl, e163, (by decide : 3 + 0 ≤ _), (by decide : 14 + 0 ≤ _)⟩)
          dsimp only [Pt.U, Pt.locs, Pt.cells, Pt.slots] at X165 l165 y165 z165 st165 hQ165
          subst l165 y165 z165
          obtain ⟨rfl, N165q, e165⟩ := hQ165
          have N165 := Fr.app N163 N165q
          have hd166 : (own_lk (own_t3 (own_sN 61 q0) (own_sN 61 q1) (own_sN 61 q2)) 8 (own_e [q0, q1, q2] q0) 8 (own_sN 61 q0)) = (own_rf (3 : Int32) q0 q1 q2 q0) := own_k3 q0 q1 q2 _ hc15 hc30 hc37
          have c167 : ∀ t, Steps p.tables e below (T165.setTop (mkF m 126 #[.val (.long q0), .second, .val (.long q1), .second, .val (.long q2), .second, .val (.long q3), .second, .val (.int p4), .val (.int (3 : Int32)), .val (.ref b141), .val (.ref b152), .val (.int (1 : Int32))] [(.long q1), (.ref b152)])) t → Steps p.tables e below (T165.setTop (mkF m 108 #[.val (.long q0), .second, .val (.long q1), .second, .val (.long q2), .second, .val (.long q3), .second, .val (.int p4), .val (.int (3 : Int32)), .val (.ref b141), .val (.ref b152), .unset] [(.int (own_rf (3 : Int32) q0 q1 q2 q0)), (.int (own_lk (own_t3 (own_sN 61 q0) (own_sN 61 q1) (own_sN 61 q2)) 8 (own_e [q0, q1, q2] q0) 8 (own_sN 61 q0)))])) t := by
            intro t kt
            show Steps p.tables e below (T165.setTop (mkF m 108 #[.val (.long q0), .second, .val (.long q1), .second, .val (.long q2), .second, .val (.long q3), .second, .val (.int p4), .val (.int (3 : Int32)), .val (.ref b141), .val (.ref b152), .unset] [(.int (own_rf (3 : Int32) q0 q1 q2 q0)), (.int (own_lk (own_t3 (own_sN 61 q0) (own_sN 61 q1) (own_sN 61 q2)) 8 (own_e [q0, q1, q2] q0) 8 (own_sN 61 q0)))])) _
            refine XS.icmpNo X165.here hx rfl (hb hby at_108) rfl (teq (hd166)).2 ?_
            show Steps p.tables e below (T165.setTop (mkF m 111 #[.val (.long q0), .second, .val (.long q1), .second, .val (.long q2), .second, .val (.long q3), .second, .val (.int p4), .val (.int (3 : Int32)), .val (.ref b141), .val (.ref b152), .unset] [])) _
            refine XS.iconst X165.here hx rfl (hb hby at_111) ?_
            show Steps p.tables e below (T165.setTop (mkF m 112 #[.val (.long q0), .second, .val (.long q1), .second, .val (.long q2), .second, .val (.long q3), .second, .val (.int p4), .val (.int (3 : Int32)), .val (.ref b141), .val (.ref b152), .unset] [(.int (1 : Int32))])) _
            refine XS.goto X165.here hx rfl (pc0 := 112) (pc' := 116) rfl (hb hby at_112) (by decide) (by decide) ?_
            show Steps p.tables e below (T165.setTop (mkF m 116 #[.val (.long q0), .second, .val (.long q1), .second, .val (.long q2), .second, .val (.long q3), .second, .val (.int p4), .val (.int (3 : Int32)), .val (.ref b141), .val (.ref b152), .unset] [(.int (1 : Int32))])) _
            refine XS.istore X165.here hx rfl (hb hby at_116) rfl (l' := #[.val (.long q0), .second, .val (.long q1), .second, .val (.long q2), .second, .val (.long q3), .second, .val (.int p4), .val (.int (3 : Int32)), .val (.ref b141), .val (.ref b152), .val (.int (1 : Int32))]) rfl ?_
            show Steps p.tables e below (T165.setTop (mkF m 118 #[.val (.long q0), .second, .val (.long q1), .second, .val (.long q2), .second, .val (.long q3), .second, .val (.int p4), .val (.int (3 : Int32)), .val (.ref b141), .val (.ref b152), .val (.int (1 : Int32))] [])) _
            refine XS.iload X165.here hx rfl (hb hby at_118) rfl ?_
            show Steps p.tables e below (T165.setTop (mkF m 120 #[.val (.long q0), .second, .val (.long q1), .second, .val (.long q2), .second, .val (.long q3), .second, .val (.int p4), .val (.int (3 : Int32)), .val (.ref b141), .val (.ref b152), .val (.int (1 : Int32))] [(.int (1 : Int32))])) _
            refine XS.ifNo X165.here hx rfl (hb hby at_120) rfl ((if0 _ _).trans (feq (by decide : ¬ ((1 : Int32) = (0 : Int32)))).1) ?_
            show Steps p.tables e below (T165.setTop (mkF m 123 #[.val (.long q0), .second, .val (.long q1), .second, .val (.long q2), .second, .val (.long q3), .second, .val (.int p4), .val (.int (3 : Int32)), .val (.ref b141), .val (.ref b152), .val (.int (1 : Int32))] [])) _
            refine XS.aload X165.here hx rfl (hb hby at_123) rfl rfl ?_
            show Steps p.tables e below (T165.setTop (mkF m 125 #[.val (.long q0), .second, .val (.long q1), .second, .val (.long q2), .second, .val (.long q3), .second, .val (.int p4), .val (.int (3 : Int32)), .val (.ref b141), .val (.ref b152), .val (.int (1 : Int32))] [(.ref b152)])) _
            refine XS.lloadN X165.here hx rfl (hb hby at_125) rfl ?_
            exact kt
          obtain ⟨cq168, kq168, q168a, q168b, q168c⟩ := isOf hZ e165 Eq158
          obtain ⟨_, _, ⟨T169, L169, k169, n169⟩, -, X169, ⟨Lc169, hQ169, l169, y169, z169⟩, st169⟩ := X165.virtualBack hx (y := (⟨"com/example/mapstone/mapstone/engine/ConceptIndex", "place", "(J)I"⟩ : MethodName)) (z := (⟨"com/example/mapstone/mapstone/engine/ConceptIndex", "place", "(J)I"⟩ : MethodName)) hown (mvT hZ (hw _ (List.mem_of_getElem? (i := 36) rfl))) (mvT hZ (hw _ (List.mem_of_getElem? (i := 37) rfl))) (notFace_of_selects (args := #[]) (mvT hZ (hw _ (List.mem_of_getElem? (i := 39) rfl)))) (mvT hZ (hw _ (List.mem_of_getElem? (i := 39) rfl))) (mvT hZ (hw _ (List.mem_of_getElem? (i := 38) rfl))) (by decide) (backOf (W := 0) (rm7 l Z a0 hw [] b152 q1 (61 : Int32) os158 ks158 8 (own_t3 (own_sN 61 q0) (own_sN 61 q1) (own_sN 61 q2)) b141 k141 [q0, q1, q2] (.long (0 : Int64)) T158.heap n0 f160 Fh158 Eq158 Fs158 Vs158 Fc158 f161 (by decide) hok.1 hok.2.1 (Nat.le_of_ble_eq_true rfl) (own_slotv 61 q1 0 8 (by decide)) (hok.2.2 _ (own_slotv 61 q1 0 8 (by decide)).2).1) hZ (hw _ (List.mem_of_getElem? (i := 40) rfl)) (hw _ (List.mem_of_getElem? (i := 3) rfl)) (by decide) (by decide)) q168a q168c (g := (mkF m 126 #[.val (.long q0), .second, .val (.long q1), .second, .val (.long q2), .second, .val (.long q3), .second, .val (.int p4), .val (.int (3 : Int32)), .val (.ref b141), .val (.ref b152), .val (.int (1 : Int32))] [(.long q1), (.ref b152)])) rfl (by rw [hml]; rfl) (Steps.refl _) (argsL := [(.long q1)]) (rest := []) (lenOf pd_2 rfl) rfl (by show 2 * 0 + _ ≤ _; exact Nat.le_of_eq rfl) (hb hby at_126) (fun _ _ => ⟨rfl, e165, (by decide : 3 + 0 ≤ _), (by decide : 14 + 0 ≤ _)⟩)
          dsimp only [Pt.U, Pt.locs, Pt.cells, Pt.slots] at X169 l169 y169 z169 st169 hQ169
          subst l169 y169 z169
          obtain ⟨rfl, N169q, e169⟩ := hQ169
          have N169 := Fr.app N165 N169q
          have c170 : ∀ t, Steps p.tables e below (T169.setTop (mkF m 136 #[.val (.long q0), .second, .val (.long q1), .second, .val (.long q2), .second, .val (.long q3), .second, .val (.int p4), .val (.int (3 : Int32)), .val (.ref b141), .val (.ref b152), .val (.int (1 : Int32))] [(.long q1), (.int (3 : Int32)), (.long q2), (.long q1), (.long q0), (.int (own_lk (own_t3 (own_sN 61 q0) (own_sN 61 q1) (own_sN 61 q2)) 8 (own_e [q0, q1, q2] q1) 8 (own_sN 61 q1)))])) t → Steps p.tables e below (T169.setTop (mkF m 129 #[.val (.long q0), .second, .val (.long q1), .second, .val (.long q2), .second, .val (.long q3), .second, .val (.int p4), .val (.int (3 : Int32)), .val (.ref b141), .val (.ref b152), .val (.int (1 : Int32))] [(.int (own_lk (own_t3 (own_sN 61 q0) (own_sN 61 q1) (own_sN 61 q2)) 8 (own_e [q0, q1, q2] q1) 8 (own_sN 61 q1)))])) t := by
            intro t kt
            show Steps p.tables e below (T169.setTop (mkF m 129 #[.val (.long q0), .second, .val (.long q1), .second, .val (.long q2), .second, .val (.long q3), .second, .val (.int p4), .val (.int (3 : Int32)), .val (.ref b141), .val (.ref b152), .val (.int (1 : Int32))] [(.int (own_lk (own_t3 (own_sN 61 q0) (own_sN 61 q1) (own_sN 61 q2)) 8 (own_e [q0, q1, q2] q1) 8 (own_sN 61 q1)))])) _
            refine XS.lloadN X169.here hx rfl (hb hby at_129) rfl ?_
            show Steps p.tables e below (T169.setTop (mkF m 130 #[.val (.long q0), .second, .val (.long q1), .second, .val (.long q2), .second, .val (.long q3), .second, .val (.int p4), .val (.int (3 : Int32)), .val (.ref b141), .val (.ref b152), .val (.int (1 : Int32))] [(.long q0), (.int (own_lk (own_t3 (own_sN 61 q0) (own_sN 61 q1) (own_sN 61 q2)) 8 (own_e [q0, q1, q2] q1) 8 (own_sN 61 q1)))])) _
            refine XS.lloadN X169.here hx rfl (hb hby at_130) rfl ?_
            show Steps p.tables e below (T169.setTop (mkF m 131 #[.val (.long q0), .second, .val (.long q1), .second, .val (.long q2), .second, .val (.long q3), .second, .val (.int p4), .val (.int (3 : Int32)), .val (.ref b141), .val (.ref b152), .val (.int (1 : Int32))] [(.long q1), (.long q0), (.int (own_lk (own_t3 (own_sN 61 q0) (own_sN 61 q1) (own_sN 61 q2)) 8 (own_e [q0, q1, q2] q1) 8 (own_sN 61 q1)))])) _
            refine XS.lload X169.here hx rfl (hb hby at_131) rfl ?_
            show Steps p.tables e below (T169.setTop (mkF m 133 #[.val (.long q0), .second, .val (.long q1), .second, .val (.long q2), .second, .val (.long q3), .second, .val (.int p4), .val (.int (3 : Int32)), .val (.ref b141), .val (.ref b152), .val (.int (1 : Int32))] [(.long q2), (.long q1), (.long q0), (.int (own_lk (own_t3 (own_sN 61 q0) (own_sN 61 q1) (own_sN 61 q2)) 8 (own_e [q0, q1, q2] q1) 8 (own_sN 61 q1)))])) _
            refine XS.iload X169.here hx rfl (hb hby at_133) rfl ?_
            show Steps p.tables e below (T169.setTop (mkF m 135 #[.val (.long q0), .second, .val (.long q1), .second, .val (.long q2), .second, .val (.long q3), .second, .val (.int p4), .val (.int (3 : Int32)), .val (.ref b141), .val (.ref b152), .val (.int (1 : Int32))] [(.int (3 : Int32)), (.long q2), (.long q1), (.long q0), (.int (own_lk (own_t3 (own_sN 61 q0) (own_sN 61 q1) (own_sN 61 q2)) 8 (own_e [q0, q1, q2] q1) 8 (own_sN 61 q1)))])) _
            refine XS.lloadN X169.here hx rfl (hb hby at_135) rfl ?_
            exact kt
          obtain ⟨_, _, ⟨T171, L171, k171, n171⟩, -, X171, ⟨Lc171, hQ171, l171, y171, z171⟩, st171⟩ := Jvm.LawKit.callS X169 hx (y := (⟨"com/example/mapstone/mapstone/engine/ConceptIndexPlacePinLaw", "ref", "(JJJIJ)I"⟩ : MethodName)) hown (mvT hZ (hw _ (List.mem_of_getElem? (i := 41) rfl))) (mvT hZ (hw _ (List.mem_of_getElem? (i := 42) rfl))) (mvT hZ (hw _ (List.mem_of_getElem? (i := 43) rfl))) (mvT hZ (hw _ (List.mem_of_getElem? (i := 44) rfl))) (by decide) (backOf (W := 1) (rm8 l Z a0 hw [] q0 q1 q2 (3 : Int32) q1  T158.heap n0 f160 ) hZ (hw _ (List.mem_of_getElem? (i := 44) rfl)) (hw _ (List.mem_of_getElem? (i := 43) rfl)) (by decide) (by decide)) (g := (mkF m 136 #[.val (.long q0), .second, .val (.long q1), .second, .val (.long q2), .second, .val (.long q3), .second, .val (.int p4), .val (.int (3 : Int32)), .val (.ref b141), .val (.ref b152), .val (.int (1 : Int32))] [(.long q1), (.int (3 : Int32)), (.long q2), (.long q1), (.long q0), (.int (own_lk (own_t3 (own_sN 61 q0) (own_sN 61 q1) (own_sN 61 q2)) 8 (own_e [q0, q1, q2] q1) 8 (own_sN 61 q1)))])) rfl (by rw [hml]; rfl) (argsL := [(.long q0), (.long q1), (.long q2), (.int (3 : Int32)), (.long q1)]) (rest := [(.int (own_lk (own_t3 (own_sN 61 q0) (own_sN 61 q1) (own_sN 61 q2)) 8 (own_e [q0, q1, q2] q1) 8 (own_sN 61 q1)))]) (lenOf pd_4 rfl) rfl (by show 2 * 0 + _ ≤ _; exact Nat.le_of_eq rfl) (hb hby at_136) (fun _ _ => ⟨rfl, e169, (by decide : 3 + 0 ≤ _), (by decide : 14 + 0 ≤ _)⟩)
          dsimp only [Pt.U, Pt.locs, Pt.cells, Pt.slots] at X171 l171 y171 z171 st171 hQ171
          subst l171 y171 z171
          obtain ⟨rfl, N171q, e171⟩ := hQ171
          have N171 := Fr.app N169 N171q
          have hd172 : (own_lk (own_t3 (own_sN 61 q0) (own_sN 61 q1) (own_sN 61 q2)) 8 (own_e [q0, q1, q2] q1) 8 (own_sN 61 q1)) = (own_rf (3 : Int32) q0 q1 q2 q1) := own_k3 q0 q1 q2 _ hc15 hc30 hc37
          have c173 : ∀ t, Steps p.tables e below (T171.setTop (mkF m 158 #[.val (.long q0), .second, .val (.long q1), .second, .val (.long q2), .second, .val (.long q3), .second, .val (.int p4), .val (.int (3 : Int32)), .val (.ref b141), .val (.ref b152), .val (.int (1 : Int32))] [(.long q2), (.ref b152)])) t → Steps p.tables e below (T171.setTop (mkF m 139 #[.val (.long q0), .second, .val (.long q1), .second, .val (.long q2), .second, .val (.long q3), .second, .val (.int p4), .val (.int (3 : Int32)), .val (.ref b141), .val (.ref b152), .val (.int (1 : Int32))] [(.int (own_rf (3 : Int32) q0 q1 q2 q1)), (.int (own_lk (own_t3 (own_sN 61 q0) (own_sN 61 q1) (own_sN 61 q2)) 8 (own_e [q0, q1, q2] q1) 8 (own_sN 61 q1)))])) t := by
            intro t kt
            show Steps p.tables e below (T171.setTop (mkF m 139 #[.val (.long q0), .second, .val (.long q1), .second, .val (.long q2), .second, .val (.long q3), .second, .val (.int p4), .val (.int (3 : Int32)), .val (.ref b141), .val (.ref b152), .val (.int (1 : Int32))] [(.int (own_rf (3 : Int32) q0 q1 q2 q1)), (.int (own_lk (own_t3 (own_sN 61 q0) (own_sN 61 q1) (own_sN 61 q2)) 8 (own_e [q0, q1, q2] q1) 8 (own_sN 61 q1)))])) _
            refine XS.icmpNo X171.here hx rfl (hb hby at_139) rfl (teq (hd172)).2 ?_
            show Steps p.tables e below (T171.setTop (mkF m 142 #[.val (.long q0), .second, .val (.long q1), .second, .val (.long q2), .second, .val (.long q3), .second, .val (.int p4), .val (.int (3 : Int32)), .val (.ref b141), .val (.ref b152), .val (.int (1 : Int32))] [])) _
            refine XS.iconst X171.here hx rfl (hb hby at_142) ?_
            show Steps p.tables e below (T171.setTop (mkF m 143 #[.val (.long q0), .second, .val (.long q1), .second, .val (.long q2), .second, .val (.long q3), .second, .val (.int p4), .val (.int (3 : Int32)), .val (.ref b141), .val (.ref b152), .val (.int (1 : Int32))] [(.int (1 : Int32))])) _
            refine XS.goto X171.here hx rfl (pc0 := 143) (pc' := 147) rfl (hb hby at_143) (by decide) (by decide) ?_
            show Steps p.tables e below (T171.setTop (mkF m 147 #[.val (.long q0), .second, .val (.long q1), .second, .val (.long q2), .second, .val (.long q3), .second, .val (.int p4), .val (.int (3 : Int32)), .val (.ref b141), .val (.ref b152), .val (.int (1 : Int32))] [(.int (1 : Int32))])) _
            refine XS.istore X171.here hx rfl (hb hby at_147) rfl (l' := #[.val (.long q0), .second, .val (.long q1), .second, .val (.long q2), .second, .val (.long q3), .second, .val (.int p4), .val (.int (3 : Int32)), .val (.ref b141), .val (.ref b152), .val (.int (1 : Int32))]) rfl ?_
            show Steps p.tables e below (T171.setTop (mkF m 149 #[.val (.long q0), .second, .val (.long q1), .second, .val (.long q2), .second, .val (.long q3), .second, .val (.int p4), .val (.int (3 : Int32)), .val (.ref b141), .val (.ref b152), .val (.int (1 : Int32))] [])) _
            refine XS.iload X171.here hx rfl (hb hby at_149) rfl ?_
            show Steps p.tables e below (T171.setTop (mkF m 151 #[.val (.long q0), .second, .val (.long q1), .second, .val (.long q2), .second, .val (.long q3), .second, .val (.int p4), .val (.int (3 : Int32)), .val (.ref b141), .val (.ref b152), .val (.int (1 : Int32))] [(.int (1 : Int32))])) _
            refine XS.ifNo X171.here hx rfl (hb hby at_151) rfl ((if0 _ _).trans (feq (by decide : ¬ ((1 : Int32) = (0 : Int32)))).1) ?_
            show Steps p.tables e below (T171.setTop (mkF m 154 #[.val (.long q0), .second, .val (.long q1), .second, .val (.long q2), .second, .val (.long q3), .second, .val (.int p4), .val (.int (3 : Int32)), .val (.ref b141), .val (.ref b152), .val (.int (1 : Int32))] [])) _
            refine XS.aload X171.here hx rfl (hb hby at_154) rfl rfl ?_
            show Steps p.tables e below (T171.setTop (mkF m 156 #[.val (.long q0), .second, .val (.long q1), .second, .val (.long q2), .second, .val (.long q3), .second, .val (.int p4), .val (.int (3 : Int32)), .val (.ref b141), .val (.ref b152), .val (.int (1 : Int32))] [(.ref b152)])) _
            refine XS.lload X171.here hx rfl (hb hby at_156) rfl ?_
            exact kt
          obtain ⟨cq174, kq174, q174a, q174b, q174c⟩ := isOf hZ e171 Eq158
          obtain ⟨_, _, ⟨T175, L175, k175, n175⟩, -, X175, ⟨Lc175, hQ175, l175, y175, z175⟩, st175⟩ := X171.virtualBack hx (y := (⟨"com/example/mapstone/mapstone/engine/ConceptIndex", "place", "(J)I"⟩ : MethodName)) (z := (⟨"com/example/mapstone/mapstone/engine/ConceptIndex", "place", "(J)I"⟩ : MethodName)) hown (mvT hZ (hw _ (List.mem_of_getElem? (i := 36) rfl))) (mvT hZ (hw _ (List.mem_of_getElem? (i := 37) rfl))) (notFace_of_selects (args := #[]) (mvT hZ (hw _ (List.mem_of_getElem? (i := 39) rfl)))) (mvT hZ (hw _ (List.mem_of_getElem? (i := 39) rfl))) (mvT hZ (hw _ (List.mem_of_getElem? (i := 38) rfl))) (by decide) (backOf (W := 0) (rm7 l Z a0 hw [] b152 q2 (61 : Int32) os158 ks158 8 (own_t3 (own_sN 61 q0) (own_sN 61 q1) (own_sN 61 q2)) b141 k141 [q0, q1, q2] (.long (0 : Int64)) T158.heap n0 f160 Fh158 Eq158 Fs158 Vs158 Fc158 f161 (by decide) hok.1 hok.2.1 (Nat.le_of_ble_eq_true rfl) (own_slotv 61 q2 0 8 (by decide)) (hok.2.2 _ (own_slotv 61 q2 0 8 (by decide)).2).1) hZ (hw _ (List.mem_of_getElem? (i := 40) rfl)) (hw _ (List.mem_of_getElem? (i := 3) rfl)) (by decide) (by decide)) q174a q174c (g := (mkF m 158 #[.val (.long q0), .second, .val (.long q1), .second, .val (.long q2), .second, .val (.long q3), .second, .val (.int p4), .val (.int (3 : Int32)), .val (.ref b141), .val (.ref b152), .val (.int (1 : Int32))] [(.long q2), (.ref b152)])) rfl (by rw [hml]; rfl) (Steps.refl _) (argsL := [(.long q2)]) (rest := []) (lenOf pd_2 rfl) rfl (by show 2 * 0 + _ ≤ _; exact Nat.le_of_eq rfl) (hb hby at_158) (fun _ _ => ⟨rfl, e171, (by decide : 3 + 0 ≤ _), (by decide : 14 + 0 ≤ _)⟩)
          dsimp only [Pt.U, Pt.locs, Pt.cells, Pt.slots] at X175 l175 y175 z175 st175 hQ175
          subst l175 y175 z175
          obtain ⟨rfl, N175q, e175⟩ := hQ175
          have N175 := Fr.app N171 N175q
          have c176 : ∀ t, Steps p.tables e below (T175.setTop (mkF m 169 #[.val (.long q0), .second, .val (.long q1), .second, .val (.long q2), .second, .val (.long q3), .second, .val (.int p4), .val (.int (3 : Int32)), .val (.ref b141), .val (.ref b152), .val (.int (1 : Int32))] [(.long q2), (.int (3 : Int32)), (.long q2), (.long q1), (.long q0), (.int (own_lk (own_t3 (own_sN 61 q0) (own_sN 61 q1) (own_sN 61 q2)) 8 (own_e [q0, q1, q2] q2) 8 (own_sN 61 q2)))])) t → Steps p.tables e below (T175.setTop (mkF m 161 #[.val (.long q0), .second, .val (.long q1), .second, .val (.long q2), .second, .val (.long q3), .second, .val (.int p4), .val (.int (3 : Int32)), .val (.ref b141), .val (.ref b152), .val (.int (1 : Int32))] [(.int (own_lk (own_t3 (own_sN 61 q0) (own_sN 61 q1) (own_sN 61 q2)) 8 (own_e [q0, q1, q2] q2) 8 (own_sN 61 q2)))])) t := by
            intro t kt
            show Steps p.tables e below (T175.setTop (mkF m 161 #[.val (.long q0), .second, .val (.long q1), .second, .val (.long q2), .second, .val (.long q3), .second, .val (.int p4), .val (.int (3 : Int32)), .val (.ref b141), .val (.ref b152), .val (.int (1 : Int32))] [(.int (own_lk (own_t3 (own_sN 61 q0) (own_sN 61 q1) (own_sN 61 q2)) 8 (own_e [q0, q1, q2] q2) 8 (own_sN 61 q2)))])) _
            refine XS.lloadN X175.here hx rfl (hb hby at_161) rfl ?_
            show Steps p.tables e below (T175.setTop (mkF m 162 #[.val (.long q0), .second, .val (.long q1), .second, .val (.long q2), .second, .val (.long q3), .second, .val (.int p4), .val (.int (3 : Int32)), .val (.ref b141), .val (.ref b152), .val (.int (1 : Int32))] [(.long q0), (.int (own_lk (own_t3 (own_sN 61 q0) (own_sN 61 q1) (own_sN 61 q2)) 8 (own_e [q0, q1, q2] q2) 8 (own_sN 61 q2)))])) _
            refine XS.lloadN X175.here hx rfl (hb hby at_162) rfl ?_
            show Steps p.tables e below (T175.setTop (mkF m 163 #[.val (.long q0), .second, .val (.long q1), .second, .val (.long q2), .second, .val (.long q3), .second, .val (.int p4), .val (.int (3 : Int32)), .val (.ref b141), .val (.ref b152), .val (.int (1 : Int32))] [(.long q1), (.long q0), (.int (own_lk (own_t3 (own_sN 61 q0) (own_sN 61 q1) (own_sN 61 q2)) 8 (own_e [q0, q1, q2] q2) 8 (own_sN 61 q2)))])) _
            refine XS.lload X175.here hx rfl (hb hby at_163) rfl ?_
            show Steps p.tables e below (T175.setTop (mkF m 165 #[.val (.long q0), .second, .val (.long q1), .second, .val (.long q2), .second, .val (.long q3), .second, .val (.int p4), .val (.int (3 : Int32)), .val (.ref b141), .val (.ref b152), .val (.int (1 : Int32))] [(.long q2), (.long q1), (.long q0), (.int (own_lk (own_t3 (own_sN 61 q0) (own_sN 61 q1) (own_sN 61 q2)) 8 (own_e [q0, q1, q2] q2) 8 (own_sN 61 q2)))])) _
            refine XS.iload X175.here hx rfl (hb hby at_165) rfl ?_
            show Steps p.tables e below (T175.setTop (mkF m 167 #[.val (.long q0), .second, .val (.long q1), .second, .val (.long q2), .second, .val (.long q3), .second, .val (.int p4), .val (.int (3 : Int32)), .val (.ref b141), .val (.ref b152), .val (.int (1 : Int32))] [(.int (3 : Int32)), (.long q2), (.long q1), (.long q0), (.int (own_lk (own_t3 (own_sN 61 q0) (own_sN 61 q1) (own_sN 61 q2)) 8 (own_e [q0, q1, q2] q2) 8 (own_sN 61 q2)))])) _
            refine XS.lload X175.here hx rfl (hb hby at_167) rfl ?_
            exact kt
          obtain ⟨_, _, ⟨T177, L177, k177, n177⟩, -, X177, ⟨Lc177, hQ177, l177, y177, z177⟩, st177⟩ := Jvm.LawKit.callS X175 hx (y := (⟨"com/example/mapstone/mapstone/engine/ConceptIndexPlacePinLaw", "ref", "(JJJIJ)I"⟩ : MethodName)) hown (mvT hZ (hw _ (List.mem_of_getElem? (i := 41) rfl))) (mvT hZ (hw _ (List.mem_of_getElem? (i := 42) rfl))) (mvT hZ (hw _ (List.mem_of_getElem? (i := 43) rfl))) (mvT hZ (hw _ (List.mem_of_getElem? (i := 44) rfl))) (by decide) (backOf (W := 1) (rm8 l Z a0 hw [] q0 q1 q2 (3 : Int32) q2  T158.heap n0 f160 ) hZ (hw _ (List.mem_of_getElem? (i := 44) rfl)) (hw _ (List.mem_of_getElem? (i := 43) rfl)) (by decide) (by decide)) (g := (mkF m 169 #[.val (.long q0), .second, .val (.long q1), .second, .val (.long q2), .second, .val (.long q3), .second, .val (.int p4), .val (.int (3 : Int32)), .val (.ref b141), .val (.ref b152), .val (.int (1 : Int32))] [(.long q2), (.int (3 : Int32)), (.long q2), (.long q1), (.long q0), (.int (own_lk (own_t3 (own_sN 61 q0) (own_sN 61 q1) (own_sN 61 q2)) 8 (own_e [q0, q1, q2] q2) 8 (own_sN 61 q2)))])) rfl (by rw [hml]; rfl) (argsL := [(.long q0), (.long q1), (.long q2), (.int (3 : Int32)), (.long q2)]) (rest := [(.int (own_lk (own_t3 (own_sN 61 q0) (own_sN 61 q1) (own_sN 61 q2)) 8 (own_e [q0, q1, q2] q2) 8 (own_sN 61 q2)))]) (lenOf pd_4 rfl) rfl (by show 2 * 0 + _ ≤ _; exact Nat.le_of_eq rfl) (hb hby at_169) (fun _ _ => ⟨rfl, e175, (by decide : 3 + 0 ≤ _), (by decide : 14 + 0 ≤ _)⟩)
          dsimp only [Pt.U, Pt.locs, Pt.cells, Pt.slots] at X177 l177 y177 z177 st177 hQ177
          subst l177 y177 z177
          obtain ⟨rfl, N177q, e177⟩ := hQ177
          have N177 := Fr.app N175 N177q
          have hd178 : (own_lk (own_t3 (own_sN 61 q0) (own_sN 61 q1) (own_sN 61 q2)) 8 (own_e [q0, q1, q2] q2) 8 (own_sN 61 q2)) = (own_rf (3 : Int32) q0 q1 q2 q2) := own_k3 q0 q1 q2 _ hc15 hc30 hc37
          have c179 : ∀ t, Steps p.tables e below (T177.setTop (mkF m 191 #[.val (.long q0), .second, .val (.long q1), .second, .val (.long q2), .second, .val (.long q3), .second, .val (.int p4), .val (.int (3 : Int32)), .val (.ref b141), .val (.ref b152), .val (.int (1 : Int32))] [(.long q3), (.ref b152)])) t → Steps p.tables e below (T177.setTop (mkF m 172 #[.val (.long q0), .second, .val (.long q1), .second, .val (.long q2), .second, .val (.long q3), .second, .val (.int p4), .val (.int (3 : Int32)), .val (.ref b141), .val (.ref b152), .val (.int (1 : Int32))] [(.int (own_rf (3 : Int32) q0 q1 q2 q2)), (.int (own_lk (own_t3 (own_sN 61 q0) (own_sN 61 q1) (own_sN 61 q2)) 8 (own_e [q0, q1, q2] q2) 8 (own_sN 61 q2)))])) t := by
            intro t kt
            show Steps p.tables e below (T177.setTop (mkF m 172 #[.val (.long q0), .second, .val (.long q1), .second, .val (.long q2), .second, .val (.long q3), .second, .val (.int p4), .val (.int (3 : Int32)), .val (.ref b141), .val (.ref b152), .val (.int (1 : Int32))] [(.int (own_rf (3 : Int32) q0 q1 q2 q2)), (.int (own_lk (own_t3 (own_sN 61 q0) (own_sN 61 q1) (own_sN 61 q2)) 8 (own_e [q0, q1, q2] q2) 8 (own_sN 61 q2)))])) _
            refine XS.icmpNo X177.here hx rfl (hb hby at_172) rfl (teq (hd178)).2 ?_
            show Steps p.tables e below (T177.setTop (mkF m 175 #[.val (.long q0), .second, .val (.long q1), .second, .val (.long q2), .second, .val (.long q3), .second, .val (.int p4), .val (.int (3 : Int32)), .val (.ref b141), .val (.ref b152), .val (.int (1 : Int32))] [])) _
            refine XS.iconst X177.here hx rfl (hb hby at_175) ?_
            show Steps p.tables e below (T177.setTop (mkF m 176 #[.val (.long q0), .second, .val (.long q1), .second, .val (.long q2), .second, .val (.long q3), .second, .val (.int p4), .val (.int (3 : Int32)), .val (.ref b141), .val (.ref b152), .val (.int (1 : Int32))] [(.int (1 : Int32))])) _
            refine XS.goto X177.here hx rfl (pc0 := 176) (pc' := 180) rfl (hb hby at_176) (by decide) (by decide) ?_
            show Steps p.tables e below (T177.setTop (mkF m 180 #[.val (.long q0), .second, .val (.long q1), .second, .val (.long q2), .second, .val (.long q3), .second, .val (.int p4), .val (.int (3 : Int32)), .val (.ref b141), .val (.ref b152), .val (.int (1 : Int32))] [(.int (1 : Int32))])) _
            refine XS.istore X177.here hx rfl (hb hby at_180) rfl (l' := #[.val (.long q0), .second, .val (.long q1), .second, .val (.long q2), .second, .val (.long q3), .second, .val (.int p4), .val (.int (3 : Int32)), .val (.ref b141), .val (.ref b152), .val (.int (1 : Int32))]) rfl ?_
            show Steps p.tables e below (T177.setTop (mkF m 182 #[.val (.long q0), .second, .val (.long q1), .second, .val (.long q2), .second, .val (.long q3), .second, .val (.int p4), .val (.int (3 : Int32)), .val (.ref b141), .val (.ref b152), .val (.int (1 : Int32))] [])) _
            refine XS.iload X177.here hx rfl (hb hby at_182) rfl ?_
            show Steps p.tables e below (T177.setTop (mkF m 184 #[.val (.long q0), .second, .val (.long q1), .second, .val (.long q2), .second, .val (.long q3), .second, .val (.int p4), .val (.int (3 : Int32)), .val (.ref b141), .val (.ref b152), .val (.int (1 : Int32))] [(.int (1 : Int32))])) _
            refine XS.ifNo X177.here hx rfl (hb hby at_184) rfl ((if0 _ _).trans (feq (by decide : ¬ ((1 : Int32) = (0 : Int32)))).1) ?_
            show Steps p.tables e below (T177.setTop (mkF m 187 #[.val (.long q0), .second, .val (.long q1), .second, .val (.long q2), .second, .val (.long q3), .second, .val (.int p4), .val (.int (3 : Int32)), .val (.ref b141), .val (.ref b152), .val (.int (1 : Int32))] [])) _
            refine XS.aload X177.here hx rfl (hb hby at_187) rfl rfl ?_
            show Steps p.tables e below (T177.setTop (mkF m 189 #[.val (.long q0), .second, .val (.long q1), .second, .val (.long q2), .second, .val (.long q3), .second, .val (.int p4), .val (.int (3 : Int32)), .val (.ref b141), .val (.ref b152), .val (.int (1 : Int32))] [(.ref b152)])) _
            refine XS.lload X177.here hx rfl (hb hby at_189) rfl ?_
            exact kt
          obtain ⟨cq180, kq180, q180a, q180b, q180c⟩ := isOf hZ e177 Eq158
          obtain ⟨_, _, ⟨T181, L181, k181, n181⟩, -, X181, ⟨Lc181, hQ181, l181, y181, z181⟩, st181⟩ := X177.virtualBack hx (y := (⟨"com/example/mapstone/mapstone/engine/ConceptIndex", "place", "(J)I"⟩ : MethodName)) (z := (⟨"com/example/mapstone/mapstone/engine/ConceptIndex", "place", "(J)I"⟩ : MethodName)) hown (mvT hZ (hw _ (List.mem_of_getElem? (i := 36) rfl))) (mvT hZ (hw _ (List.mem_of_getElem? (i := 37) rfl))) (notFace_of_selects (args := #[]) (mvT hZ (hw _ (List.mem_of_getElem? (i := 39) rfl)))) (mvT hZ (hw _ (List.mem_of_getElem? (i := 39) rfl))) (mvT hZ (hw _ (List.mem_of_getElem? (i := 38) rfl))) (by decide) (backOf (W := 0) (rm7 l Z a0 hw [] b152 q3 (61 : Int32) os158 ks158 8 (own_t3 (own_sN 61 q0) (own_sN 61 q1) (own_sN 61 q2)) b141 k141 [q0, q1, q2] (.long (0 : Int64)) T158.heap n0 f160 Fh158 Eq158 Fs158 Vs158 Fc158 f161 (by decide) hok.1 hok.2.1 (Nat.le_of_ble_eq_true rfl) (own_slotv 61 q3 0 8 (by decide)) (hok.2.2 _ (own_slotv 61 q3 0 8 (by decide)).2).1) hZ (hw _ (List.mem_of_getElem? (i := 40) rfl)) (hw _ (List.mem_of_getElem? (i := 3) rfl)) (by decide) (by decide)) q180a q180c (g := (mkF m 191 #[.val (.long q0), .second, .val (.long q1), .second, .val (.long q2), .second, .val (.long q3), .second, .val (.int p4), .val (.int (3 : Int32)), .val (.ref b141), .val (.ref b152), .val (.int (1 : Int32))] [(.long q3), (.ref b152)])) rfl (by rw [hml]; rfl) (Steps.refl _) (argsL := [(.long q3)]) (rest := []) (lenOf pd_2 rfl) rfl (by show 2 * 0 + _ ≤ _; exact Nat.le_of_eq rfl) (hb hby at_191) (fun _ _ => ⟨rfl, e177, (by decide : 3 + 0 ≤ _), (by decide : 14 + 0 ≤ _)⟩)
          dsimp only [Pt.U, Pt.locs, Pt.cells, Pt.slots] at X181 l181 y181 z181 st181 hQ181
          subst l181 y181 z181
          obtain ⟨rfl, N181q, e181⟩ := hQ181
          have N181 := Fr.app N177 N181q
          have c182 : ∀ t, Steps p.tables e below (T181.setTop (mkF m 202 #[.val (.long q0), .second, .val (.long q1), .second, .val (.long q2), .second, .val (.long q3), .second, .val (.int p4), .val (.int (3 : Int32)), .val (.ref b141), .val (.ref b152), .val (.int (1 : Int32))] [(.long q3), (.int (3 : Int32)), (.long q2), (.long q1), (.long q0), (.int (own_lk (own_t3 (own_sN 61 q0) (own_sN 61 q1) (own_sN 61 q2)) 8 (own_e [q0, q1, q2] q3) 8 (own_sN 61 q3)))])) t → Steps p.tables e below (T181.setTop (mkF m 194 #[.val (.long q0), .second, .val (.long q1), .second, .val (.long q2), .second, .val (.long q3), .second, .val (.int p4), .val (.int (3 : Int32)), .val (.ref b141), .val (.ref b152), .val (.int (1 : Int32))] [(.int (own_lk (own_t3 (own_sN 61 q0) (own_sN 61 q1) (own_sN 61 q2)) 8 (own_e [q0, q1, q2] q3) 8 (own_sN 61 q3)))])) t := by
            intro t kt
            show Steps p.tables e below (T181.setTop (mkF m 194 #[.val (.long q0), .second, .val (.long q1), .second, .val (.long q2), .second, .val (.long q3), .second, .val (.int p4), .val (.int (3 : Int32)), .val (.ref b141), .val (.ref b152), .val (.int (1 : Int32))] [(.int (own_lk (own_t3 (own_sN 61 q0) (own_sN 61 q1) (own_sN 61 q2)) 8 (own_e [q0, q1, q2] q3) 8 (own_sN 61 q3)))])) _
            refine XS.lloadN X181.here hx rfl (hb hby at_194) rfl ?_
            show Steps p.tables e below (T181.setTop (mkF m 195 #[.val (.long q0), .second, .val (.long q1), .second, .val (.long q2), .second, .val (.long q3), .second, .val (.int p4), .val (.int (3 : Int32)), .val (.ref b141), .val (.ref b152), .val (.int (1 : Int32))] [(.long q0), (.int (own_lk (own_t3 (own_sN 61 q0) (own_sN 61 q1) (own_sN 61 q2)) 8 (own_e [q0, q1, q2] q3) 8 (own_sN 61 q3)))])) _
            refine XS.lloadN X181.here hx rfl (hb hby at_195) rfl ?_
            show Steps p.tables e below (T181.setTop (mkF m 196 #[.val (.long q0), .second, .val (.long q1), .second, .val (.long q2), .second, .val (.long q3), .second, .val (.int p4), .val (.int (3 : Int32)), .val (.ref b141), .val (.ref b152), .val (.int (1 : Int32))] [(.long q1), (.long q0), (.int (own_lk (own_t3 (own_sN 61 q0) (own_sN 61 q1) (own_sN 61 q2)) 8 (own_e [q0, q1, q2] q3) 8 (own_sN 61 q3)))])) _
            refine XS.lload X181.here hx rfl (hb hby at_196) rfl ?_
            show Steps p.tables e below (T181.setTop (mkF m 198 #[.val (.long q0), .second, .val (.long q1), .second, .val (.long q2), .second, .val (.long q3), .second, .val (.int p4), .val (.int (3 : Int32)), .val (.ref b141), .val (.ref b152), .val (.int (1 : Int32))] [(.long q2), (.long q1), (.long q0), (.int (own_lk (own_t3 (own_sN 61 q0) (own_sN 61 q1) (own_sN 61 q2)) 8 (own_e [q0, q1, q2] q3) 8 (own_sN 61 q3)))])) _
            refine XS.iload X181.here hx rfl (hb hby at_198) rfl ?_
            show Steps p.tables e below (T181.setTop (mkF m 200 #[.val (.long q0), .second, .val (.long q1), .second, .val (.long q2), .second, .val (.long q3), .second, .val (.int p4), .val (.int (3 : Int32)), .val (.ref b141), .val (.ref b152), .val (.int (1 : Int32))] [(.int (3 : Int32)), (.long q2), (.long q1), (.long q0), (.int (own_lk (own_t3 (own_sN 61 q0) (own_sN 61 q1) (own_sN 61 q2)) 8 (own_e [q0, q1, q2] q3) 8 (own_sN 61 q3)))])) _
            refine XS.lload X181.here hx rfl (hb hby at_200) rfl ?_
            exact kt
          obtain ⟨_, _, ⟨T183, L183, k183, n183⟩, -, X183, ⟨Lc183, hQ183, l183, y183, z183⟩, st183⟩ := Jvm.LawKit.callS X181 hx (y := (⟨"com/example/mapstone/mapstone/engine/ConceptIndexPlacePinLaw", "ref", "(JJJIJ)I"⟩ : MethodName)) hown (mvT hZ (hw _ (List.mem_of_getElem? (i := 41) rfl))) (mvT hZ (hw _ (List.mem_of_getElem? (i := 42) rfl))) (mvT hZ (hw _ (List.mem_of_getElem? (i := 43) rfl))) (mvT hZ (hw _ (List.mem_of_getElem? (i := 44) rfl))) (by decide) (backOf (W := 1) (rm8 l Z a0 hw [] q0 q1 q2 (3 : Int32) q3  T158.heap n0 f160 ) hZ (hw _ (List.mem_of_getElem? (i := 44) rfl)) (hw _ (List.mem_of_getElem? (i := 43) rfl)) (by decide) (by decide)) (g := (mkF m 202 #[.val (.long q0), .second, .val (.long q1), .second, .val (.long q2), .second, .val (.long q3), .second, .val (.int p4), .val (.int (3 : Int32)), .val (.ref b141), .val (.ref b152), .val (.int (1 : Int32))] [(.long q3), (.int (3 : Int32)), (.long q2), (.long q1), (.long q0), (.int (own_lk (own_t3 (own_sN 61 q0) (own_sN 61 q1) (own_sN 61 q2)) 8 (own_e [q0, q1, q2] q3) 8 (own_sN 61 q3)))])) rfl (by rw [hml]; rfl) (argsL := [(.long q0), (.long q1), (.long q2), (.int (3 : Int32)), (.long q3)]) (rest := [(.int (own_lk (own_t3 (own_sN 61 q0) (own_sN 61 q1) (own_sN 61 q2)) 8 (own_e [q0, q1, q2] q3) 8 (own_sN 61 q3)))]) (lenOf pd_4 rfl) rfl (by show 2 * 0 + _ ≤ _; exact Nat.le_of_eq rfl) (hb hby at_202) (fun _ _ => ⟨rfl, e181, (by decide : 3 + 0 ≤ _), (by decide : 14 + 0 ≤ _)⟩)
          dsimp only [Pt.U, Pt.locs, Pt.cells, Pt.slots] at X183 l183 y183 z183 st183 hQ183
          subst l183 y183 z183
          obtain ⟨rfl, N183q, e183⟩ := hQ183
          have N183 := Fr.app N181 N183q
          have hd184 : (own_lk (own_t3 (own_sN 61 q0) (own_sN 61 q1) (own_sN 61 q2)) 8 (own_e [q0, q1, q2] q3) 8 (own_sN 61 q3)) = (own_rf (3 : Int32) q0 q1 q2 q3) := own_k3 q0 q1 q2 _ hc15 hc30 hc37
          have c185 : ∀ t, Steps p.tables e below (T183.setTop (mkF m 217 #[.val (.long q0), .second, .val (.long q1), .second, .val (.long q2), .second, .val (.long q3), .second, .val (.int p4), .val (.int (3 : Int32)), .val (.ref b141), .val (.ref b152), .val (.int (1 : Int32))] [(.int (1 : Int32))])) t → Steps p.tables e below (T183.setTop (mkF m 205 #[.val (.long q0), .second, .val (.long q1), .second, .val (.long q2), .second, .val (.long q3), .second, .val (.int p4), .val (.int (3 : Int32)), .val (.ref b141), .val (.ref b152), .val (.int (1 : Int32))] [(.int (own_rf (3 : Int32) q0 q1 q2 q3)), (.int (own_lk (own_t3 (own_sN 61 q0) (own_sN 61 q1) (own_sN 61 q2)) 8 (own_e [q0, q1, q2] q3) 8 (own_sN 61 q3)))])) t := by
            intro t kt
            show Steps p.tables e below (T183.setTop (mkF m 205 #[.val (.long q0), .second, .val (.long q1), .second, .val (.long q2), .second, .val (.long q3), .second, .val (.int p4), .val (.int (3 : Int32)), .val (.ref b141), .val (.ref b152), .val (.int (1 : Int32))] [(.int (own_rf (3 : Int32) q0 q1 q2 q3)), (.int (own_lk (own_t3 (own_sN 61 q0) (own_sN 61 q1) (own_sN 61 q2)) 8 (own_e [q0, q1, q2] q3) 8 (own_sN 61 q3)))])) _
            refine XS.icmpNo X183.here hx rfl (hb hby at_205) rfl (teq (hd184)).2 ?_
            show Steps p.tables e below (T183.setTop (mkF m 208 #[.val (.long q0), .second, .val (.long q1), .second, .val (.long q2), .second, .val (.long q3), .second, .val (.int p4), .val (.int (3 : Int32)), .val (.ref b141), .val (.ref b152), .val (.int (1 : Int32))] [])) _
            refine XS.iconst X183.here hx rfl (hb hby at_208) ?_
            show Steps p.tables e below (T183.setTop (mkF m 209 #[.val (.long q0), .second, .val (.long q1), .second, .val (.long q2), .second, .val (.long q3), .second, .val (.int p4), .val (.int (3 : Int32)), .val (.ref b141), .val (.ref b152), .val (.int (1 : Int32))] [(.int (1 : Int32))])) _
            refine XS.goto X183.here hx rfl (pc0 := 209) (pc' := 213) rfl (hb hby at_209) (by decide) (by decide) ?_
            show Steps p.tables e below (T183.setTop (mkF m 213 #[.val (.long q0), .second, .val (.long q1), .second, .val (.long q2), .second, .val (.long q3), .second, .val (.int p4), .val (.int (3 : Int32)), .val (.ref b141), .val (.ref b152), .val (.int (1 : Int32))] [(.int (1 : Int32))])) _
            refine XS.istore X183.here hx rfl (hb hby at_213) rfl (l' := #[.val (.long q0), .second, .val (.long q1), .second, .val (.long q2), .second, .val (.long q3), .second, .val (.int p4), .val (.int (3 : Int32)), .val (.ref b141), .val (.ref b152), .val (.int (1 : Int32))]) rfl ?_
            show Steps p.tables e below (T183.setTop (mkF m 215 #[.val (.long q0), .second, .val (.long q1), .second, .val (.long q2), .second, .val (.long q3), .second, .val (.int p4), .val (.int (3 : Int32)), .val (.ref b141), .val (.ref b152), .val (.int (1 : Int32))] [])) _
            refine XS.iload X183.here hx rfl (hb hby at_215) rfl ?_
            exact kt
          obtain ⟨fs, hr, hrun, hended, hW, hsame⟩ := X183.leave (v := some (.int (1 : Int32))) (fun h => by rw [Bd.returns] at h; cases h)
          refine ⟨_, _, pre0 _ (c1 _ (c131 _ (c132 _ (c135 _ (c138 _ (c142 _ (st141 _ (c143 _ (st145 _ (c146 _ (st148 _ (c149 _ (st151 _ (st152 _ (c155 _ (st158.trans (c159 _ (st163.trans (c164 _ (st165 _ (c167 _ (st169.trans (c170 _ (st171 _ (c173 _ (st175.trans (c176 _ (st177 _ (c179 _ (st181.trans (c182 _ (st183 _ (c185 _ (?_)))))))))))))))))))))))))))))))))), hrun, hended, _, _, rfl, ?_, ⟨_, rfl⟩, hW, hsame.mono (by decide) (by decide)⟩
          · show Steps p.tables e below (T183.setTop (mkF m 217 #[.val (.long q0), .second, .val (.long q1), .second, .val (.long q2), .second, .val (.long q3), .second, .val (.int p4), .val (.int (3 : Int32)), .val (.ref b141), .val (.ref b152), .val (.int (1 : Int32))] [(.int (1 : Int32))])) _
            exact retN X183 hx (t := .boolean) Bd.returns (by simp) (hb hby at_217) hr
          · show Q0 Z q0 q1 q2 q3 p4 h0 n0 _ T183.heap _
            rw [e183]
            exact ⟨congrArg (fun z => some (Value.int z)) (show (1 : Int32) = (1 : Int32) from by rfl), N183⟩
set_option maxRecDepth 65536 in
set_option maxHeartbeats 40000000 in
theorem comes_1 {Post : Tables → Env → Array Value → State → Outcome → State → Prop} (hpost : ∀ tb e args s v u, (limb_1_1.after args s (.returned v) u = true ∧ limb_1_2.after args s (.returned v) u = true ∧ True) → FrameEnd s (.returned v) u (Jvm.fieldLocs frame_1_writes args s ++ Jvm.arrayLocs frame_1_arrays args s ++ Jvm.staticLocs frame_1_statics s) 16 128 → Post tb e args s (.returned v) u) :
    ArmFor flags0 classFile x code maxLocals ret World_1 tables_1 room_1 Calls_1 rest_1 Pre_1 Post := by
  intro l hfl _ _ p e ha hc hk s m args below hf hA hF happ hP
  obtain ⟨hcalls, hrest, hpre⟩ := hP
  obtain ⟨-, -, -, hnamed, -, -, -, hat⟩ := (Spec.applies_iff hf).mp happ
  obtain ⟨hg, hn⟩ := and_e (Cond.before_iff.mp (show (Jvm.Cond.and given_1 narrow_1).before args s = true from hpre))
  obtain ⟨g1, g2⟩ := and_e hg
  obtain ⟨g3, g4⟩ := and_e g2
  obtain ⟨g5, g6⟩ := and_e g4
  obtain ⟨g7, g8⟩ := and_e g6
  obtain ⟨g9, g10⟩ := and_e g8
  obtain ⟨w0, w1, w2, w3, w4, rfl⟩ : ∃ w0 w1 w2 w3 w4 : Value, args = #[w0, w1, w2, w3, w4] := by
    have hs : args.size = 5 := by simpa [Cond.value, given_1] using g1
    obtain ⟨L⟩ := args
    match L, hs with
    | [w0, w1, w2, w3, w4], _ => exact ⟨w0, w1, w2, w3, w4, rfl⟩
  have hw := fun d (hd : d ∈ tables_1) => atoms_spec (ws := Jvm.Cond.code x code maxLocals ret :: tables_1) hat d (List.mem_cons_of_mem _ hd)
  have hfit : Fit s := fun {y c} hc i hi => by
    obtain ⟨ha, rfl⟩ := Array.getElem?_eq_some_iff.mp hc
    have q := List.all_eq_true.mp ((Array.all_eq_true_iff_forall_mem.mp hF) _ (Array.getElem_mem ha)) i (List.mem_range.mpr hi)
    simpa [Array.getElem?_eq_getElem hi] using q
  obtain ⟨i0, ei0⟩ := isL_v g3
  obtain rfl : w0 = (.long i0) := Option.some.inj ei0
  obtain ⟨i1, ei1⟩ := isL_v g5
  obtain rfl : w1 = (.long i1) := Option.some.inj ei1
  obtain ⟨i2, ei2⟩ := isL_v g7
  obtain rfl : w2 = (.long i2) := Option.some.inj ei2
  obtain ⟨i3, ei3⟩ := isL_v g9
  obtain rfl : w3 = (.long i3) := Option.some.inj ei3
  obtain ⟨i4, ei4⟩ := is_v g10
  obtain rfl : w4 = (.int i4) := Option.some.inj ei4
  obtain ⟨n, o, h1, h2, h3, _, L, rfl, ⟨rfl, N⟩, hq⟩ := rm0 l s _ hw tables_1 i0 i1 i2 i3 i4  s.heap s.heap.size (Nat.le_refl _)  p e ha hc hk s m _ below hf ((Spec.applies_iff_loose hf).mp happ).1 ⟨rfl, State.Warmed39.refl s, rfl⟩ trivial
  refine ⟨n, _, h1, h2, h3, hpost _ _ _ _ _ _ ⟨Cond.after_iff.mpr rfl, Cond.after_iff.mpr (eq_i res_at (Term.int_eval (1)) rfl), trivial⟩ ⟨hq.1, hq.2.1, (hq.2.2.sift fun y hy => Or.inr (N y hy)).mono (by decide) (by decide)⟩⟩
theorem main_1_1 : Claimed_1_1 := comes_1 fun _ _ _ _ _ _ h hF => ⟨h.1, hF⟩
theorem main_1_2 : Claimed_1_2 := comes_1 fun _ _ _ _ _ _ h hF => ⟨h.2.1, hF⟩
end Jvm.Pilot.@@N@@
namespace Jvm.Pilot.@@N@@
open Jvm Jvm.ClassFile Sem Op Lib Jvm.Free Jvm.Stand Jvm.Pilot.@@N@@.Jvm.D
/-! MADE BY PROGRAM (witnessworld.py) out of the Statement's table words and the real class files: 18 classes; the members and pool entries that the words name. The judged class is class 1, her method 2. -/
namespace start1
open Jvm.ClassFile
def u (s : String) : CpInfo := .utf8 (stringToUtf16 s)
/-- a pool by its gaps: so many unusable entries, then the entry; so many at the end -/
def gap : Nat → List CpInfo → List CpInfo
  | 0, r => r
  | n + 1, r => .unusable :: gap n r
def poolList (es : List (Nat × CpInfo)) (last : Nat) : List CpInfo := es.foldr (fun e r => gap e.1 (e.2 :: r)) (gap last [])
def pool (es : List (Nat × CpInfo)) (last : Nat) : Array CpInfo := ⟨poolList es last⟩
def fileOf (pool : Array CpInfo) (this : Nat) (attrs : Array Attribute := #[]) (ms : Array MethodInfo := #[]) (fl : Nat := 33) (sup : Nat := 0) (ifs : Array Nat := #[]) (fds : Array FieldInfo := #[]) : ClassFile where
  minorVersion := 0
  majorVersion := 65
  constantPool := pool
  accessFlags := fl
  thisClass := this
  superClass := sup
  interfaces := ifs
  fields := fds
  methods := ms
  attributes := attrs
def plain (name : String) (sup : Option ClassId) : Class where
  name := name
  kind := .ordinary
  loader := none
  accessFlags := 33
  super := sup
  interfaces := #[]
  cf := none
  fields := #[]
  methods := #[]
  instanceTypes := #[]
  staticTypes := #[]
  resolved := #[]
  callSites := []
  init := .initialized
  statics := none
  mirror := none

def pool0 : Array CpInfo := pool [(5, u "<init>"), (0, u "()V"), (1, .class_ 10), (1, u "java/lang/Object")] 113

def k0c0 : Code := { maxStack := 0, maxLocals := 1, code := object_method_1_code, exceptionTable := #[], attributes := #[] }
def k0m0 : Method := { name := "<init>", desc := "()V", sig := { parameters := [], returnType := none }, accessFlags := 1, code := some k0c0 }
/-- java/lang/Object -/
def k0 : Class := { plain "java/lang/Object" none with
  accessFlags := 33
  interfaces := #[]
  cf := some (fileOf pool0 8 #[] #[{ accessFlags := 1, nameIndex := 5, descriptorIndex := 6, attributes := #[] }] 33 0 #[] #[])
  fields := #[]
  methods := #[k0m0]
  instanceTypes := #[]
  staticTypes := #[]
  resolved := Array.replicate 124 none
  statics := none }

def pool1 : Array CpInfo := pool [(2, .class_ 4), (1, u "java/lang/Object"), (0, u "<init>"), (0, u "()V"), (0, .class_ 8), (0, u "com/example/mapstone/mapstone/engine/ConceptIndex"), (0, .methodref 7 10), (0, .nameAndType 5 11), (0, u "([J)V"), (0, .methodref 7 13), (0, .nameAndType 14 15), (0, u "place"), (0, u "(J)I"), (0, .methodref 17 18), (0, .class_ 19), (0, .nameAndType 20 21), (0, u "com/example/mapstone/mapstone/engine/ConceptIndexPlacePinLaw"), (0, u "ref"), (0, u "(JJJIJ)I"), (3, u "law"), (0, u "(JJJJI)Z")] 4

def k1m0 : Method := { name := "<init>", desc := "()V", sig := { parameters := [], returnType := none }, accessFlags := 1, code := none }
def k1c1 : Code := { maxStack := 4, maxLocals := 9, code := method_2_code, exceptionTable := #[], attributes := #[] }
def k1m1 : Method := { name := "ref", desc := "(JJJIJ)I", sig := { parameters := [.long, .long, .long, .int, .long], returnType := some .int }, accessFlags := 10, code := some k1c1 }
def k1c2 : Code := { maxStack := 10, maxLocals := 13, code := code, exceptionTable := #[], attributes := #[] }
def k1m2 : Method := { name := "law", desc := "(JJJJI)Z", sig := { parameters := [.long, .long, .long, .long, .int], returnType := some .boolean }, accessFlags := 9, code := some k1c2 }
/-- com/example/mapstone/mapstone/engine/ConceptIndexPlacePinLaw -/
def k1 : Class := { plain "com/example/mapstone/mapstone/engine/ConceptIndexPlacePinLaw" (some 0) with
  accessFlags := 49
  interfaces := #[]
  cf := some (fileOf pool1 17 #[] #[{ accessFlags := 1, nameIndex := 5, descriptorIndex := 6, attributes := #[] }, { accessFlags := 10, nameIndex := 20, descriptorIndex := 21, attributes := #[] }, { accessFlags := 9, nameIndex := 25, descriptorIndex := 26, attributes := #[] }] 49 2 #[] #[])
  fields := #[]
  methods := #[k1m0, k1m1, k1m2]
  instanceTypes := #[]
  staticTypes := #[]
  resolved := Array.replicate 31 none
  statics := none }

def pool2 : Array CpInfo := pool [(1, .methodref 2 3), (0, .class_ 4), (0, .nameAndType 5 6), (0, u "java/lang/Object"), (0, u "<init>"), (0, u "()V"), (0, .fieldref 8 9), (0, .class_ 10), (0, .nameAndType 11 12), (0, u "com/example/mapstone/mapstone/engine/ConceptIndex"), (0, u "concepts"), (0, u "[J"), (0, .long 2), (1, .methodref 16 17), (0, .class_ 18), (0, .nameAndType 19 20), (0, u "java/lang/Math"), (0, u "max"), (0, u "(JJ)J"), (0, .methodref 22 23), (0, .class_ 24), (0, .nameAndType 25 26), (0, u "java/lang/Long"), (0, u "numberOfLeadingZeros"), (0, u "(J)I"), (0, .fieldref 8 28), (0, .nameAndType 29 30), (0, u "slots"), (0, u "[I"), (0, .fieldref 8 32), (0, .nameAndType 33 34), (0, u "shift"), (0, u "I"), (0, .methodref 8 36), (0, .nameAndType 37 26), (0, u "slot"), (0, .long 11400714819323198485), (1, u "SPREAD"), (0, u "J"), (1, u "([J)V"), (4, u "place")] 4

def k2c0 : Code := { maxStack := 5, maxLocals := 5, code := prog_18_method_1_code, exceptionTable := #[], attributes := #[] }
def k2m0 : Method := { name := "<init>", desc := "([J)V", sig := { parameters := [(.array .long)], returnType := none }, accessFlags := 0, code := some k2c0 }
def k2c1 : Code := { maxStack := 4, maxLocals := 5, code := prog_18_method_2_code, exceptionTable := #[], attributes := #[] }
def k2m1 : Method := { name := "place", desc := "(J)I", sig := { parameters := [.long], returnType := some .int }, accessFlags := 0, code := some k2c1 }
def k2c2 : Code := { maxStack := 4, maxLocals := 3, code := prog_18_method_4_code, exceptionTable := #[], attributes := #[] }
def k2m2 : Method := { name := "slot", desc := "(J)I", sig := { parameters := [.long], returnType := some .int }, accessFlags := 2, code := some k2c2 }
/-- com/example/mapstone/mapstone/engine/ConceptIndex -/
def k2 : Class := { plain "com/example/mapstone/mapstone/engine/ConceptIndex" (some 0) with
  accessFlags := 48
  interfaces := #[]
  cf := some (fileOf pool2 8 #[] #[{ accessFlags := 0, nameIndex := 5, descriptorIndex := 43, attributes := #[] }, { accessFlags := 0, nameIndex := 48, descriptorIndex := 26, attributes := #[] }, { accessFlags := 2, nameIndex := 37, descriptorIndex := 26, attributes := #[] }] 48 2 #[] #[{ accessFlags := 26, nameIndex := 40, descriptorIndex := 41, attributes := #[] }, { accessFlags := 18, nameIndex := 11, descriptorIndex := 12, attributes := #[] }, { accessFlags := 18, nameIndex := 29, descriptorIndex := 30, attributes := #[] }, { accessFlags := 18, nameIndex := 33, descriptorIndex := 34, attributes := #[] }])
  fields := #[{ name := "SPREAD", type := .long, accessFlags := 26, slot := 0, constantValue := 0 }, { name := "concepts", type := (.array .long), accessFlags := 18, slot := 0, constantValue := 0 }, { name := "slots", type := (.array .int), accessFlags := 18, slot := 1, constantValue := 0 }, { name := "shift", type := .int, accessFlags := 18, slot := 2, constantValue := 0 }]
  methods := #[k2m0, k2m1, k2m2]
  instanceTypes := #[(.array .long), (.array .int), .int]
  staticTypes := #[.long]
  resolved := Array.replicate 53 none
  statics := none }

def pool3 : Array CpInfo := pool [(1, .class_ 2), (0, u "java/lang/Math"), (1, .class_ 6), (1, u "java/lang/Object"), (0, u "<init>"), (0, u "()V"), (89, .class_ 100), (1, u "java/lang/Math$RandomNumberGeneratorHolder"), (20, u "(JJ)J"), (50, u "negativeZeroFloatBits"), (0, u "J"), (2, u "negativeZeroDoubleBits"), (21, u "max"), (46, u "$assertionsDisabled"), (0, u "Z"), (91, u "twoToTheDoubleScaleDown"), (0, u "D"), (4, u "twoToTheDoubleScaleUp"), (9, u "E"), (3, u "PI"), (2, u "TAU"), (2, u "DEGREES_TO_RADIANS"), (0, u "RADIANS_TO_DEGREES")] 94

def k3m0 : Method := { name := "<init>", desc := "()V", sig := { parameters := [], returnType := none }, accessFlags := 2, code := none }
def k3c1 : Code := { maxStack := 4, maxLocals := 4, code := jdk_29_method_66_code, exceptionTable := #[], attributes := #[] }
def k3m1 : Method := { name := "max", desc := "(JJ)J", sig := { parameters := [.long, .long], returnType := some .long }, accessFlags := 9, code := some k3c1 }
/-- java/lang/Math -/
def k3 : Class := { plain "java/lang/Math" (some 0) with
  accessFlags := 49
  interfaces := #[]
  cf := some (fileOf pool3 1 #[.nestMembers #[98]] #[{ accessFlags := 2, nameIndex := 7, descriptorIndex := 8, attributes := #[] }, { accessFlags := 9, nameIndex := 198, descriptorIndex := 121, attributes := #[] }] 49 4 #[] #[{ accessFlags := 25, nameIndex := 354, descriptorIndex := 339, attributes := #[] }, { accessFlags := 25, nameIndex := 358, descriptorIndex := 339, attributes := #[] }, { accessFlags := 25, nameIndex := 361, descriptorIndex := 339, attributes := #[] }, { accessFlags := 26, nameIndex := 364, descriptorIndex := 339, attributes := #[] }, { accessFlags := 26, nameIndex := 365, descriptorIndex := 339, attributes := #[] }, { accessFlags := 26, nameIndex := 172, descriptorIndex := 173, attributes := #[] }, { accessFlags := 26, nameIndex := 176, descriptorIndex := 173, attributes := #[] }, { accessFlags := 8, nameIndex := 344, descriptorIndex := 339, attributes := #[] }, { accessFlags := 8, nameIndex := 338, descriptorIndex := 339, attributes := #[] }, { accessFlags := 4120, nameIndex := 245, descriptorIndex := 246, attributes := #[] }])
  fields := #[{ name := "E", type := .double, accessFlags := 25, slot := 0, constantValue := 0 }, { name := "PI", type := .double, accessFlags := 25, slot := 1, constantValue := 0 }, { name := "TAU", type := .double, accessFlags := 25, slot := 2, constantValue := 0 }, { name := "DEGREES_TO_RADIANS", type := .double, accessFlags := 26, slot := 3, constantValue := 0 }, { name := "RADIANS_TO_DEGREES", type := .double, accessFlags := 26, slot := 4, constantValue := 0 }, { name := "negativeZeroFloatBits", type := .long, accessFlags := 26, slot := 5, constantValue := 0 }, { name := "negativeZeroDoubleBits", type := .long, accessFlags := 26, slot := 6, constantValue := 0 }, { name := "twoToTheDoubleScaleUp", type := .double, accessFlags := 8, slot := 7, constantValue := 0 }, { name := "twoToTheDoubleScaleDown", type := .double, accessFlags := 8, slot := 8, constantValue := 0 }, { name := "$assertionsDisabled", type := .boolean, accessFlags := 4120, slot := 9, constantValue := 0 }]
  methods := #[k3m0, k3m1]
  instanceTypes := #[]
  staticTypes := #[.double, .double, .double, .double, .double, .long, .long, .double, .double, .boolean]
  resolved := Array.replicate 460 none
  statics := none }

def pool4 : Array CpInfo := pool [(1, .class_ 2), (0, u "java/io/Serializable"), (0, .class_ 4), (0, u "java/lang/Object")] 2

/-- java/io/Serializable -/
def k4 : Class := { plain "java/io/Serializable" (some 0) with
  accessFlags := 1537
  interfaces := #[]
  cf := some (fileOf pool4 1 #[] #[] 1537 3 #[] #[])
  fields := #[]
  methods := #[]
  instanceTypes := #[]
  staticTypes := #[]
  resolved := Array.replicate 7 none
  statics := none }

def pool5 : Array CpInfo := pool [(2, .class_ 4), (1, u "java/lang/Object"), (0, u "<init>"), (0, u "()V"), (1, .class_ 10), (1, u "java/lang/Number"), (2, .class_ 14), (0, u "java/io/Serializable"), (0, u "serialVersionUID"), (0, u "J")] 20

def k5m0 : Method := { name := "<init>", desc := "()V", sig := { parameters := [], returnType := none }, accessFlags := 1, code := none }
/-- java/lang/Number -/
def k5 : Class := { plain "java/lang/Number" (some 0) with
  accessFlags := 1057
  interfaces := #[4]
  cf := some (fileOf pool5 8 #[] #[{ accessFlags := 1, nameIndex := 5, descriptorIndex := 6, attributes := #[] }] 1057 2 #[13] #[{ accessFlags := 26, nameIndex := 15, descriptorIndex := 16, attributes := #[] }])
  fields := #[{ name := "serialVersionUID", type := .long, accessFlags := 26, slot := 0, constantValue := 0 }]
  methods := #[k5m0]
  instanceTypes := #[]
  staticTypes := #[.long]
  resolved := Array.replicate 37 none
  statics := none }

def pool6 : Array CpInfo := pool [(1, .class_ 2), (0, u "java/lang/Comparable"), (0, .class_ 4), (0, u "java/lang/Object")] 7

/-- java/lang/Comparable -/
def k6 : Class := { plain "java/lang/Comparable" (some 0) with
  accessFlags := 1537
  interfaces := #[]
  cf := some (fileOf pool6 1 #[] #[] 1537 3 #[] #[])
  fields := #[]
  methods := #[]
  instanceTypes := #[]
  staticTypes := #[]
  resolved := Array.replicate 12 none
  statics := none }

def pool7 : Array CpInfo := pool [(1, .class_ 2), (0, u "java/lang/constant/Constable"), (0, .class_ 4), (0, u "java/lang/Object")] 6

/-- java/lang/constant/Constable -/
def k7 : Class := { plain "java/lang/constant/Constable" (some 0) with
  accessFlags := 1537
  interfaces := #[]
  cf := some (fileOf pool7 1 #[] #[] 1537 3 #[] #[])
  fields := #[]
  methods := #[]
  instanceTypes := #[]
  staticTypes := #[]
  resolved := Array.replicate 11 none
  statics := none }

def pool8 : Array CpInfo := pool [(1, .class_ 2), (0, u "java/lang/constant/ConstantDesc"), (0, .class_ 4), (0, u "java/lang/Object")] 32

/-- java/lang/constant/ConstantDesc -/
def k8 : Class := { plain "java/lang/constant/ConstantDesc" (some 0) with
  accessFlags := 1537
  interfaces := #[]
  cf := some (fileOf pool8 1 #[] #[] 1537 3 #[] #[])
  fields := #[]
  methods := #[]
  instanceTypes := #[]
  staticTypes := #[]
  resolved := Array.replicate 37 none
  statics := none }

def pool9 : Array CpInfo := pool [(1, .class_ 2), (0, u "java/lang/Long"), (15, .class_ 20), (1, u "java/lang/Integer"), (79, u "numberOfLeadingZeros"), (0, u "(J)I"), (133, .class_ 237), (1, u "java/lang/Long$LongCache"), (33, .class_ 272), (0, u "java/lang/Number"), (2, u "value"), (0, u "J"), (31, .methodref 18 309), (0, .nameAndType 100 310), (0, u "(I)I"), (50, u "TYPE"), (0, u "Ljava/lang/Class;"), (0, .class_ 364), (0, u "java/lang/Comparable"), (0, .class_ 366), (0, u "java/lang/constant/Constable"), (0, .class_ 368), (0, u "java/lang/constant/ConstantDesc"), (0, u "MIN_VALUE"), (1, u "MAX_VALUE"), (4, u "SIZE"), (0, u "I"), (1, u "BYTES"), (1, u "serialVersionUID")] 142

def k9c0 : Code := { maxStack := 3, maxLocals := 3, code := jdk_35_method_48_code, exceptionTable := #[], attributes := #[] }
def k9m0 : Method := { name := "numberOfLeadingZeros", desc := "(J)I", sig := { parameters := [.long], returnType := some .int }, accessFlags := 9, code := some k9c0 }
/-- java/lang/Long -/
def k9 : Class := { plain "java/lang/Long" (some 5) with
  accessFlags := 49
  interfaces := #[6, 7, 8]
  cf := some (fileOf pool9 1 #[.nestMembers #[235]] #[{ accessFlags := 9, nameIndex := 100, descriptorIndex := 101, attributes := #[] }] 49 271 #[363, 365, 367] #[{ accessFlags := 25, nameIndex := 369, descriptorIndex := 276, attributes := #[] }, { accessFlags := 25, nameIndex := 371, descriptorIndex := 276, attributes := #[] }, { accessFlags := 25, nameIndex := 361, descriptorIndex := 362, attributes := #[] }, { accessFlags := 18, nameIndex := 275, descriptorIndex := 276, attributes := #[] }, { accessFlags := 25, nameIndex := 376, descriptorIndex := 377, attributes := #[] }, { accessFlags := 25, nameIndex := 379, descriptorIndex := 377, attributes := #[] }, { accessFlags := 26, nameIndex := 381, descriptorIndex := 276, attributes := #[] }])
  fields := #[{ name := "MIN_VALUE", type := .long, accessFlags := 25, slot := 0, constantValue := 0 }, { name := "MAX_VALUE", type := .long, accessFlags := 25, slot := 1, constantValue := 0 }, { name := "TYPE", type := (.object "java/lang/Class"), accessFlags := 25, slot := 2, constantValue := 0 }, { name := "value", type := .long, accessFlags := 18, slot := 0, constantValue := 0 }, { name := "SIZE", type := .int, accessFlags := 25, slot := 3, constantValue := 0 }, { name := "BYTES", type := .int, accessFlags := 25, slot := 4, constantValue := 0 }, { name := "serialVersionUID", type := .long, accessFlags := 26, slot := 5, constantValue := 0 }]
  methods := #[k9m0]
  instanceTypes := #[.long]
  staticTypes := #[.long, .long, (.object "java/lang/Class"), .int, .int, .long]
  resolved := Array.replicate 524 none
  statics := none }

def pool10 : Array CpInfo := pool [(1, .class_ 2), (0, u "java/lang/Integer"), (16, u "digits"), (0, u "[C"), (32, u "numberOfLeadingZeros"), (0, u "(I)I"), (30, u "DigitOnes"), (0, u "[B"), (2, u "DigitTens"), (99, .class_ 190), (0, u "java/lang/Integer$IntegerCache"), (3, u "I"), (8, .class_ 204), (0, u "java/lang/Number"), (2, u "value"), (56, .integer 65536), (37, u "TYPE"), (0, u "Ljava/lang/Class;"), (0, .class_ 305), (0, u "java/lang/Comparable"), (0, .class_ 307), (0, u "java/lang/constant/Constable"), (0, .class_ 309), (0, u "java/lang/constant/ConstantDesc"), (0, u "MIN_VALUE"), (1, u "MAX_VALUE"), (3, u "SIZE"), (1, u "BYTES"), (1, u "serialVersionUID"), (0, u "J")] 131

def k10c0 : Code := { maxStack := 3, maxLocals := 2, code := jdk_33_method_47_code, exceptionTable := #[], attributes := #[] }
def k10m0 : Method := { name := "numberOfLeadingZeros", desc := "(I)I", sig := { parameters := [.int], returnType := some .int }, accessFlags := 9, code := some k10c0 }
/-- java/lang/Integer -/
def k10 : Class := { plain "java/lang/Integer" (some 5) with
  accessFlags := 49
  interfaces := #[6, 7, 8]
  cf := some (fileOf pool10 1 #[.nestMembers #[189]] #[{ accessFlags := 9, nameIndex := 53, descriptorIndex := 54, attributes := #[] }] 49 203 #[304, 306, 308] #[{ accessFlags := 25, nameIndex := 310, descriptorIndex := 194, attributes := #[] }, { accessFlags := 25, nameIndex := 312, descriptorIndex := 194, attributes := #[] }, { accessFlags := 25, nameIndex := 302, descriptorIndex := 303, attributes := #[] }, { accessFlags := 24, nameIndex := 19, descriptorIndex := 20, attributes := #[] }, { accessFlags := 24, nameIndex := 89, descriptorIndex := 86, attributes := #[] }, { accessFlags := 24, nameIndex := 85, descriptorIndex := 86, attributes := #[] }, { accessFlags := 18, nameIndex := 207, descriptorIndex := 194, attributes := #[] }, { accessFlags := 25, nameIndex := 316, descriptorIndex := 194, attributes := #[] }, { accessFlags := 25, nameIndex := 318, descriptorIndex := 194, attributes := #[] }, { accessFlags := 26, nameIndex := 320, descriptorIndex := 321, attributes := #[] }])
  fields := #[{ name := "MIN_VALUE", type := .int, accessFlags := 25, slot := 0, constantValue := 0 }, { name := "MAX_VALUE", type := .int, accessFlags := 25, slot := 1, constantValue := 0 }, { name := "TYPE", type := (.object "java/lang/Class"), accessFlags := 25, slot := 2, constantValue := 0 }, { name := "digits", type := (.array .char), accessFlags := 24, slot := 3, constantValue := 0 }, { name := "DigitTens", type := (.array .byte), accessFlags := 24, slot := 4, constantValue := 0 }, { name := "DigitOnes", type := (.array .byte), accessFlags := 24, slot := 5, constantValue := 0 }, { name := "value", type := .int, accessFlags := 18, slot := 0, constantValue := 0 }, { name := "SIZE", type := .int, accessFlags := 25, slot := 6, constantValue := 0 }, { name := "BYTES", type := .int, accessFlags := 25, slot := 7, constantValue := 0 }, { name := "serialVersionUID", type := .long, accessFlags := 26, slot := 8, constantValue := 0 }]
  methods := #[k10m0]
  instanceTypes := #[.int]
  staticTypes := #[.int, .int, (.object "java/lang/Class"), (.array .char), (.array .byte), (.array .byte), .int, .int, .long]
  resolved := Array.replicate 453 none
  statics := none }

def pool11 : Array CpInfo := pool [(1, u "java/lang/Cloneable"), (0, .class_ 1), (0, u "java/lang/Object"), (0, .class_ 3)] 3

/-- java/lang/Cloneable -/
def k11 : Class := { plain "java/lang/Cloneable" (some 0) with
  accessFlags := 1537
  interfaces := #[]
  cf := some (fileOf pool11 2 #[] #[] 1537 4 #[] #[])
  fields := #[]
  methods := #[]
  instanceTypes := #[]
  staticTypes := #[]
  resolved := Array.replicate 8 none
  statics := none }

/-- the primitive byte -/
def k12 : Class := { plain "byte" none with kind := .primitive 'B', accessFlags := 0x411 }
/-- [B -/
def k13 : Class := { plain "[B" (some 0) with kind := .array 12 .byte, interfaces := #[11, 4], accessFlags := 1041 }

/-- the primitive int -/
def k14 : Class := { plain "int" none with kind := .primitive 'I', accessFlags := 0x411 }
/-- [I -/
def k15 : Class := { plain "[I" (some 0) with kind := .array 14 .int, interfaces := #[11, 4], accessFlags := 1041 }

/-- the primitive long -/
def k16 : Class := { plain "long" none with kind := .primitive 'J', accessFlags := 0x411 }
/-- [J -/
def k17 : Class := { plain "[J" (some 0) with kind := .array 16 .long, interfaces := #[11, 4], accessFlags := 1041 }

def heap : Heap := #[]
def classes : Array Class := #[k0, k1, k2, k3, k4, k5, k6, k7, k8, k9, k10, k11, k12, k13, k14, k15, k16, k17]
def interned : List (Array UInt16 × Addr) := []
def slotsUsed : Nat := 0
def theMethod : MethodId := ⟨1, 2⟩
def args0 : Array Value := #[.long 5, .long 5, .long 5, .long 5, .int 5]
def aboutOver (below : List Frame) : State where
  vm := { classes := classes, interned := interned.toArray }
  heap := heap
  slotsUsed := slotsUsed
  threads := #[{ frames := .invoking theMethod args0 :: below }]
def below0 : List Frame := [.native { method := ⟨0, 0⟩, args := #[] }]
def about1 : State := aboutOver below0
def p0 : Program := .bare "" "" ""
def e0 : Env := launch0.env 0 0 0
theorem w_frames : about1.frames = Frame.invoking theMethod args0 :: below0 := rfl
set_option maxRecDepth 65536 in
theorem w_args : argsFit about1.vm theMethod args0 = true := by decide +kernel
set_option maxRecDepth 65536 in
theorem w_heap : heapFits about1 = true := by decide +kernel
set_option maxRecDepth 65536 in
theorem w_runnable : about1.curStatus? = some .runnable := by decide +kernel
set_option maxRecDepth 65536 in
theorem w_alone : about1.alone = true := by decide +kernel
set_option maxRecDepth 65536 in
theorem w_named : about1.methodNamed? x = some theMethod := by decide +kernel
set_option maxRecDepth 65536 in
theorem w_hears : about1.hears theMethod below0 = true := by decide +kernel
set_option maxRecDepth 65536 in
theorem w_ripe : about1.ripe theMethod args0 below0 = true := by decide +kernel
theorem w_running : about1.status = .running := rfl
set_option maxRecDepth 65536 in
theorem w_room : about1.hasRoom e0.platform room_1 = true :=
  launch0.hasRoom_least _ room_1 (by decide +kernel) (by decide +kernel) (by decide +kernel) (by decide +kernel) (by decide +kernel) (by decide +kernel)
theorem allAtoms_all (ts : List Jvm.Cond) (a : Array Jvm.Value) (st : Jvm.State) : (allAtoms ts).before a st = ts.all (fun c => c.before a st) := by
  induction ts with
  | nil => rfl
  | cons c t ih =>
    show (Jvm.Cond.and c (allAtoms t)).before a st = _
    rw [Jvm.Cond.before_and, ih, List.all_cons]
def words1 : List Jvm.Cond := Jvm.Cond.code x code maxLocals ret :: tables_1
/-- a 'code' word, met by the world's own term for the bytes: nothing is compared byte by byte -/
theorem code_word {y : MethodName} {bytes : ByteArray} {mx : Nat} {rt : Option FieldType} {a : Array Value} {s : State} {m : MethodId} {meth : Method} {c : Code} (h1 : s.methodNamed? y = some m) (h2 : s.vm.method? m = some meth) (h3 : meth.code = some c) (h4 : c.code = bytes)
    (h5 : (c.maxLocals == mx && c.exceptionTable.isEmpty && decide (c.maxStack ≤ mostOperands) && decide (meth.sig.returnType = rt) && !meth.locks && decide (parseMethodDescriptor y.desc = some meth.sig)) = true) : (Jvm.Cond.code y bytes mx rt).before a s = true := by
  simp only [Bool.and_eq_true, beq_iff_eq, Bool.not_eq_true', decide_eq_true_eq] at h5
  obtain ⟨⟨⟨⟨⟨g1, g2⟩, g3⟩, g4⟩, g5⟩, g6⟩ := h5
  simp [Cond.before, Cond.holds, Cond.value, h1, h2, h3, h4, g1, g2, g3, g4, g5, g6]
def isCode : Jvm.Cond → Bool
  | .code _ _ _ _ => true
  | _ => false
theorem all_split {L : List Jvm.Cond} {P : Jvm.Cond → Bool} (h1 : L.all (fun c => isCode c || P c) = true) (h2 : ∀ c ∈ L.filter isCode, P c = true) : L.all P = true := by
  refine List.all_eq_true.mpr fun c hc => ?_
  have h := List.all_eq_true.mp h1 c hc
  rcases Bool.eq_false_or_eq_true (isCode c) with hi | hi
  · exact h2 c (List.mem_filter.mpr ⟨hc, hi⟩)
  · simpa [hi] using h
set_option maxRecDepth 65536 in
theorem w_c0 : (Jvm.Cond.code x code maxLocals ret).before args0 about1 = true := code_word (m := ⟨1, 2⟩) (meth := k1m2) (c := k1c2) (by decide +kernel) rfl rfl rfl (by decide +kernel)
set_option maxRecDepth 65536 in
theorem w_c1 : (Jvm.Cond.code ({ cls := "com/example/mapstone/mapstone/engine/ConceptIndex", name := "<init>", desc := "([J)V" } : Jvm.MethodName) prog_18_method_1_code (5 : Nat) (Option.none : Option Jvm.ClassFile.FieldType)).before args0 about1 = true := code_word (m := ⟨2, 0⟩) (meth := k2m0) (c := k2c0) (by decide +kernel) rfl rfl rfl (by decide +kernel)
set_option maxRecDepth 65536 in
theorem w_c2 : (Jvm.Cond.code ({ cls := "java/lang/Object", name := "<init>", desc := "()V" } : Jvm.MethodName) object_method_1_code (1 : Nat) (Option.none : Option Jvm.ClassFile.FieldType)).before args0 about1 = true := code_word (m := ⟨0, 0⟩) (meth := k0m0) (c := k0c0) (by decide +kernel) rfl rfl rfl (by decide +kernel)
set_option maxRecDepth 65536 in
theorem w_c3 : (Jvm.Cond.code ({ cls := "java/lang/Math", name := "max", desc := "(JJ)J" } : Jvm.MethodName) jdk_29_method_66_code (4 : Nat) (Option.some Jvm.ClassFile.FieldType.long)).before args0 about1 = true := code_word (m := ⟨3, 1⟩) (meth := k3m1) (c := k3c1) (by decide +kernel) rfl rfl rfl (by decide +kernel)
set_option maxRecDepth 65536 in
theorem w_c4 : (Jvm.Cond.code ({ cls := "java/lang/Long", name := "numberOfLeadingZeros", desc := "(J)I" } : Jvm.MethodName) jdk_35_method_48_code (3 : Nat) (Option.some Jvm.ClassFile.FieldType.int)).before args0 about1 = true := code_word (m := ⟨9, 0⟩) (meth := k9m0) (c := k9c0) (by decide +kernel) rfl rfl rfl (by decide +kernel)
set_option maxRecDepth 65536 in
theorem w_c5 : (Jvm.Cond.code ({ cls := "java/lang/Integer", name := "numberOfLeadingZeros", desc := "(I)I" } : Jvm.MethodName) jdk_33_method_47_code (2 : Nat) (Option.some Jvm.ClassFile.FieldType.int)).before args0 about1 = true := code_word (m := ⟨10, 0⟩) (meth := k10m0) (c := k10c0) (by decide +kernel) rfl rfl rfl (by decide +kernel)
set_option maxRecDepth 65536 in
theorem w_c6 : (Jvm.Cond.code ({ cls := "com/example/mapstone/mapstone/engine/ConceptIndex", name := "slot", desc := "(J)I" } : Jvm.MethodName) prog_18_method_4_code (3 : Nat) (Option.some Jvm.ClassFile.FieldType.int)).before args0 about1 = true := code_word (m := ⟨2, 2⟩) (meth := k2m2) (c := k2c2) (by decide +kernel) rfl rfl rfl (by decide +kernel)
set_option maxRecDepth 65536 in
theorem w_c7 : (Jvm.Cond.code ({ cls := "com/example/mapstone/mapstone/engine/ConceptIndex", name := "place", desc := "(J)I" } : Jvm.MethodName) prog_18_method_2_code (5 : Nat) (Option.some Jvm.ClassFile.FieldType.int)).before args0 about1 = true := code_word (m := ⟨2, 1⟩) (meth := k2m1) (c := k2c1) (by decide +kernel) rfl rfl rfl (by decide +kernel)
set_option maxRecDepth 65536 in
theorem w_c8 : (Jvm.Cond.code ({ cls := "com/example/mapstone/mapstone/engine/ConceptIndexPlacePinLaw", name := "ref", desc := "(JJJIJ)I" } : Jvm.MethodName) method_2_code (9 : Nat) (Option.some Jvm.ClassFile.FieldType.int)).before args0 about1 = true := code_word (m := ⟨1, 1⟩) (meth := k1m1) (c := k1c1) (by decide +kernel) rfl rfl rfl (by decide +kernel)
def codes1 : List Jvm.Cond := [Jvm.Cond.code x code maxLocals ret, Jvm.Cond.code ({ cls := "com/example/mapstone/mapstone/engine/ConceptIndex", name := "<init>", desc := "([J)V" } : Jvm.MethodName) prog_18_method_1_code (5 : Nat) (Option.none : Option Jvm.ClassFile.FieldType), Jvm.Cond.code ({ cls := "java/lang/Object", name := "<init>", desc := "()V" } : Jvm.MethodName) object_method_1_code (1 : Nat) (Option.none : Option Jvm.ClassFile.FieldType), Jvm.Cond.code ({ cls := "java/lang/Math", name := "max", desc := "(JJ)J" } : Jvm.MethodName) jdk_29_method_66_code (4 : Nat) (Option.some Jvm.ClassFile.FieldType.long), Jvm.Cond.code ({ cls := "java/lang/Long", name := "numberOfLeadingZeros", desc := "(J)I" } : Jvm.MethodName) jdk_35_method_48_code (3 : Nat) (Option.some Jvm.ClassFile.FieldType.int), Jvm.Cond.code ({ cls := "java/lang/Integer", name := "numberOfLeadingZeros", desc := "(I)I" } : Jvm.MethodName) jdk_33_method_47_code (2 : Nat) (Option.some Jvm.ClassFile.FieldType.int), Jvm.Cond.code ({ cls := "com/example/mapstone/mapstone/engine/ConceptIndex", name := "slot", desc := "(J)I" } : Jvm.MethodName) prog_18_method_4_code (3 : Nat) (Option.some Jvm.ClassFile.FieldType.int), Jvm.Cond.code ({ cls := "com/example/mapstone/mapstone/engine/ConceptIndex", name := "place", desc := "(J)I" } : Jvm.MethodName) prog_18_method_2_code (5 : Nat) (Option.some Jvm.ClassFile.FieldType.int), Jvm.Cond.code ({ cls := "com/example/mapstone/mapstone/engine/ConceptIndexPlacePinLaw", name := "ref", desc := "(JJJIJ)I" } : Jvm.MethodName) method_2_code (9 : Nat) (Option.some Jvm.ClassFile.FieldType.int)]
set_option maxRecDepth 65536 in
theorem codes_eq : words1.filter isCode = codes1 := rfl
theorem w_codes : ∀ c ∈ words1.filter isCode, c.before args0 about1 = true := by
  rw [codes_eq]
  intro c hc
  simp only [codes1, List.mem_cons, List.not_mem_nil, or_false] at hc
  rcases hc with rfl | rfl | rfl | rfl | rfl | rfl | rfl | rfl | rfl
  · exact w_c0
  · exact w_c1
  · exact w_c2
  · exact w_c3
  · exact w_c4
  · exact w_c5
  · exact w_c6
  · exact w_c7
  · exact w_c8
set_option maxRecDepth 65536 in
theorem w_t1 : (words1.take 24).all (fun c => isCode c || c.before args0 about1) = true := by decide +kernel
set_option maxRecDepth 65536 in
theorem w_t2 : (words1.drop 24).all (fun c => isCode c || c.before args0 about1) = true := by decide +kernel
theorem w_tables : (allAtoms (Jvm.Cond.code x code maxLocals ret :: tables_1)).before args0 about1 = true := by
  rw [allAtoms_all]
  show words1.all (fun c => c.before args0 about1) = true
  refine all_split ?_ w_codes
  rw [← List.take_append_drop 24 words1, List.all_append, w_t1, w_t2]
  rfl
set_option maxRecDepth 65536 in
theorem w_case : (Jvm.Cond.and given_1 narrow_1).before args0 about1 = true := by decide +kernel
theorem w_applies : (headSpec (Jvm.Cond.code x code maxLocals ret :: tables_1) room_1).applies x e0.platform about1 = true :=
  (Spec.applies_iff w_frames).mpr ⟨w_running, w_runnable, w_alone, w_named, w_hears, w_ripe, w_room, w_tables⟩
theorem atStart : AtStart classFile x code maxLocals ret World_1 tables_1 room_1 Calls_1 rest_1 Pre_1 launch0 p0 e0 about1 theMethod args0 below0 :=
  ⟨lists_1, trivial, launch0.admits_env _ _ _, launch0.least_env, fairChoices_fair.cas, fairChoices_fair.clock, w_frames, w_args, w_heap, w_applies, trivial, trivial, w_case⟩
end start1
theorem witness_1 : WitnessClaimed_1 := ⟨start1.p0, start1.e0, start1.about1, start1.theMethod, start1.args0, start1.below0, start1.atStart⟩
end Jvm.Pilot.@@N@@
