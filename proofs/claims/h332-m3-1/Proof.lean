import JvmDerived
import JvmDerived.Pilot.@@N@@Statement
import JvmDerived.Pilot.@@N@@Code
set_option linter.unusedVariables false
set_option linter.unusedSimpArgs false

namespace Jvm.RoadKit
open Sem ClassFile Op Lib Jvm.Stand Jvm.Free Jvm.LawKit
section New
variable {p : Program} {l : Launch} {e : Env} {R : Room} {s : State} {m : MethodId} {args : Array Value} {below : List Frame} {meth : Method} {c : Code} {T : State} {locs : List Loc} {cells slots : Nat}
theorem retI (X : Stand p l e R s m args below meth c T locs cells slots) (hx : p.tables.exec = Jvm.exec) {pc : Nat} {Ls : Array Slot} {z : Int32} {rest : List Value} (hret : meth.sig.returnType = some .int) (hd : decode c.code pc = .ok (.ireturn, 1)) {fs : List Frame}
    (hl : ∀ (f : JFrame) (acts : List Action), f.method = m → f.locked = none → f.entered = [] → (doReturn e (T.setTop f) acts (some (.int z))).1 = T.setFrames fs) : Steps p.tables e below (T.setTop (mkF m pc Ls (.int z :: rest))) (T.setFrames fs) := by
  have hm' : T.vm.method? m = some meth := X.method'
  have hn : narrow .int (.int z) = .int z := rfl
  show Steps p.tables e below (T.setTop { method := m, pc := pc, locals := Ls, stack := _ :: rest, locked := none }) _
  jvm_step X.here [X.here.top, hx, hd, hm', hret, hn]
  first | (intro acts; rw [hl _ acts rfl rfl rfl]) | rw [hl _ _ rfl rfl rfl]
  exact Steps.refl _
theorem own_lrem {g : JFrame} {target : State} (X : Stand p l e R s m args below meth c T locs cells slots) (hx : p.tables.exec = Jvm.exec) (hg : g.method = m) {x y : Int64} {rest : List Value} (hd : decode c.code g.pc = .ok (.lrem, 1)) (hs : g.stack = .long y :: .long x :: rest) (hy : y ≠ 0)
    (hr : Steps p.tables e below (T.setTop { g with pc := g.pc + 1, stack := .long (x % y) :: rest }) target) : Steps p.tables e below (T.setTop g) target := by
  have q : x - x / y * y = x % y := lrem_mod x y
  exact XS.lrem X.here hx hg hd hs hy (by rw [q]; exact hr)
end New
end Jvm.RoadKit

namespace Jvm.Pilot.@@N@@
open Jvm Jvm.ClassFile Sem Op Lib Jvm.Free Jvm.Stand Jvm.LawKit Jvm.RoadKit Bundle Jvm.Pilot.@@N@@.Jvm.D
abbrev oi (x : Int32) : Slot := .val (.int x)
abbrev oa (x : Addr) : Slot := .val (.ref x)
abbrev oS {p : Program} {e : Env} {b : List Frame} (T : State) (f : JFrame) (t : State) : Prop := Steps p.tables e b (T.setTop f) t
abbrev own_S (p : Program) (e : Env) (b : List Frame) (T : State) (f : JFrame) (t : State) : Prop := Steps p.tables e b (T.setTop f) t
abbrev own_G (p : Program) (e : Env) (b : List Frame) (T : State) (f g : JFrame) : Prop := ∀ t, own_S p e b T f t → own_S p e b T g t
theorem own_t {a0 : Array Value} {Z : State} {d : Jvm.Cond} (hw : ∀ d ∈ tables_1, d.before a0 Z = true) (i : Nat) (h : tables_1[i]? = some d) : d.before a0 Z = true := hw _ (List.mem_of_getElem? h)
theorem own_opq {p : Program} {l : Launch} {e : Env} {R : Room} {s : State} {m : MethodId} {args : Array Value} {below : List Frame} {meth : Method} {c : Code} {T : State} {locs : List Loc} {cells slots n0 : Nat} (X : Stand p l e R s m args below meth c T locs cells slots) (N : Fr n0 locs) : ∃ G, Stand p l e R s m args below meth c T G cells slots ∧ Fr n0 G := ⟨_, X, N⟩
def own_ch (w : Int32) : Int32 := (((w &&& (255 : Int32)).toUInt32.toUInt16.toUInt32.toInt32).toUInt32.toUInt16.toUInt32.toInt32)
def own_cc (w : Int32) : Int32 := ((own_ch w).toUInt32.toUInt16.toUInt32.toInt32)
theorem own_ccv (c : Int32) (h0 : ¬ c < 0) (h1 : ¬ (255 : Int32) < c) : own_cc (c.toInt8.toInt32) = c := by
  have a := c_i2b c
  have b := c_mask (c.toInt8.toInt32) 255 8 (by decide) (by decide)
  have d := c_i2c ((c.toInt8.toInt32) &&& (255 : Int32))
  have e := c_i2c (((c.toInt8.toInt32) &&& (255 : Int32)).toUInt32.toUInt16.toUInt32.toInt32)
  have f := c_i2c ((((c.toInt8.toInt32) &&& (255 : Int32)).toUInt32.toUInt16.toUInt32.toInt32).toUInt32.toUInt16.toUInt32.toInt32)
  unfold own_cc own_ch
  simp only [Int32.lt_iff_toInt_lt, ← Int32.toInt_inj, Int32.reduceToInt, show ((2 ^ 8 : Nat) : Int) = 256 from rfl] at *
  omega
theorem own_shr0 (x : Int32) : x >>> ((0 : Int32) &&& 31) = x := by
  have a := c_ishr x 0 0 (by decide)
  rw [← Int32.toInt_inj, a]; simp
def own_bb (u : Int32) : Int32 := ((u.toInt8.toInt32).toInt8.toInt32)
def own_lo (u : Int32) : Int32 := (((u >>> ((0 : Int32) &&& 31)).toInt8.toInt32).toInt8.toInt32)
def own_hi (u : Int32) : Int32 := (((u >>> ((8 : Int32) &&& 31)).toInt8.toInt32).toInt8.toInt32)
def own_gc (a b : Int32) : Int32 := (((((a &&& (255 : Int32)) <<< ((0 : Int32) &&& 31)) ||| ((b &&& (255 : Int32)) <<< ((8 : Int32) &&& 31))).toUInt32.toUInt16.toUInt32.toInt32).toUInt32.toUInt16.toUInt32.toInt32)
def own_r16 (u : Int32) : Prop := 0 ≤ u.toInt ∧ u.toInt ≤ 65535
theorem own_gcv (u : Int32) (h : own_r16 u) : own_gc (own_lo u) (own_hi u) = u := by
  unfold own_r16 at h
  have a0 := c_ishr u 0 0 (by decide)
  have a1 := c_i2b (u >>> ((0 : Int32) &&& 31))
  have a2 := c_i2b ((u >>> ((0 : Int32) &&& 31)).toInt8.toInt32)
  have b0 := c_ishr u 8 8 (by decide)
  have b1 := c_i2b (u >>> ((8 : Int32) &&& 31))
  have b2 := c_i2b ((u >>> ((8 : Int32) &&& 31)).toInt8.toInt32)
  have m1 := c_mask (own_lo u) 255 8 (by decide) (by decide)
  have m2 := c_mask (own_hi u) 255 8 (by decide) (by decide)
  have s1 := c_ishl (own_lo u &&& (255 : Int32)) 0 0 (by decide)
  have s2 := c_ishl (own_hi u &&& (255 : Int32)) 8 8 (by decide)
  have r1 := rng32 ((own_lo u &&& (255 : Int32)) <<< ((0 : Int32) &&& 31))
  have r2 := rng32 ((own_hi u &&& (255 : Int32)) <<< ((8 : Int32) &&& 31))
  have o := c_or' ((own_lo u &&& (255 : Int32)) <<< ((0 : Int32) &&& 31)) ((own_hi u &&& (255 : Int32)) <<< ((8 : Int32) &&& 31)) 8 (by decide) 256 rfl
  have r3 := rng32 (((own_lo u &&& (255 : Int32)) <<< ((0 : Int32) &&& 31)) ||| ((own_hi u &&& (255 : Int32)) <<< ((8 : Int32) &&& 31)))
  have e1 := c_i2c (((own_lo u &&& (255 : Int32)) <<< ((0 : Int32) &&& 31)) ||| ((own_hi u &&& (255 : Int32)) <<< ((8 : Int32) &&& 31)))
  have e2 := c_i2c ((((own_lo u &&& (255 : Int32)) <<< ((0 : Int32) &&& 31)) ||| ((own_hi u &&& (255 : Int32)) <<< ((8 : Int32) &&& 31))).toUInt32.toUInt16.toUInt32.toInt32)
  have l : (own_lo u).toInt = (((u >>> ((0 : Int32) &&& 31)).toInt8.toInt32).toInt8.toInt32).toInt := rfl
  have k : (own_hi u).toInt = (((u >>> ((8 : Int32) &&& 31)).toInt8.toInt32).toInt8.toInt32).toInt := rfl
  rw [← Int32.toInt_inj]
  unfold own_gc
  simp only [show ((2 ^ 8 : Nat) : Int) = 256 from rfl, show ((2 ^ 0 : Nat) : Int) = 1 from rfl] at *
  have o' := o (by omega) (by omega) (by omega)
  omega
theorem own_n16 (u : Int32) (h : own_r16 u) : (u.toUInt32.toUInt16.toUInt32.toInt32) = u := by
  unfold own_r16 at h
  have e := c_i2c u
  rw [← Int32.toInt_inj]; omega
theorem own_bbv (u : Int32) (h : own_r16 u) (k : ¬ (255 : Int32) < u) : own_cc (own_bb u) = u := by
  have e : own_bb u = u.toInt8.toInt32 := by
    have a := c_i2b u
    have b := c_i2b (u.toInt8.toInt32)
    unfold own_bb
    rw [← Int32.toInt_inj]; omega
  rw [e]
  refine own_ccv u ?_ k
  unfold own_r16 at h
  simp only [Int32.lt_iff_toInt_lt, Int32.reduceToInt]; omega
def own_cnt (ua ub uc ud ue : Int32) : Int32 := if (255 : Int32) < ua then 0 else if (255 : Int32) < ub then 1 else if (255 : Int32) < uc then 2 else if (255 : Int32) < ud then 3 else if (255 : Int32) < ue then 4 else 5
def own_all (ua ub uc ud ue : Int32) : Prop := ¬ (255 : Int32) < ua ∧ ¬ (255 : Int32) < ub ∧ ¬ (255 : Int32) < uc ∧ ¬ (255 : Int32) < ud ∧ ¬ (255 : Int32) < ue
theorem own_first (ua ub uc ud ue : Int32) : ((255 : Int32) < ua ∧ own_cnt ua ub uc ud ue = 0) ∨ ((255 : Int32) < ub ∧ own_cnt ua ub uc ud ue = 1) ∨ ((255 : Int32) < uc ∧ own_cnt ua ub uc ud ue = 2) ∨ ((255 : Int32) < ud ∧ own_cnt ua ub uc ud ue = 3) ∨ ((255 : Int32) < ue ∧ own_cnt ua ub uc ud ue = 4) ∨ (own_all ua ub uc ud ue ∧ own_cnt ua ub uc ud ue = 5) := by
  unfold own_cnt own_all
  by_cases a : (255 : Int32) < ua
  · exact Or.inl ⟨a, if_pos a⟩
  by_cases b : (255 : Int32) < ub
  · exact Or.inr (Or.inl ⟨b, by rw [if_neg a, if_pos b]⟩)
  by_cases c : (255 : Int32) < uc
  · exact Or.inr (Or.inr (Or.inl ⟨c, by rw [if_neg a, if_neg b, if_pos c]⟩))
  by_cases d : (255 : Int32) < ud
  · exact Or.inr (Or.inr (Or.inr (Or.inl ⟨d, by rw [if_neg a, if_neg b, if_neg c, if_pos d]⟩)))
  by_cases e : (255 : Int32) < ue
  · exact Or.inr (Or.inr (Or.inr (Or.inr (Or.inl ⟨e, by rw [if_neg a, if_neg b, if_neg c, if_neg d, if_pos e]⟩))))
  exact Or.inr (Or.inr (Or.inr (Or.inr (Or.inr ⟨⟨a, b, c, d, e⟩, by rw [if_neg a, if_neg b, if_neg c, if_neg d, if_neg e]⟩))))
def own_made (Z : State) (h0 : Heap) (n0 : Nat) (h : Heap) (s : Addr) (ua ub uc ud ue : Int32) : Prop := Exa Z h s "java/lang/String" ∧ ∃ rb kb, h0.size ≤ rb ∧ n0 ≤ rb ∧ Fld Z h s "java/lang/String" "value" "[B" (.ref rb) ∧ ((own_all ua ub uc ud ue ∧ Fld Z h s "java/lang/String" "coder" "B" (.int (0 : Int32)) ∧ Arv Z h rb kb .byte (5 : Int32) ([(.int (own_bb ua)), (.int (own_bb ub)), (.int (own_bb uc)), (.int (own_bb ud)), (.int (own_bb ue))] : List Value) (.int 0)) ∨ (Fld Z h s "java/lang/String" "coder" "B" (.int (1 : Int32)) ∧ Arv Z h rb kb .byte (10 : Int32) ([(.int (own_lo ua)), (.int (own_hi ua)), (.int (own_lo ub)), (.int (own_hi ub)), (.int (own_lo uc)), (.int (own_hi uc)), (.int (own_lo ud)), (.int (own_hi ud)), (.int (own_lo ue)), (.int (own_hi ue))] : List Value) (.int 0)))
def own_u5 (ua ub uc ud ue : Int32) : List Int32 := [ua, ub, uc, ud, ue]
theorem own_i (i : Nat) (h : i < 2048) : (Int32.ofNat i).toInt = i := len_toInt (by omega)
theorem own_lt (i j : Nat) (hi : i < 2048) (hj : j < 2048) : (Int32.ofNat i < Int32.ofNat j) = (i < j) := by
  rw [Int32.lt_iff_toInt_lt, own_i i hi, own_i j hj]; exact propext (by omega)
theorem own_up (i : Nat) (h : i < 512) : (Int32.ofNat i) + (1 : Int32) = Int32.ofNat (i + 1) := by
  have e := own_i i (by omega)
  have e' := own_i (i + 1) (by omega)
  have a := c_iadd (Int32.ofNat i) 1
  have b := rng32 (Int32.ofNat i + 1)
  rw [← Int32.toInt_inj, e']
  simp only [Int32.reduceToInt] at a
  omega
theorem own_i5 (i : Nat) (h : i < 5) : i = 0 ∨ i = 1 ∨ i = 2 ∨ i = 3 ∨ i = 4 := by omega
theorem own_in5 (i : Nat) (h : i < 5) : ¬ Int32.ofNat i < 0 ∧ Int32.ofNat i < (5 : Int32) := by
  rcases own_i5 i h with rfl | rfl | rfl | rfl | rfl <;> decide
theorem own_in10 (i : Nat) (h : i < 5) : (¬ (Int32.ofNat i <<< ((1 : Int32) &&& 31)) < 0 ∧ (Int32.ofNat i <<< ((1 : Int32) &&& 31)) < (10 : Int32)) ∧ (¬ ((Int32.ofNat i <<< ((1 : Int32) &&& 31)) + (1 : Int32)) < 0 ∧ ((Int32.ofNat i <<< ((1 : Int32) &&& 31)) + (1 : Int32)) < (10 : Int32)) := by
  rcases own_i5 i h with rfl | rfl | rfl | rfl | rfl <;> decide
theorem own_at8 (ua ub uc ud ue : Int32) (i : Nat) (h : i < 5) : ([(.int (own_bb ua)), (.int (own_bb ub)), (.int (own_bb uc)), (.int (own_bb ud)), (.int (own_bb ue))] : List Value).getD (Int32.ofNat i).toNatClampNeg (.int 0) = .int (own_bb ((own_u5 ua ub uc ud ue).getD i 0)) := by
  rcases own_i5 i h with rfl | rfl | rfl | rfl | rfl <;> rfl
theorem own_at16 (ua ub uc ud ue : Int32) (i : Nat) (h : i < 5) : ([(.int (own_lo ua)), (.int (own_hi ua)), (.int (own_lo ub)), (.int (own_hi ub)), (.int (own_lo uc)), (.int (own_hi uc)), (.int (own_lo ud)), (.int (own_hi ud)), (.int (own_lo ue)), (.int (own_hi ue))] : List Value).getD (Int32.ofNat i <<< ((1 : Int32) &&& 31)).toNatClampNeg (.int 0) = .int (own_lo ((own_u5 ua ub uc ud ue).getD i 0)) ∧ ([(.int (own_lo ua)), (.int (own_hi ua)), (.int (own_lo ub)), (.int (own_hi ub)), (.int (own_lo uc)), (.int (own_hi uc)), (.int (own_lo ud)), (.int (own_hi ud)), (.int (own_lo ue)), (.int (own_hi ue))] : List Value).getD ((Int32.ofNat i <<< ((1 : Int32) &&& 31)) + (1 : Int32)).toNatClampNeg (.int 0) = .int (own_hi ((own_u5 ua ub uc ud ue).getD i 0)) := by
  rcases own_i5 i h with rfl | rfl | rfl | rfl | rfl <;> exact ⟨rfl, rfl⟩
def own_ru (ua ub uc ud ue : Int32) : Prop := own_r16 ua ∧ own_r16 ub ∧ own_r16 uc ∧ own_r16 ud ∧ own_r16 ue
theorem own_rug (ua ub uc ud ue : Int32) (h : own_ru ua ub uc ud ue) (i : Nat) (hi : i < 5) : own_r16 ((own_u5 ua ub uc ud ue).getD i 0) := by
  obtain ⟨a, b, c, d, e⟩ := h
  rcases own_i5 i hi with rfl | rfl | rfl | rfl | rfl
  · exact a
  · exact b
  · exact c
  · exact d
  · exact e
theorem own_allg (ua ub uc ud ue : Int32) (h : own_all ua ub uc ud ue) (i : Nat) (hi : i < 5) : ¬ (255 : Int32) < (own_u5 ua ub uc ud ue).getD i 0 := by
  obtain ⟨a, b, c, d, e⟩ := h
  rcases own_i5 i hi with rfl | rfl | rfl | rfl | rfl
  · exact a
  · exact b
  · exact c
  · exact d
  · exact e
def own_sl (o : Slot) : Prop := o = .unset ∨ ∃ w : Int32, o = .val (.int w)
theorem own_st4 {z0 z1 z2 z3 : Value} {o4 o5 : Slot} {v : Int32} (h : own_sl o4) : storeLocals #[.val z0, .val z1, .val z2, .val z3, o4, o5] 4 (.int v) = some #[.val z0, .val z1, .val z2, .val z3, .val (.int v), o5] := by
  rcases h with rfl | ⟨w, rfl⟩ <;> rfl
theorem own_st5 {z0 z1 z2 z3 z4 : Value} {o5 : Slot} {v : Int32} (h : own_sl o5) : storeLocals #[.val z0, .val z1, .val z2, .val z3, .val z4, o5] 5 (.int v) = some #[.val z0, .val z1, .val z2, .val z3, .val z4, .val (.int v)] := by
  rcases h with rfl | ⟨w, rfl⟩ <;> rfl
def own_let (c : Int32) : Int32 := if c < (65 : Int32) then (if c < (97 : Int32) then 0 else if (122 : Int32) < c then 0 else 1) else if (90 : Int32) < c then (if c < (97 : Int32) then 0 else if (122 : Int32) < c then 0 else 1) else 1
def own_dgt (c : Int32) : Int32 := if c < (48 : Int32) then 0 else if (57 : Int32) < c then 0 else 1
theorem own_letA (c : Int32) (h : 65 ≤ c.toInt ∧ c.toInt ≤ 90) : ¬ own_let c = (0 : Int32) := by
  unfold own_let
  rw [if_neg (by simp only [Int32.lt_iff_toInt_lt, Int32.reduceToInt]; omega), if_neg (by simp only [Int32.lt_iff_toInt_lt, Int32.reduceToInt]; omega)]; decide
theorem own_leta (c : Int32) (h : 97 ≤ c.toInt ∧ c.toInt ≤ 122) : ¬ own_let c = (0 : Int32) := by
  unfold own_let
  rw [if_neg (by simp only [Int32.lt_iff_toInt_lt, Int32.reduceToInt]; omega), if_pos (by simp only [Int32.lt_iff_toInt_lt, Int32.reduceToInt]; omega), if_neg (by simp only [Int32.lt_iff_toInt_lt, Int32.reduceToInt]; omega), if_neg (by simp only [Int32.lt_iff_toInt_lt, Int32.reduceToInt]; omega)]; decide
theorem own_dgtA (c : Int32) (h : 48 ≤ c.toInt ∧ c.toInt ≤ 57) : ¬ own_dgt c = (0 : Int32) := by
  unfold own_dgt
  rw [if_neg (by simp only [Int32.lt_iff_toInt_lt, Int32.reduceToInt]; omega), if_neg (by simp only [Int32.lt_iff_toInt_lt, Int32.reduceToInt]; omega)]; decide
def own_ok (f i : Int32) (u : Int32) : Prop := ¬ own_let u = (0 : Int32) ∨ (f < i ∧ (¬ own_dgt u = (0 : Int32) ∨ u = (43 : Int32) ∨ u = (45 : Int32) ∨ u = (46 : Int32)))
def own_c2 (x : Int32) : Int32 := ((x.toUInt32.toUInt16.toUInt32.toInt32).toUInt32.toUInt16.toUInt32.toInt32)
def own_pin (k : Int32) : Int32 := if (k % (52 : Int32)) < (26 : Int32) then own_c2 ((65 : Int32) + (k % (52 : Int32))) else own_c2 ((97 : Int32) + ((k % (52 : Int32)) - (26 : Int32)))
def own_pre (k : Int32) : Int32 := if (k % (65 : Int32)) < (26 : Int32) then own_c2 ((65 : Int32) + (k % (65 : Int32))) else if (k % (65 : Int32)) < (52 : Int32) then own_c2 ((97 : Int32) + ((k % (65 : Int32)) - (26 : Int32))) else if (k % (65 : Int32)) < (62 : Int32) then own_c2 ((48 : Int32) + ((k % (65 : Int32)) - (52 : Int32))) else if (k % (65 : Int32)) = (62 : Int32) then 43 else if (k % (65 : Int32)) = (63 : Int32) then 45 else 46
def own_pick (c i f t : Int32) : Int32 := if i < f then own_c2 (c &&& (65535 : Int32)) else if i < t then (if i = f then own_pin (c &&& (2147483647 : Int32)) else own_pre (c &&& (2147483647 : Int32))) else own_c2 (c &&& (65535 : Int32))
def own_pk (c i f t : Int32) : Int32 := ((own_pick c i f t).toUInt32.toUInt16.toUInt32.toInt32)
theorem own_pkr (c i f t : Int32) : own_r16 (own_pk c i f t) := by
  have e := c_i2c (own_pick c i f t)
  unfold own_r16 own_pk; omega
theorem own_k (c : Int32) : 0 ≤ (c &&& (2147483647 : Int32)).toInt := by
  have q := c_mask c 2147483647 31 (by decide) (by decide)
  rw [q]; exact Int.emod_nonneg _ (by decide)
theorem own_cv (x : Int32) (a : Int) (h : x.toInt = a) (h0 : 0 ≤ a) (h1 : a ≤ 65535) : ((own_c2 x).toUInt32.toUInt16.toUInt32.toInt32).toInt = a := by
  have e1 := c_i2c x
  have e2 := c_i2c (x.toUInt32.toUInt16.toUInt32.toInt32)
  have e3 := c_i2c ((x.toUInt32.toUInt16.toUInt32.toInt32).toUInt32.toUInt16.toUInt32.toInt32)
  unfold own_c2; omega
theorem own_pinv (k : Int32) (h : 0 ≤ k.toInt) : ¬ own_let ((own_pin k).toUInt32.toUInt16.toUInt32.toInt32) = (0 : Int32) := by
  have q := (c_irem k 52 52 rfl).1 h
  unfold own_pin
  by_cases a : (k % (52 : Int32)) < (26 : Int32)
  · rw [if_pos a]
    have s := c_iadd 65 (k % (52 : Int32))
    have r := rng32 ((65 : Int32) + (k % (52 : Int32)))
    simp only [Int32.lt_iff_toInt_lt, Int32.reduceToInt] at a s
    have v := own_cv ((65 : Int32) + (k % (52 : Int32))) (65 + k.toInt % 52) (by omega) (by omega) (by omega)
    exact own_letA _ (by omega)
  · rw [if_neg a]
    have s1 := c_isub (k % (52 : Int32)) 26
    have r1 := rng32 ((k % (52 : Int32)) - (26 : Int32))
    have s2 := c_iadd 97 ((k % (52 : Int32)) - (26 : Int32))
    have r2 := rng32 ((97 : Int32) + ((k % (52 : Int32)) - (26 : Int32)))
    simp only [Int32.lt_iff_toInt_lt, Int32.reduceToInt] at a s1 s2
    have v := own_cv ((97 : Int32) + ((k % (52 : Int32)) - (26 : Int32))) (97 + (k.toInt % 52 - 26)) (by omega) (by omega) (by omega)
    exact own_leta _ (by omega)
theorem own_prev (k f i : Int32) (h : 0 ≤ k.toInt) (hf : f < i) : own_ok f i ((own_pre k).toUInt32.toUInt16.toUInt32.toInt32) := by
  have q := (c_irem k 65 65 rfl).1 h
  unfold own_pre
  by_cases a : (k % (65 : Int32)) < (26 : Int32)
  · rw [if_pos a]
    have s := c_iadd 65 (k % (65 : Int32))
    have r := rng32 ((65 : Int32) + (k % (65 : Int32)))
    simp only [Int32.lt_iff_toInt_lt, Int32.reduceToInt] at a s
    have v := own_cv ((65 : Int32) + (k % (65 : Int32))) (65 + k.toInt % 65) (by omega) (by omega) (by omega)
    exact Or.inl (own_letA _ (by omega))
  · rw [if_neg a]
    by_cases b : (k % (65 : Int32)) < (52 : Int32)
    · rw [if_pos b]
      have s1 := c_isub (k % (65 : Int32)) 26
      have r1 := rng32 ((k % (65 : Int32)) - (26 : Int32))
      have s2 := c_iadd 97 ((k % (65 : Int32)) - (26 : Int32))
      have r2 := rng32 ((97 : Int32) + ((k % (65 : Int32)) - (26 : Int32)))
      simp only [Int32.lt_iff_toInt_lt, Int32.reduceToInt] at a b s1 s2
      have v := own_cv ((97 : Int32) + ((k % (65 : Int32)) - (26 : Int32))) (97 + (k.toInt % 65 - 26)) (by omega) (by omega) (by omega)
      exact Or.inl (own_leta _ (by omega))
    · rw [if_neg b]
      by_cases d : (k % (65 : Int32)) < (62 : Int32)
      · rw [if_pos d]
        have s1 := c_isub (k % (65 : Int32)) 52
        have r1 := rng32 ((k % (65 : Int32)) - (52 : Int32))
        have s2 := c_iadd 48 ((k % (65 : Int32)) - (52 : Int32))
        have r2 := rng32 ((48 : Int32) + ((k % (65 : Int32)) - (52 : Int32)))
        simp only [Int32.lt_iff_toInt_lt, Int32.reduceToInt] at a b d s1 s2
        have v := own_cv ((48 : Int32) + ((k % (65 : Int32)) - (52 : Int32))) (48 + (k.toInt % 65 - 52)) (by omega) (by omega) (by omega)
        exact Or.inr ⟨hf, Or.inl (own_dgtA _ (by omega))⟩
      · rw [if_neg d]
        by_cases e : (k % (65 : Int32)) = (62 : Int32)
        · rw [if_pos e]; exact Or.inr ⟨hf, Or.inr (Or.inl (by decide))⟩
        · rw [if_neg e]
          by_cases g : (k % (65 : Int32)) = (63 : Int32)
          · rw [if_pos g]; exact Or.inr ⟨hf, Or.inr (Or.inr (Or.inl (by decide)))⟩
          · rw [if_neg g]; exact Or.inr ⟨hf, Or.inr (Or.inr (Or.inr (by decide)))⟩
theorem own_pkok (c i f t : Int32) (hfi : ¬ i < f) (hit : i < t) : own_ok f i (own_pk c i f t) := by
  unfold own_pk own_pick
  rw [if_neg hfi, if_pos hit]
  by_cases e : i = f
  · rw [if_pos e]; exact Or.inl (own_pinv _ (own_k c))
  · rw [if_neg e]; refine own_prev _ f i (own_k c) ?_
    rw [← Int32.toInt_inj] at e
    simp only [Int32.lt_iff_toInt_lt] at *; omega
theorem own_f (x : Int32) : 0 ≤ ((x &&& (7 : Int32)) % (6 : Int32)).toInt ∧ ((x &&& (7 : Int32)) % (6 : Int32)).toInt ≤ 5 := by
  have a := c_mask x 7 3 (by decide) (by decide)
  simp only [show ((2 ^ 3 : Nat) : Int) = 8 from rfl] at a
  have b := (c_irem (x &&& (7 : Int32)) 6 6 rfl).1 (by omega)
  omega
theorem own_six (f : Int32) (h : 0 ≤ f.toInt ∧ f.toInt ≤ 5) : ((6 : Int32) - f).toInt = 6 - f.toInt := by
  have a := c_isub 6 f
  have r := rng32 ((6 : Int32) - f)
  simp only [Int32.reduceToInt] at a; omega
theorem own_nz (x : Int32) : ((6 : Int32) - ((x &&& (7 : Int32)) % (6 : Int32))) ≠ 0 := by
  have a := own_six _ (own_f x)
  have b := own_f x
  intro e
  rw [e] at a
  simp only [Int32.reduceToInt] at a; omega
theorem own_nat (f : Int32) (h : 0 ≤ f.toInt ∧ f.toInt ≤ 5) : f = Int32.ofNat f.toInt.toNat := by
  rw [← Int32.toInt_inj, own_i _ (by omega)]; omega
theorem own_ft (x vf vt : Int32) (ef : vf = ((x &&& (7 : Int32)) % (6 : Int32))) (et : vt = (vf + ((((x.toUInt32 >>> ((3 : Int32) &&& 31).toUInt32).toInt32) &&& (7 : Int32)) % ((6 : Int32) - vf)))) : ∃ fn tn, vf = Int32.ofNat fn ∧ vt = Int32.ofNat tn ∧ fn ≤ tn ∧ tn ≤ 5 := by
  have a := own_f x
  rw [← ef] at a
  have b := own_six vf a
  have g := c_mask ((x.toUInt32 >>> ((3 : Int32) &&& 31).toUInt32).toInt32) 7 3 (by decide) (by decide)
  simp only [show ((2 ^ 3 : Nat) : Int) = 8 from rfl] at g
  have d := (c_iremV ((((x.toUInt32 >>> ((3 : Int32) &&& 31).toUInt32).toInt32) &&& (7 : Int32))) ((6 : Int32) - vf)).1 (by omega) (by omega)
  have s := c_iadd vf ((((x.toUInt32 >>> ((3 : Int32) &&& 31).toUInt32).toInt32) &&& (7 : Int32)) % ((6 : Int32) - vf))
  have r := rng32 (vf + ((((x.toUInt32 >>> ((3 : Int32) &&& 31).toUInt32).toInt32) &&& (7 : Int32)) % ((6 : Int32) - vf)))
  rw [← et] at s r
  exact ⟨vf.toInt.toNat, vt.toInt.toNat, own_nat vf a, own_nat vt (by omega), by omega, by omega⟩
theorem own_pka (c0 c1 c2 c3 c4 : Int32) (fn tn : Nat) (h5 : tn ≤ 5) (i : Nat) (h1 : fn ≤ i) (h2 : i < tn) : own_ok (Int32.ofNat fn) (Int32.ofNat i) ((own_u5 (own_pk c0 0 (Int32.ofNat fn) (Int32.ofNat tn)) (own_pk c1 1 (Int32.ofNat fn) (Int32.ofNat tn)) (own_pk c2 2 (Int32.ofNat fn) (Int32.ofNat tn)) (own_pk c3 3 (Int32.ofNat fn) (Int32.ofNat tn)) (own_pk c4 4 (Int32.ofNat fn) (Int32.ofNat tn))).getD i 0) := by
  have a : ¬ Int32.ofNat i < Int32.ofNat fn := by rw [own_lt _ _ (by omega) (by omega)]; omega
  have b : Int32.ofNat i < Int32.ofNat tn := by rw [own_lt _ _ (by omega) (by omega)]; exact h2
  rcases own_i5 i (by omega) with rfl | rfl | rfl | rfl | rfl
  · exact own_pkok c0 0 _ _ a b
  · exact own_pkok c1 1 _ _ a b
  · exact own_pkok c2 2 _ _ a b
  · exact own_pkok c3 3 _ _ a b
  · exact own_pkok c4 4 _ _ a b
theorem own_int {s : State} {args : Array Value} {t : Term} {w : Int32} (h : (Cond.eq t (.int w)).value args s none s [] = some true) : t.eval args s none [] s = some (.int w) := by
  simp only [Cond.value, Term.int_eval] at h
  revert h
  cases hq : t.eval args s none [] s with
  | none => simp
  | some v => cases v <;> simp
theorem own_el {s : State} {args : Array Value} {t : Term} {a : Addr} {cl : Cell} {j w : Int32} (ev : t.eval args s none [] s = some (.ref a)) (hA : s.arrayAt? a = some cl) (hj : ¬ j < 0) (h : (Cond.eq (.elem t (.int j)) (.int w)).value args s none s [] = some true) : cl.slots[j.toNatClampNeg]? = some (.int w) := by
  rw [← elem_f (idx := []) (first := s) (o := none) ev (Term.int_eval j) hA hj]; exact own_int h
theorem own_ln {s : State} {args : Array Value} {t : Term} {a : Addr} {cl : Cell} {w : Int32} (ev : t.eval args s none [] s = some (.ref a)) (hA : s.arrayAt? a = some cl) (h : (Cond.eq (.length t) (.int w)).value args s none s [] = some true) : cl.slots.size < 2 ^ 31 ∧ cl.slots.size.toInt32 = w := by
  have h1 := own_int h
  obtain ⟨a', cl', ha', hA', hs, hv⟩ := Jvm.Lib.length_spec h1
  cases ev.symm.trans ha'
  cases hA.symm.trans hA'
  exact ⟨hs, (Value.int.inj hv).symm⟩
abbrev yy_0 : MethodName := (⟨"jdk/internal/util/Preconditions", "checkIndex", "(IILjava/util/function/BiFunction;)I"⟩ : MethodName)
abbrev yy_1 : MethodName := (⟨"java/lang/String", "checkIndex", "(II)V"⟩ : MethodName)
abbrev yy_2 : MethodName := (⟨"java/lang/StringLatin1", "charAt", "([BI)C"⟩ : MethodName)
abbrev yy_3 : MethodName := (⟨"java/lang/String", "isLatin1", "()Z"⟩ : MethodName)
abbrev yy_4 : MethodName := (⟨"java/lang/String", "charAt", "(I)C"⟩ : MethodName)
abbrev yy_5 : MethodName := (⟨"java/lang/StringUTF16", "length", "([B)I"⟩ : MethodName)
abbrev yy_6 : MethodName := (⟨"java/lang/StringUTF16", "newBytesLength", "(I)I"⟩ : MethodName)
abbrev yy_7 : MethodName := (⟨"java/lang/StringUTF16", "newBytesFor", "(I)[B"⟩ : MethodName)
abbrev yy_8 : MethodName := (⟨"java/lang/StringUTF16", "putChar", "([BII)V"⟩ : MethodName)
abbrev yy_9 : MethodName := (⟨"java/lang/StringUTF16", "toBytes", "([CII)[B"⟩ : MethodName)
abbrev yy_10 : MethodName := (⟨"java/lang/StringUTF16", "getChar", "([BI)C"⟩ : MethodName)
abbrev yy_11 : MethodName := (⟨"java/lang/StringUTF16", "compress", "([CI[BII)I"⟩ : MethodName)
abbrev yy_12 : MethodName := (⟨"java/lang/StringUTF16", "compress", "([CII)[B"⟩ : MethodName)
abbrev yy_13 : MethodName := (⟨"java/lang/StringUTF16", "coderFromArrayLen", "([BI)B"⟩ : MethodName)
abbrev yy_14 : MethodName := (⟨"java/lang/String", "<init>", "([CIILjava/lang/Void;)V"⟩ : MethodName)
abbrev yy_15 : MethodName := (⟨"java/lang/String", "<init>", "([C)V"⟩ : MethodName)
abbrev yy_16 : MethodName := (⟨"java/lang/StringUTF16", "checkIndex", "(I[B)V"⟩ : MethodName)
abbrev yy_17 : MethodName := (⟨"java/lang/StringUTF16", "charAt", "([BI)C"⟩ : MethodName)
abbrev yy_18 : MethodName := (⟨"com/example/href/href/uri/IriSyntax", "isAsciiLetter", "(I)Z"⟩ : MethodName)
abbrev yy_19 : MethodName := (⟨"com/example/href/href/uri/IriSyntax", "isDigit", "(I)Z"⟩ : MethodName)
abbrev yy_20 : MethodName := (⟨"com/example/href/href/uri/IriSyntax", "checkScheme", "(II)V"⟩ : MethodName)
abbrev yy_21 : MethodName := (⟨"com/example/href/href/uri/IriSyntax", "<init>", "(Ljava/lang/String;)V"⟩ : MethodName)
abbrev yy_22 : MethodName := (⟨"com/example/href/href/uri/IriSyntaxCheckSchemePinLaw", "pick", "(IIII)C"⟩ : MethodName)
theorem pd_0 : parseMethodDescriptor "(IILjava/util/function/BiFunction;)I" = some ⟨[.int, .int, (.object "java/util/function/BiFunction")], some .int⟩ := by decide +kernel
theorem pd_1 : parseMethodDescriptor "(II)V" = some ⟨[.int, .int], none⟩ := by decide +kernel
theorem pd_2 : parseMethodDescriptor "()Z" = some ⟨[], some .boolean⟩ := by decide +kernel
theorem pd_3 : parseMethodDescriptor "([BI)C" = some ⟨[(.array .byte), .int], some .char⟩ := by decide +kernel
theorem pd_4 : parseMethodDescriptor "(I)I" = some ⟨[.int], some .int⟩ := by decide +kernel
theorem pd_5 : parseMethodDescriptor "(I)[B" = some ⟨[.int], some (.array .byte)⟩ := by decide +kernel
theorem pd_6 : parseMethodDescriptor "([BII)V" = some ⟨[(.array .byte), .int, .int], none⟩ := by decide +kernel
theorem pd_7 : parseMethodDescriptor "([CI[BII)I" = some ⟨[(.array .char), .int, (.array .byte), .int, .int], some .int⟩ := by decide +kernel
theorem pd_8 : parseMethodDescriptor "([CII)[B" = some ⟨[(.array .char), .int, .int], some (.array .byte)⟩ := by decide +kernel
theorem pd_9 : parseMethodDescriptor "([BI)B" = some ⟨[(.array .byte), .int], some .byte⟩ := by decide +kernel
theorem pd_10 : parseMethodDescriptor "([CIILjava/lang/Void;)V" = some ⟨[(.array .char), .int, .int, (.object "java/lang/Void")], none⟩ := by decide +kernel
theorem pd_11 : parseMethodDescriptor "([B)I" = some ⟨[(.array .byte)], some .int⟩ := by decide +kernel
theorem pd_12 : parseMethodDescriptor "(I[B)V" = some ⟨[.int, (.array .byte)], none⟩ := by decide +kernel
theorem pd_13 : parseMethodDescriptor "(I)C" = some ⟨[.int], some .char⟩ := by decide +kernel
theorem pd_14 : parseMethodDescriptor "(I)Z" = some ⟨[.int], some .boolean⟩ := by decide +kernel
theorem pd_15 : parseMethodDescriptor "(IIII)C" = some ⟨[.int, .int, .int, .int], some .char⟩ := by decide +kernel
theorem pd_16 : parseMethodDescriptor "([C)V" = some ⟨[(.array .char)], none⟩ := by decide +kernel
theorem pd_17 : parseMethodDescriptor "(Ljava/lang/String;)V" = some ⟨[(.object "java/lang/String")], none⟩ := by decide +kernel
theorem d21_0 : decode jdk_41_method_11_code 0 = .ok (.iload_n 0, 1) := by decide +kernel
theorem d21_1 : decode jdk_41_method_11_code 1 = .ok (.ifCond .lt 8, 3) := by decide +kernel
theorem d21_4 : decode jdk_41_method_11_code 4 = .ok (.iload_n 0, 1) := by decide +kernel
theorem d21_5 : decode jdk_41_method_11_code 5 = .ok (.iload_n 1, 1) := by decide +kernel
theorem d21_6 : decode jdk_41_method_11_code 6 = .ok (.if_icmp .lt 10, 3) := by decide +kernel
theorem d21_16 : decode jdk_41_method_11_code 16 = .ok (.iload_n 0, 1) := by decide +kernel
theorem d21_17 : decode jdk_41_method_11_code 17 = .ok (.ireturn, 1) := by decide +kernel
theorem pn_21 : plainName "jdk/internal/util/Preconditions" = true := by first | (simp [plainName, overriddenIn]; done) | decide +kernel
theorem ef_21n (m : MethodId) (x0 : Int32) (x1 : Int32) : entryFrame m #[(.int x0), (.int x1), .null] 3 = mkF m 0 #[.val (.int x0), .val (.int x1), .val .null] [] := by first | (simp [entryFrame, mkF, argsToLocals, Value.category]; done) | rfl
def Q21n (Z : State) (p0 : Int32) (p1 : Int32) (h0 : Heap) (n0 : Nat) (v : Option Value) (h : Heap) (L : List Loc) : Prop := v = some (.int p0) ∧ Fr n0 L ∧ h = h0
set_option maxRecDepth 65536 in
set_option maxHeartbeats 40000000 in
theorem rm21n (l : Launch) (Z : State) (a0 : Array Value) (hw : ∀ d ∈ tables_1, d.before a0 Z = true) (ws : List Jvm.Cond) (p0 : Int32) (p1 : Int32)  (h0 : Heap) (n0 : Nat) (Z0 : n0 ≤ h0.size) (hp0 : ¬ p0 < (0 : Int32)) (hp1 : p0 < p1) :
    MetFree l yy_0 (head1 (Jvm.Cond.code yy_0 jdk_41_method_11_code 3 (some .int) :: ws) ({ frames := 0, cells := 0, slots := 0, locals := 0 } : Room)) (fun a U => a = #[(.int p0), (.int p1), .null] ∧ Z.Warmed39 U.vm ∧ U.heap = h0) (fun _ _ _ _ _ => True) (fun _ U o U' => ∃ v L, o = .returned v ∧ Q21n Z p0 p1 h0 n0 v U'.heap L ∧ FrameEnd U o U' L ({ frames := 0, cells := 0, slots := 0, locals := 0 } : Room).cells ({ frames := 0, cells := 0, slots := 0, locals := 0 } : Room).slots) := by
  refine MetFree.of_bodySF (plainFor_of_name pn_21) hisR ?_
  intro p e s m args below meth c s₁ Bd hml0 hP hK
  obtain ⟨rfl, hZ, hh⟩ := hP
  have hx := Bd.exec
  have hby := Bd.bytes
  have hml : c.maxLocals = 3 := hml0
  have hown : s.vm.findClass "jdk/internal/util/Preconditions" = some m.cls := findClass_of_methodNamed Bd.named
  have hnm := (name_of_methodNamed Bd.named Bd.method).1
  have X0 : Stand p l e ({ frames := 0, cells := 0, slots := 0, locals := 0 } : Room) s m #[(.int p0), (.int p1), .null] below meth c s₁ [] 0 0 := Stand.of_body Bd
  have e0 : s₁.heap = h0 := by rw [← hh, Bd.state]; rfl
  have N0 := Fr.nil n0
  have pre0 : ∀ t, Steps p.tables e below (s₁.setTop (mkF m 0 #[oi p0, oi p1, .val .null] [])) t → Steps p.tables e below (s₁.setTop (entryFrame m #[(.int p0), (.int p1), .null] 3)) t := fun t k => castTop (ef_21n m p0 p1) k
  have c2 : own_G p e below s₁ (mkF m 1 #[oi p0, oi p1, .val .null] [(.int p0)]) (mkF m 0 #[oi p0, oi p1, .val .null] []) := by
    intro t kt
    show oS s₁ (mkF m 0 #[oi p0, oi p1, .val .null] []) _
    refine XS.iloadN X0.here hx rfl (hb hby d21_0) rfl ?_
    exact kt
  have hd1 : ¬ (p0 < (0 : Int32)) := hp0
  have c4 : own_G p e below s₁ (mkF m 6 #[oi p0, oi p1, .val .null] [(.int p1), (.int p0)]) (mkF m 1 #[oi p0, oi p1, .val .null] [(.int p0)]) := by
    intro t kt
    show oS s₁ (mkF m 1 #[oi p0, oi p1, .val .null] [(.int p0)]) _
    refine XS.ifNo X0.here hx rfl (hb hby d21_1) rfl ((if0 _ _).trans (flt hd1).1) ?_
    show oS s₁ (mkF m 4 #[oi p0, oi p1, .val .null] []) _
    refine XS.iloadN X0.here hx rfl (hb hby d21_4) rfl ?_
    show oS s₁ (mkF m 5 #[oi p0, oi p1, .val .null] [(.int p0)]) _
    refine XS.iloadN X0.here hx rfl (hb hby d21_5) rfl ?_
    exact kt
  have hd3 : p0 < p1 := hp1
  have c5 : own_G p e below s₁ (mkF m 17 #[oi p0, oi p1, .val .null] [(.int p0)]) (mkF m 6 #[oi p0, oi p1, .val .null] [(.int p1), (.int p0)]) := by
    intro t kt
    show oS s₁ (mkF m 6 #[oi p0, oi p1, .val .null] [(.int p1), (.int p0)]) _
    refine XS.icmpYes X0.here hx rfl (pc0 := 6) (pc' := 16) rfl (hb hby d21_6) rfl (tlt hd3).1 (by decide) (by decide) ?_
    show oS s₁ (mkF m 16 #[oi p0, oi p1, .val .null] []) _
    refine XS.iloadN X0.here hx rfl (hb hby d21_16) rfl ?_
    exact kt
  obtain ⟨fs, hr, hrun, hended, hW, hsame⟩ := X0.leave (v := some (.int p0)) (fun h => by rw [Bd.returns] at h; cases h)
  refine ⟨_, _, pre0 _ (c2 _ (c4 _ (c5 _ (?_)))), hrun, hended, _, _, rfl, ?_, ⟨_, rfl⟩, hW, hsame.mono (by decide) (by decide)⟩
  · show Steps p.tables e below (s₁.setTop (mkF m 17 #[oi p0, oi p1, .val .null] [(.int p0)])) _
    exact retI X0 hx Bd.returns (hb hby d21_17) hr
  · show Q21n Z p0 p1 h0 n0 _ s₁.heap _
    rw [e0]
    exact ⟨congrArg (fun z => some (Value.int z)) (show p0 = p0 from by rfl), N0, rfl⟩
theorem ef_21 (m : MethodId) (x0 : Int32) (x1 : Int32) (x2 : Addr) : entryFrame m #[(.int x0), (.int x1), (.ref x2)] 3 = mkF m 0 #[.val (.int x0), .val (.int x1), .val (.ref x2)] [] := by first | (simp [entryFrame, mkF, argsToLocals, Value.category]; done) | rfl
def Q21r (Z : State) (p0 : Int32) (p1 : Int32) (r2 : Addr) (h0 : Heap) (n0 : Nat) (v : Option Value) (h : Heap) (L : List Loc) : Prop := v = some (.int p0) ∧ Fr n0 L ∧ h = h0
set_option maxRecDepth 65536 in
set_option maxHeartbeats 40000000 in
theorem rm21r (l : Launch) (Z : State) (a0 : Array Value) (hw : ∀ d ∈ tables_1, d.before a0 Z = true) (ws : List Jvm.Cond) (p0 : Int32) (p1 : Int32) (r2 : Addr)  (h0 : Heap) (n0 : Nat) (Z0 : n0 ≤ h0.size) (hp0 : ¬ p0 < (0 : Int32)) (hp1 : p0 < p1) :
    MetFree l yy_0 (head1 (Jvm.Cond.code yy_0 jdk_41_method_11_code 3 (some .int) :: ws) ({ frames := 0, cells := 0, slots := 0, locals := 0 } : Room)) (fun a U => a = #[(.int p0), (.int p1), (.ref r2)] ∧ Z.Warmed39 U.vm ∧ U.heap = h0) (fun _ _ _ _ _ => True) (fun _ U o U' => ∃ v L, o = .returned v ∧ Q21r Z p0 p1 r2 h0 n0 v U'.heap L ∧ FrameEnd U o U' L ({ frames := 0, cells := 0, slots := 0, locals := 0 } : Room).cells ({ frames := 0, cells := 0, slots := 0, locals := 0 } : Room).slots) := by
  refine MetFree.of_bodySF (plainFor_of_name pn_21) hisR ?_
  intro p e s m args below meth c s₁ Bd hml0 hP hK
  obtain ⟨rfl, hZ, hh⟩ := hP
  have hx := Bd.exec
  have hby := Bd.bytes
  have hml : c.maxLocals = 3 := hml0
  have hown : s.vm.findClass "jdk/internal/util/Preconditions" = some m.cls := findClass_of_methodNamed Bd.named
  have hnm := (name_of_methodNamed Bd.named Bd.method).1
  have X0 : Stand p l e ({ frames := 0, cells := 0, slots := 0, locals := 0 } : Room) s m #[(.int p0), (.int p1), (.ref r2)] below meth c s₁ [] 0 0 := Stand.of_body Bd
  have e0 : s₁.heap = h0 := by rw [← hh, Bd.state]; rfl
  have N0 := Fr.nil n0
  have pre0 : ∀ t, Steps p.tables e below (s₁.setTop (mkF m 0 #[oi p0, oi p1, oa r2] [])) t → Steps p.tables e below (s₁.setTop (entryFrame m #[(.int p0), (.int p1), (.ref r2)] 3)) t := fun t k => castTop (ef_21 m p0 p1 r2) k
  have c2 : own_G p e below s₁ (mkF m 1 #[oi p0, oi p1, oa r2] [(.int p0)]) (mkF m 0 #[oi p0, oi p1, oa r2] []) := by
    intro t kt
    show oS s₁ (mkF m 0 #[oi p0, oi p1, oa r2] []) _
    refine XS.iloadN X0.here hx rfl (hb hby d21_0) rfl ?_
    exact kt
  have hd1 : ¬ (p0 < (0 : Int32)) := hp0
  have c4 : own_G p e below s₁ (mkF m 6 #[oi p0, oi p1, oa r2] [(.int p1), (.int p0)]) (mkF m 1 #[oi p0, oi p1, oa r2] [(.int p0)]) := by
    intro t kt
    show oS s₁ (mkF m 1 #[oi p0, oi p1, oa r2] [(.int p0)]) _
    refine XS.ifNo X0.here hx rfl (hb hby d21_1) rfl ((if0 _ _).trans (flt hd1).1) ?_
    show oS s₁ (mkF m 4 #[oi p0, oi p1, oa r2] []) _
    refine XS.iloadN X0.here hx rfl (hb hby d21_4) rfl ?_
    show oS s₁ (mkF m 5 #[oi p0, oi p1, oa r2] [(.int p0)]) _
    refine XS.iloadN X0.here hx rfl (hb hby d21_5) rfl ?_
    exact kt
  have hd3 : p0 < p1 := hp1
  have c5 : own_G p e below s₁ (mkF m 17 #[oi p0, oi p1, oa r2] [(.int p0)]) (mkF m 6 #[oi p0, oi p1, oa r2] [(.int p1), (.int p0)]) := by
    intro t kt
    show oS s₁ (mkF m 6 #[oi p0, oi p1, oa r2] [(.int p1), (.int p0)]) _
    refine XS.icmpYes X0.here hx rfl (pc0 := 6) (pc' := 16) rfl (hb hby d21_6) rfl (tlt hd3).1 (by decide) (by decide) ?_
    show oS s₁ (mkF m 16 #[oi p0, oi p1, oa r2] []) _
    refine XS.iloadN X0.here hx rfl (hb hby d21_16) rfl ?_
    exact kt
  obtain ⟨fs, hr, hrun, hended, hW, hsame⟩ := X0.leave (v := some (.int p0)) (fun h => by rw [Bd.returns] at h; cases h)
  refine ⟨_, _, pre0 _ (c2 _ (c4 _ (c5 _ (?_)))), hrun, hended, _, _, rfl, ?_, ⟨_, rfl⟩, hW, hsame.mono (by decide) (by decide)⟩
  · show Steps p.tables e below (s₁.setTop (mkF m 17 #[oi p0, oi p1, oa r2] [(.int p0)])) _
    exact retI X0 hx Bd.returns (hb hby d21_17) hr
  · show Q21r Z p0 p1 r2 h0 n0 _ s₁.heap _
    rw [e0]
    exact ⟨congrArg (fun z => some (Value.int z)) (show p0 = p0 from by rfl), N0, rfl⟩
theorem d20_0 : decode jdk_42_method_155_code 0 = .ok (.iload_n 0, 1) := by decide +kernel
theorem d20_1 : decode jdk_42_method_155_code 1 = .ok (.iload_n 1, 1) := by decide +kernel
theorem d20_2 : decode jdk_42_method_155_code 2 = .ok (.getstatic 1053, 3) := by decide +kernel
theorem d20_5 : decode jdk_42_method_155_code 5 = .ok (.invokestatic 1059, 3) := by decide +kernel
theorem d20_8 : decode jdk_42_method_155_code 8 = .ok (.pop, 1) := by decide +kernel
theorem d20_9 : decode jdk_42_method_155_code 9 = .ok (.return_, 1) := by decide +kernel
theorem pn_20 : plainName "java/lang/String" = true := by first | (simp [plainName, overriddenIn]; done) | decide +kernel
theorem ef_20 (m : MethodId) (x0 : Int32) (x1 : Int32) : entryFrame m #[(.int x0), (.int x1)] 2 = mkF m 0 #[.val (.int x0), .val (.int x1)] [] := by first | (simp [entryFrame, mkF, argsToLocals, Value.category]; done) | rfl
def Q20 (Z : State) (p0 : Int32) (p1 : Int32) (fm : Value) (h0 : Heap) (n0 : Nat) (v : Option Value) (h : Heap) (L : List Loc) : Prop := v = none ∧ Fr n0 L ∧ h = h0
set_option maxRecDepth 65536 in
set_option maxHeartbeats 40000000 in
theorem rm20 (l : Launch) (Z : State) (a0 : Array Value) (hw : ∀ d ∈ tables_1, d.before a0 Z = true) (ws : List Jvm.Cond) (p0 : Int32) (p1 : Int32) (fm : Value) (h0 : Heap) (n0 : Nat) (Z0 : n0 ≤ h0.size) (hp0 : ¬ p0 < (0 : Int32)) (hp1 : p0 < p1) (SF : Sta Z h0 "jdk/internal/util/Preconditions" "SIOOBE_FORMATTER" "Ljava/util/function/BiFunction;" fm) (hfm : fm.isRef = true) :
    MetFree l yy_1 (head1 (Jvm.Cond.code yy_1 jdk_42_method_155_code 2 none :: ws) ({ frames := 1, cells := 0, slots := 0, locals := 14 } : Room)) (fun a U => a = #[(.int p0), (.int p1)] ∧ Z.Warmed39 U.vm ∧ U.heap = h0) (fun _ _ _ _ _ => True) (fun _ U o U' => ∃ v L, o = .returned v ∧ Q20 Z p0 p1 fm h0 n0 v U'.heap L ∧ FrameEnd U o U' L ({ frames := 1, cells := 0, slots := 0, locals := 14 } : Room).cells ({ frames := 1, cells := 0, slots := 0, locals := 14 } : Room).slots) := by
  refine MetFree.of_bodySF (plainFor_of_name pn_20) hisR ?_
  intro p e s m args below meth c s₁ Bd hml0 hP hK
  obtain ⟨rfl, hZ, hh⟩ := hP
  have hx := Bd.exec
  have hby := Bd.bytes
  have hml : c.maxLocals = 2 := hml0
  have hown : s.vm.findClass "java/lang/String" = some m.cls := findClass_of_methodNamed Bd.named
  have hnm := (name_of_methodNamed Bd.named Bd.method).1
  have X0 : Stand p l e ({ frames := 1, cells := 0, slots := 0, locals := 14 } : Room) s m #[(.int p0), (.int p1)] below meth c s₁ [] 0 0 := Stand.of_body Bd
  have e0 : s₁.heap = h0 := by rw [← hh, Bd.state]; rfl
  have N0 := Fr.nil n0
  have pre0 : ∀ t, Steps p.tables e below (s₁.setTop (mkF m 0 #[oi p0, oi p1] [])) t → Steps p.tables e below (s₁.setTop (entryFrame m #[(.int p0), (.int p1)] 2)) t := fun t k => castTop (ef_20 m p0 p1) k
  rcases ref_cases hfm with rfl | ⟨fa, rfl⟩
  · skip
    have c2 : own_G p e below s₁ (mkF m 2 #[oi p0, oi p1] [(.int p1), (.int p0)]) (mkF m 0 #[oi p0, oi p1] []) := by
      intro t kt
      show oS s₁ (mkF m 0 #[oi p0, oi p1] []) _
      refine XS.iloadN X0.here hx rfl (hb hby d20_0) rfl ?_
      show oS s₁ (mkF m 1 #[oi p0, oi p1] [(.int p0)]) _
      refine XS.iloadN X0.here hx rfl (hb hby d20_1) rfl ?_
      exact kt
    obtain ⟨T1, X1, e1, st1⟩ := getS2 X0 hx hZ hown (host := "") (Or.inl (own_t hw 91 rfl)) Via.refl e0 SF (g := (mkF m 2 #[oi p0, oi p1] [(.int p1), (.int p0)])) rfl (hb hby d20_2)
    obtain ⟨_, _, ⟨T3, L3, k3, n3⟩, -, X3, ⟨Lc3, hQ3, l3, y3, z3⟩, st3⟩ := Jvm.LawKit.callS X1 hx (y := yy_0) hown (mvT hZ (own_t hw 93 rfl)) (mvT hZ (own_t hw 94 rfl)) (mvT hZ (own_t hw 92 rfl)) (mvT hZ (own_t hw 95 rfl)) (by decide) (backOf (W := 0) (rm21n l Z a0 hw [] p0 p1  h0 n0 Z0 hp0 hp1) hZ (own_t hw 95 rfl) (own_t hw 92 rfl) (by decide) (by decide)) (g := (mkF m 5 #[oi p0, oi p1] [.null, (.int p1), (.int p0)])) rfl (by rw [hml]; rfl) (argsL := [(.int p0), (.int p1), .null]) (rest := []) (lenOf pd_0 rfl) rfl (by show 2 * 0 + _ ≤ _; exact Nat.le_of_eq rfl) (hb hby d20_5) (fun _ _ => ⟨rfl, e1, (by decide : 0 + 0 ≤ _), (by decide : 0 + 0 ≤ _)⟩)
    dsimp only [Pt.U, Pt.locs, Pt.cells, Pt.slots] at X3 l3 y3 z3 st3 hQ3
    subst l3 y3 z3
    obtain ⟨rfl, N3q, e3⟩ := hQ3
    have N3 := Fr.app N0 N3q
    have c4 : own_G p e below T3 (mkF m 9 #[oi p0, oi p1] []) (mkF m 8 #[oi p0, oi p1] [(.int p0)]) := by
      intro t kt
      show oS T3 (mkF m 8 #[oi p0, oi p1] [(.int p0)]) _
      refine XS.pop X3.here hx rfl (hb hby d20_8) rfl rfl ?_
      exact kt
    obtain ⟨fs, hr, hrun, hended, hW, hsame⟩ := X3.leave (v := none) (fun _ => rfl)
    refine ⟨_, _, pre0 _ (c2 _ (st1 _ (st3 _ (c4 _ (?_))))), hrun, hended, _, _, rfl, ?_, ⟨_, rfl⟩, hW, hsame.mono (by decide) (by decide)⟩
    · show Steps p.tables e below (T3.setTop (mkF m 9 #[oi p0, oi p1] [])) _
      exact X3.returnOut hx Bd.returns (hb hby d20_9) hr
    · show Q20 Z p0 p1 _ h0 n0 _ T3.heap _
      rw [e3]
      exact ⟨rfl, N3, rfl⟩
  · skip
    have c7 : own_G p e below s₁ (mkF m 2 #[oi p0, oi p1] [(.int p1), (.int p0)]) (mkF m 0 #[oi p0, oi p1] []) := by
      intro t kt
      show oS s₁ (mkF m 0 #[oi p0, oi p1] []) _
      refine XS.iloadN X0.here hx rfl (hb hby d20_0) rfl ?_
      show oS s₁ (mkF m 1 #[oi p0, oi p1] [(.int p0)]) _
      refine XS.iloadN X0.here hx rfl (hb hby d20_1) rfl ?_
      exact kt
    obtain ⟨T6, X6, e6, st6⟩ := getS2 X0 hx hZ hown (host := "") (Or.inl (own_t hw 91 rfl)) Via.refl e0 SF (g := (mkF m 2 #[oi p0, oi p1] [(.int p1), (.int p0)])) rfl (hb hby d20_2)
    obtain ⟨_, _, ⟨T8, L8, k8, n8⟩, -, X8, ⟨Lc8, hQ8, l8, y8, z8⟩, st8⟩ := Jvm.LawKit.callS X6 hx (y := yy_0) hown (mvT hZ (own_t hw 93 rfl)) (mvT hZ (own_t hw 94 rfl)) (mvT hZ (own_t hw 92 rfl)) (mvT hZ (own_t hw 95 rfl)) (by decide) (backOf (W := 0) (rm21r l Z a0 hw [] p0 p1 fa  h0 n0 Z0 hp0 hp1) hZ (own_t hw 95 rfl) (own_t hw 92 rfl) (by decide) (by decide)) (g := (mkF m 5 #[oi p0, oi p1] [(.ref fa), (.int p1), (.int p0)])) rfl (by rw [hml]; rfl) (argsL := [(.int p0), (.int p1), (.ref fa)]) (rest := []) (lenOf pd_0 rfl) rfl (by show 2 * 0 + _ ≤ _; exact Nat.le_of_eq rfl) (hb hby d20_5) (fun _ _ => ⟨rfl, e6, (by decide : 0 + 0 ≤ _), (by decide : 0 + 0 ≤ _)⟩)
    dsimp only [Pt.U, Pt.locs, Pt.cells, Pt.slots] at X8 l8 y8 z8 st8 hQ8
    subst l8 y8 z8
    obtain ⟨rfl, N8q, e8⟩ := hQ8
    have N8 := Fr.app N0 N8q
    have c9 : own_G p e below T8 (mkF m 9 #[oi p0, oi p1] []) (mkF m 8 #[oi p0, oi p1] [(.int p0)]) := by
      intro t kt
      show oS T8 (mkF m 8 #[oi p0, oi p1] [(.int p0)]) _
      refine XS.pop X8.here hx rfl (hb hby d20_8) rfl rfl ?_
      exact kt
    obtain ⟨fs, hr, hrun, hended, hW, hsame⟩ := X8.leave (v := none) (fun _ => rfl)
    refine ⟨_, _, pre0 _ (c7 _ (st6 _ (st8 _ (c9 _ (?_))))), hrun, hended, _, _, rfl, ?_, ⟨_, rfl⟩, hW, hsame.mono (by decide) (by decide)⟩
    · show Steps p.tables e below (T8.setTop (mkF m 9 #[oi p0, oi p1] [])) _
      exact X8.returnOut hx Bd.returns (hb hby d20_9) hr
    · show Q20 Z p0 p1 _ h0 n0 _ T8.heap _
      rw [e8]
      exact ⟨rfl, N8, rfl⟩
theorem d23_0 : decode jdk_43_method_2_code 0 = .ok (.iload_n 1, 1) := by decide +kernel
theorem d23_1 : decode jdk_43_method_2_code 1 = .ok (.aload_n 0, 1) := by decide +kernel
theorem d23_2 : decode jdk_43_method_2_code 2 = .ok (.arraylength, 1) := by decide +kernel
theorem d23_3 : decode jdk_43_method_2_code 3 = .ok (.invokestatic 9, 3) := by decide +kernel
theorem d23_6 : decode jdk_43_method_2_code 6 = .ok (.aload_n 0, 1) := by decide +kernel
theorem d23_7 : decode jdk_43_method_2_code 7 = .ok (.iload_n 1, 1) := by decide +kernel
theorem d23_8 : decode jdk_43_method_2_code 8 = .ok (.baload, 1) := by decide +kernel
theorem d23_9 : decode jdk_43_method_2_code 9 = .ok (.sipush 255, 3) := by decide +kernel
theorem d23_12 : decode jdk_43_method_2_code 12 = .ok (.iand, 1) := by decide +kernel
theorem d23_13 : decode jdk_43_method_2_code 13 = .ok (.i2c, 1) := by decide +kernel
theorem d23_14 : decode jdk_43_method_2_code 14 = .ok (.ireturn, 1) := by decide +kernel
theorem pn_23 : plainName "java/lang/StringLatin1" = true := by first | (simp [plainName, overriddenIn]; done) | decide +kernel
theorem ef_23 (m : MethodId) (x0 : Addr) (x1 : Int32) : entryFrame m #[(.ref x0), (.int x1)] 2 = mkF m 0 #[.val (.ref x0), .val (.int x1)] [] := by first | (simp [entryFrame, mkF, argsToLocals, Value.category]; done) | rfl
def Q23 (Z : State) (r0 : Addr) (p1 : Int32) (kk : ClassId) (zz : Int32) (vs : List Value) (dv : Value) (w0 : Int32) (fm : Value) (h0 : Heap) (n0 : Nat) (v : Option Value) (h : Heap) (L : List Loc) : Prop := v = some (.int (own_ch w0)) ∧ Fr n0 L ∧ h = h0
set_option maxRecDepth 65536 in
set_option maxHeartbeats 40000000 in
theorem rm23 (l : Launch) (Z : State) (a0 : Array Value) (hw : ∀ d ∈ tables_1, d.before a0 Z = true) (ws : List Jvm.Cond) (r0 : Addr) (p1 : Int32) (kk : ClassId) (zz : Int32) (vs : List Value) (dv : Value) (w0 : Int32) (fm : Value) (h0 : Heap) (n0 : Nat) (Z0 : n0 ≤ h0.size) (V : Arv Z h0 r0 kk .byte zz vs dv) (hi0 : ¬ p1 < 0 ∧ p1 < zz) (ha0 : vs.getD p1.toNatClampNeg dv = .int w0) (SF : Sta Z h0 "jdk/internal/util/Preconditions" "SIOOBE_FORMATTER" "Ljava/util/function/BiFunction;" fm) (hfm : fm.isRef = true) :
    MetFree l yy_2 (head1 (Jvm.Cond.code yy_2 jdk_43_method_2_code 2 (some .char) :: ws) ({ frames := 2, cells := 0, slots := 0, locals := 27 } : Room)) (fun a U => a = #[(.ref r0), (.int p1)] ∧ Z.Warmed39 U.vm ∧ U.heap = h0) (fun _ _ _ _ _ => True) (fun _ U o U' => ∃ v L, o = .returned v ∧ Q23 Z r0 p1 kk zz vs dv w0 fm h0 n0 v U'.heap L ∧ FrameEnd U o U' L ({ frames := 2, cells := 0, slots := 0, locals := 27 } : Room).cells ({ frames := 2, cells := 0, slots := 0, locals := 27 } : Room).slots) := by
  refine MetFree.of_bodySF (plainFor_of_name pn_23) hisR ?_
  intro p e s m args below meth c s₁ Bd hml0 hP hK
  obtain ⟨rfl, hZ, hh⟩ := hP
  have hx := Bd.exec
  have hby := Bd.bytes
  have hml : c.maxLocals = 2 := hml0
  have hown : s.vm.findClass "java/lang/StringLatin1" = some m.cls := findClass_of_methodNamed Bd.named
  have hnm := (name_of_methodNamed Bd.named Bd.method).1
  have X0 : Stand p l e ({ frames := 2, cells := 0, slots := 0, locals := 27 } : Room) s m #[(.ref r0), (.int p1)] below meth c s₁ [] 0 0 := Stand.of_body Bd
  have e0 : s₁.heap = h0 := by rw [← hh, Bd.state]; rfl
  have N0 := Fr.nil n0
  have pre0 : ∀ t, Steps p.tables e below (s₁.setTop (mkF m 0 #[oa r0, oi p1] [])) t → Steps p.tables e below (s₁.setTop (entryFrame m #[(.ref r0), (.int p1)] 2)) t := fun t k => castTop (ef_23 m r0 p1) k
  have Vc1 := V
  obtain ⟨cl1, Ar1, qk1, S1, M1, H1, G1⟩ := Vc1
  have c2 : own_G p e below s₁ (mkF m 3 #[oa r0, oi p1] [(.int zz), (.int p1)]) (mkF m 0 #[oa r0, oi p1] []) := by
    intro t kt
    show oS s₁ (mkF m 0 #[oa r0, oi p1] []) _
    refine XS.iloadN X0.here hx rfl (hb hby d23_0) rfl ?_
    show oS s₁ (mkF m 1 #[oa r0, oi p1] [(.int p1)]) _
    refine XS.aloadN X0.here hx rfl (hb hby d23_1) rfl rfl ?_
    show oS s₁ (mkF m 2 #[oa r0, oi p1] [(.ref r0), (.int p1)]) _
    refine X0.arraylength hx (by rw [e0]; exact Ar1.1) (State.isArrayOf_alike hZ.alike Ar1.2.1) (g := (mkF m 2 #[oa r0, oi p1] [(.ref r0), (.int p1)])) rfl rfl (hb hby d23_2) _ ?_
    rw [len_of S1 M1]
    exact kt
  obtain ⟨_, _, ⟨T3, L3, k3, n3⟩, -, X3, ⟨Lc3, hQ3, l3, y3, z3⟩, st3⟩ := Jvm.LawKit.callS X0 hx (y := yy_1) hown (mvT hZ (own_t hw 103 rfl)) (mvT hZ (own_t hw 89 rfl)) (mvT hZ (own_t hw 11 rfl)) (mvT hZ (own_t hw 90 rfl)) (by decide) (backOf (W := 0) (rm20 l Z a0 hw [] p1 zz fm h0 n0 Z0 hi0.1 hi0.2 SF hfm) hZ (own_t hw 90 rfl) (own_t hw 11 rfl) (by decide) (by decide)) (g := (mkF m 3 #[oa r0, oi p1] [(.int zz), (.int p1)])) rfl (by rw [hml]; rfl) (argsL := [(.int p1), (.int zz)]) (rest := []) (lenOf pd_1 rfl) rfl (by show 2 * 0 + _ ≤ _; exact Nat.le_of_eq rfl) (hb hby d23_3) (fun _ _ => ⟨rfl, e0, (by decide : 0 + 0 ≤ _), (by decide : 0 + 0 ≤ _)⟩)
  dsimp only [Pt.U, Pt.locs, Pt.cells, Pt.slots] at X3 l3 y3 z3 st3 hQ3
  subst l3 y3 z3
  obtain ⟨rfl, N3q, e3⟩ := hQ3
  have N3 := Fr.app N0 N3q
  have Vc4 := V
  obtain ⟨cl4, Ar4, qk4, S4, M4, H4, G4⟩ := Vc4
  have hin4 : ¬ (p1 < 0 ∨ cl4.slots.size ≤ (p1).toNatClampNeg) := inb_of S4 hi0
  have hat4 : cl4.slots[(p1).toNatClampNeg]? = some (.int w0) := H4.at hin4 ha0
  have c5 : own_G p e below T3 (mkF m 14 #[oa r0, oi p1] [(.int ((w0 &&& (255 : Int32)).toUInt32.toUInt16.toUInt32.toInt32))]) (mkF m 6 #[oa r0, oi p1] []) := by
    intro t kt
    show oS T3 (mkF m 6 #[oa r0, oi p1] []) _
    refine XS.aloadN X3.here hx rfl (hb hby d23_6) rfl rfl ?_
    show oS T3 (mkF m 7 #[oa r0, oi p1] [(.ref r0)]) _
    refine XS.iloadN X3.here hx rfl (hb hby d23_7) rfl ?_
    show oS T3 (mkF m 8 #[oa r0, oi p1] [(.int p1), (.ref r0)]) _
    refine X3.baloadBytes hx (j := p1) (v := (.int w0)) (by rw [e3]; exact Ar4.1) (State.isArrayOf_alike hZ.alike Ar4.2.1) Ar4.2.2 hin4 hat4 (g := (mkF m 8 #[oa r0, oi p1] [(.int p1), (.ref r0)])) rfl rfl (hb hby d23_8) _ ?_
    show oS T3 (mkF m 9 #[oa r0, oi p1] [(.int w0)]) _
    refine XS.sipush X3.here hx rfl (hb hby d23_9) ?_
    show oS T3 (mkF m 12 #[oa r0, oi p1] [(.int (255 : Int32)), (.int w0)]) _
    refine XS.iand X3.here hx rfl (hb hby d23_12) rfl ?_
    show oS T3 (mkF m 13 #[oa r0, oi p1] [(.int (w0 &&& (255 : Int32)))]) _
    refine XS.i2c X3.here hx rfl (hb hby d23_13) rfl ?_
    exact kt
  obtain ⟨fs, hr, hrun, hended, hW, hsame⟩ := X3.leave (v := some (.int (((w0 &&& (255 : Int32)).toUInt32.toUInt16.toUInt32.toInt32).toUInt32.toUInt16.toUInt32.toInt32))) (fun h => by rw [Bd.returns] at h; cases h)
  refine ⟨_, _, pre0 _ (c2 _ (st3 _ (c5 _ (?_)))), hrun, hended, _, _, rfl, ?_, ⟨_, rfl⟩, hW, hsame.mono (by decide) (by decide)⟩
  · show Steps p.tables e below (T3.setTop (mkF m 14 #[oa r0, oi p1] [(.int ((w0 &&& (255 : Int32)).toUInt32.toUInt16.toUInt32.toInt32))])) _
    exact retN X3 hx (t := .char) Bd.returns (by simp) (hb hby d23_14) hr
  · show Q23 Z r0 p1 kk zz vs dv w0 fm h0 n0 _ T3.heap _
    rw [e3]
    exact ⟨congrArg (fun z => some (Value.int z)) (show (((w0 &&& (255 : Int32)).toUInt32.toUInt16.toUInt32.toInt32).toUInt32.toUInt16.toUInt32.toInt32) = (own_ch w0) from by rfl), N3, rfl⟩
theorem d16_0 : decode jdk_42_method_154_code 0 = .ok (.getstatic 38, 3) := by decide +kernel
theorem d16_3 : decode jdk_42_method_154_code 3 = .ok (.ifCond .eq 14, 3) := by decide +kernel
theorem d16_6 : decode jdk_42_method_154_code 6 = .ok (.aload_n 0, 1) := by decide +kernel
theorem d16_7 : decode jdk_42_method_154_code 7 = .ok (.getfield 15, 3) := by decide +kernel
theorem d16_10 : decode jdk_42_method_154_code 10 = .ok (.ifCond .ne 7, 3) := by decide +kernel
theorem d16_13 : decode jdk_42_method_154_code 13 = .ok (.iconst 1, 1) := by decide +kernel
theorem d16_14 : decode jdk_42_method_154_code 14 = .ok (.goto 4, 3) := by decide +kernel
theorem d16_18 : decode jdk_42_method_154_code 18 = .ok (.ireturn, 1) := by decide +kernel
theorem pn_16 : plainName "java/lang/String" = true := by first | (simp [plainName, overriddenIn]; done) | decide +kernel
theorem ef_16 (m : MethodId) (x0 : Addr) : entryFrame m #[(.ref x0)] 1 = mkF m 0 #[.val (.ref x0)] [] := by first | (simp [entryFrame, mkF, argsToLocals, Value.category]; done) | rfl
def Q16 (Z : State) (r0 : Addr) (cs : Int32) (h0 : Heap) (n0 : Nat) (v : Option Value) (h : Heap) (L : List Loc) : Prop := v = some (.int (1 : Int32)) ∧ Fr n0 L ∧ h = h0
set_option maxRecDepth 65536 in
set_option maxHeartbeats 40000000 in
theorem rm16 (l : Launch) (Z : State) (a0 : Array Value) (hw : ∀ d ∈ tables_1, d.before a0 Z = true) (ws : List Jvm.Cond) (r0 : Addr) (cs : Int32) (h0 : Heap) (n0 : Nat) (Z0 : n0 ≤ h0.size) (SC : Sta Z h0 "java/lang/String" "COMPACT_STRINGS" "Z" (.int cs)) (hcs : ¬ cs = (0 : Int32)) (C0 : Fld Z h0 r0 "java/lang/String" "coder" "B" (.int (0 : Int32))) :
    MetFree l yy_3 (head1 (Jvm.Cond.code yy_3 jdk_42_method_154_code 1 (some .boolean) :: ws) ({ frames := 0, cells := 0, slots := 0, locals := 0 } : Room)) (fun a U => a = #[(.ref r0)] ∧ Z.Warmed39 U.vm ∧ U.heap = h0) (fun _ _ _ _ _ => True) (fun _ U o U' => ∃ v L, o = .returned v ∧ Q16 Z r0 cs h0 n0 v U'.heap L ∧ FrameEnd U o U' L ({ frames := 0, cells := 0, slots := 0, locals := 0 } : Room).cells ({ frames := 0, cells := 0, slots := 0, locals := 0 } : Room).slots) := by
  refine MetFree.of_bodySF (plainFor_of_name pn_16) hisR ?_
  intro p e s m args below meth c s₁ Bd hml0 hP hK
  obtain ⟨rfl, hZ, hh⟩ := hP
  have hx := Bd.exec
  have hby := Bd.bytes
  have hml : c.maxLocals = 1 := hml0
  have hown : s.vm.findClass "java/lang/String" = some m.cls := findClass_of_methodNamed Bd.named
  have hnm := (name_of_methodNamed Bd.named Bd.method).1
  have X0 : Stand p l e ({ frames := 0, cells := 0, slots := 0, locals := 0 } : Room) s m #[(.ref r0)] below meth c s₁ [] 0 0 := Stand.of_body Bd
  have e0 : s₁.heap = h0 := by rw [← hh, Bd.state]; rfl
  have N0 := Fr.nil n0
  have pre0 : ∀ t, Steps p.tables e below (s₁.setTop (mkF m 0 #[oa r0] [])) t → Steps p.tables e below (s₁.setTop (entryFrame m #[(.ref r0)] 1)) t := fun t k => castTop (ef_16 m r0) k
  obtain ⟨T1, X1, e1, st1⟩ := getS2 X0 hx hZ hown (host := "") (Or.inl (own_t hw 22 rfl)) Via.refl e0 SC (g := (mkF m 0 #[oa r0] [])) rfl (hb hby d16_0)
  have hd2 : ¬ (cs = (0 : Int32)) := hcs
  have c4 : own_G p e below T1 (mkF m 7 #[oa r0] [(.ref r0)]) (mkF m 3 #[oa r0] [(.int cs)]) := by
    intro t kt
    show oS T1 (mkF m 3 #[oa r0] [(.int cs)]) _
    refine XS.ifNo X1.here hx rfl (hb hby d16_3) rfl ((if0 _ _).trans (feq hd2).1) ?_
    show oS T1 (mkF m 6 #[oa r0] []) _
    refine XS.aloadN X1.here hx rfl (hb hby d16_6) rfl rfl ?_
    exact kt
  obtain ⟨T3, X3, e3, st3⟩ := getF X1 hx hZ hown (host := "") (Or.inl (own_t hw 34 rfl)) Via.refl e1 C0 (g := (mkF m 7 #[oa r0] [(.ref r0)])) rfl rfl (hb hby d16_7)
  have c5 : own_G p e below T3 (mkF m 18 #[oa r0] [(.int (1 : Int32))]) (mkF m 10 #[oa r0] [(.int (0 : Int32))]) := by
    intro t kt
    show oS T3 (mkF m 10 #[oa r0] [(.int (0 : Int32))]) _
    refine XS.ifNo X3.here hx rfl (hb hby d16_10) rfl ((if0 _ _).trans (teq (by decide : (0 : Int32) = (0 : Int32))).2) ?_
    show oS T3 (mkF m 13 #[oa r0] []) _
    refine XS.iconst X3.here hx rfl (hb hby d16_13) ?_
    show oS T3 (mkF m 14 #[oa r0] [(.int (1 : Int32))]) _
    refine XS.goto X3.here hx rfl (pc0 := 14) (pc' := 18) rfl (hb hby d16_14) (by decide) (by decide) ?_
    exact kt
  obtain ⟨fs, hr, hrun, hended, hW, hsame⟩ := X3.leave (v := some (.int (1 : Int32))) (fun h => by rw [Bd.returns] at h; cases h)
  refine ⟨_, _, pre0 _ (st1 _ (c4 _ (st3 _ (c5 _ (?_))))), hrun, hended, _, _, rfl, ?_, ⟨_, rfl⟩, hW, hsame.mono (by decide) (by decide)⟩
  · show Steps p.tables e below (T3.setTop (mkF m 18 #[oa r0] [(.int (1 : Int32))])) _
    exact retN X3 hx (t := .boolean) Bd.returns (by simp) (hb hby d16_18) hr
  · show Q16 Z r0 cs h0 n0 _ T3.heap _
    rw [e3]
    exact ⟨congrArg (fun z => some (Value.int z)) (show (1 : Int32) = (1 : Int32) from by rfl), N0, rfl⟩
theorem d15_0 : decode jdk_42_method_56_code 0 = .ok (.aload_n 0, 1) := by decide +kernel
theorem d15_1 : decode jdk_42_method_56_code 1 = .ok (.invokevirtual 492, 3) := by decide +kernel
theorem d15_4 : decode jdk_42_method_56_code 4 = .ok (.ifCond .eq 12, 3) := by decide +kernel
theorem d15_7 : decode jdk_42_method_56_code 7 = .ok (.aload_n 0, 1) := by decide +kernel
theorem d15_8 : decode jdk_42_method_56_code 8 = .ok (.getfield 9, 3) := by decide +kernel
theorem d15_11 : decode jdk_42_method_56_code 11 = .ok (.iload_n 1, 1) := by decide +kernel
theorem d15_12 : decode jdk_42_method_56_code 12 = .ok (.invokestatic 495, 3) := by decide +kernel
theorem d15_15 : decode jdk_42_method_56_code 15 = .ok (.ireturn, 1) := by decide +kernel
theorem pn_15 : plainName "java/lang/String" = true := by first | (simp [plainName, overriddenIn]; done) | decide +kernel
theorem ef_15 (m : MethodId) (x0 : Addr) (x1 : Int32) : entryFrame m #[(.ref x0), (.int x1)] 2 = mkF m 0 #[.val (.ref x0), .val (.int x1)] [] := by first | (simp [entryFrame, mkF, argsToLocals, Value.category]; done) | rfl
def Q15 (Z : State) (r0 : Addr) (p1 : Int32) (rb : Addr) (kk : ClassId) (zz : Int32) (vs : List Value) (dv : Value) (w0 : Int32) (fm : Value) (cs : Int32) (h0 : Heap) (n0 : Nat) (v : Option Value) (h : Heap) (L : List Loc) : Prop := v = some (.int (own_cc w0)) ∧ Fr n0 L ∧ h = h0
set_option maxRecDepth 65536 in
set_option maxHeartbeats 40000000 in
theorem rm15 (l : Launch) (Z : State) (a0 : Array Value) (hw : ∀ d ∈ tables_1, d.before a0 Z = true) (ws : List Jvm.Cond) (r0 : Addr) (p1 : Int32) (rb : Addr) (kk : ClassId) (zz : Int32) (vs : List Value) (dv : Value) (w0 : Int32) (fm : Value) (cs : Int32) (h0 : Heap) (n0 : Nat) (Z0 : n0 ≤ h0.size) (E0 : Exa Z h0 r0 "java/lang/String") (F0 : Fld Z h0 r0 "java/lang/String" "value" "[B" (.ref rb)) (V : Arv Z h0 rb kk .byte zz vs dv) (hi0 : ¬ p1 < 0 ∧ p1 < zz) (ha0 : vs.getD p1.toNatClampNeg dv = .int w0) (SF : Sta Z h0 "jdk/internal/util/Preconditions" "SIOOBE_FORMATTER" "Ljava/util/function/BiFunction;" fm) (hfm : fm.isRef = true) (SC : Sta Z h0 "java/lang/String" "COMPACT_STRINGS" "Z" (.int cs)) (hcs : ¬ cs = (0 : Int32)) (C0 : Fld Z h0 r0 "java/lang/String" "coder" "B" (.int (0 : Int32))) :
    MetFree l yy_4 (head1 (Jvm.Cond.code yy_4 jdk_42_method_56_code 2 (some .char) :: ws) ({ frames := 3, cells := 0, slots := 0, locals := 40 } : Room)) (fun a U => a = #[(.ref r0), (.int p1)] ∧ Z.Warmed39 U.vm ∧ U.heap = h0) (fun _ _ _ _ _ => True) (fun _ U o U' => ∃ v L, o = .returned v ∧ Q15 Z r0 p1 rb kk zz vs dv w0 fm cs h0 n0 v U'.heap L ∧ FrameEnd U o U' L ({ frames := 3, cells := 0, slots := 0, locals := 40 } : Room).cells ({ frames := 3, cells := 0, slots := 0, locals := 40 } : Room).slots) := by
  refine MetFree.of_bodySF (plainFor_of_name pn_15) hisR ?_
  intro p e s m args below meth c s₁ Bd hml0 hP hK
  obtain ⟨rfl, hZ, hh⟩ := hP
  have hx := Bd.exec
  have hby := Bd.bytes
  have hml : c.maxLocals = 2 := hml0
  have hown : s.vm.findClass "java/lang/String" = some m.cls := findClass_of_methodNamed Bd.named
  have hnm := (name_of_methodNamed Bd.named Bd.method).1
  have X0 : Stand p l e ({ frames := 3, cells := 0, slots := 0, locals := 40 } : Room) s m #[(.ref r0), (.int p1)] below meth c s₁ [] 0 0 := Stand.of_body Bd
  have e0 : s₁.heap = h0 := by rw [← hh, Bd.state]; rfl
  have N0 := Fr.nil n0
  have pre0 : ∀ t, Steps p.tables e below (s₁.setTop (mkF m 0 #[oa r0, oi p1] [])) t → Steps p.tables e below (s₁.setTop (entryFrame m #[(.ref r0), (.int p1)] 2)) t := fun t k => castTop (ef_15 m r0 p1) k
  have c1 : own_G p e below s₁ (mkF m 1 #[oa r0, oi p1] [(.ref r0)]) (mkF m 0 #[oa r0, oi p1] []) := by
    intro t kt
    show oS s₁ (mkF m 0 #[oa r0, oi p1] []) _
    refine XS.aloadN X0.here hx rfl (hb hby d15_0) rfl rfl ?_
    exact kt
  obtain ⟨cq2, kq2, q2a, q2b, q2c⟩ := isOf hZ e0 E0
  obtain ⟨_, _, ⟨T3, L3, k3, n3⟩, -, X3, ⟨Lc3, hQ3, l3, y3, z3⟩, st3⟩ := X0.virtualBack hx (y := yy_3) (z := yy_3) hown (mvT hZ (own_t hw 74 rfl)) (mvT hZ (own_t hw 75 rfl)) (notFace_of_selects (args := #[]) (mvT hZ (own_t hw 77 rfl))) (mvT hZ (own_t hw 77 rfl)) (mvT hZ (own_t hw 76 rfl)) (by decide) (backOf (W := 0) (rm16 l Z a0 hw [] r0 cs h0 n0 Z0 SC hcs C0) hZ (own_t hw 78 rfl) (own_t hw 11 rfl) (by decide) (by decide)) q2a q2c (g := (mkF m 1 #[oa r0, oi p1] [(.ref r0)])) rfl (by rw [hml]; rfl) (Steps.refl _) (argsL := []) (rest := []) (lenOf pd_2 rfl) rfl (by show 2 * 0 + _ ≤ _; exact Nat.le_of_eq rfl) (hb hby d15_1) (fun _ _ => ⟨rfl, e0, (by decide : 0 + 0 ≤ _), (by decide : 0 + 0 ≤ _)⟩)
  dsimp only [Pt.U, Pt.locs, Pt.cells, Pt.slots] at X3 l3 y3 z3 st3 hQ3
  subst l3 y3 z3
  obtain ⟨rfl, N3q, e3⟩ := hQ3
  have N3 := Fr.app N0 N3q
  have c5 : own_G p e below T3 (mkF m 8 #[oa r0, oi p1] [(.ref r0)]) (mkF m 4 #[oa r0, oi p1] [(.int (1 : Int32))]) := by
    intro t kt
    show oS T3 (mkF m 4 #[oa r0, oi p1] [(.int (1 : Int32))]) _
    refine XS.ifNo X3.here hx rfl (hb hby d15_4) rfl ((if0 _ _).trans (feq (by decide : ¬ ((1 : Int32) = (0 : Int32)))).1) ?_
    show oS T3 (mkF m 7 #[oa r0, oi p1] []) _
    refine XS.aloadN X3.here hx rfl (hb hby d15_7) rfl rfl ?_
    exact kt
  obtain ⟨T4, X4, e4, st4⟩ := getF X3 hx hZ hown (host := "") (Or.inl (own_t hw 36 rfl)) Via.refl e3 F0 (g := (mkF m 8 #[oa r0, oi p1] [(.ref r0)])) rfl rfl (hb hby d15_8)
  have c6 : own_G p e below T4 (mkF m 12 #[oa r0, oi p1] [(.int p1), (.ref rb)]) (mkF m 11 #[oa r0, oi p1] [(.ref rb)]) := by
    intro t kt
    show oS T4 (mkF m 11 #[oa r0, oi p1] [(.ref rb)]) _
    refine XS.iloadN X4.here hx rfl (hb hby d15_11) rfl ?_
    exact kt
  obtain ⟨_, _, ⟨T7, L7, k7, n7⟩, -, X7, ⟨Lc7, hQ7, l7, y7, z7⟩, st7⟩ := Jvm.LawKit.callS X4 hx (y := yy_2) hown (mvT hZ (own_t hw 99 rfl)) (mvT hZ (own_t hw 100 rfl)) (mvT hZ (own_t hw 101 rfl)) (mvT hZ (own_t hw 102 rfl)) (by decide) (backOf (W := 0) (rm23 l Z a0 hw [] rb p1 kk zz vs dv w0 fm h0 n0 Z0 V hi0 ha0 SF hfm) hZ (own_t hw 102 rfl) (own_t hw 101 rfl) (by decide) (by decide)) (g := (mkF m 12 #[oa r0, oi p1] [(.int p1), (.ref rb)])) rfl (by rw [hml]; rfl) (argsL := [(.ref rb), (.int p1)]) (rest := []) (lenOf pd_3 rfl) rfl (by show 2 * 0 + _ ≤ _; exact Nat.le_of_eq rfl) (hb hby d15_12) (fun _ _ => ⟨rfl, e4, (by decide : 0 + 0 ≤ _), (by decide : 0 + 0 ≤ _)⟩)
  dsimp only [Pt.U, Pt.locs, Pt.cells, Pt.slots] at X7 l7 y7 z7 st7 hQ7
  subst l7 y7 z7
  obtain ⟨rfl, N7q, e7⟩ := hQ7
  have N7 := Fr.app N3 N7q
  obtain ⟨fs, hr, hrun, hended, hW, hsame⟩ := X7.leave (v := some (.int ((own_ch w0).toUInt32.toUInt16.toUInt32.toInt32))) (fun h => by rw [Bd.returns] at h; cases h)
  refine ⟨_, _, pre0 _ (c1 _ (st3.trans (c5 _ (st4 _ (c6 _ (st7 _ (?_))))))), hrun, hended, _, _, rfl, ?_, ⟨_, rfl⟩, hW, hsame.mono (by decide) (by decide)⟩
  · show Steps p.tables e below (T7.setTop (mkF m 15 #[oa r0, oi p1] [(.int (own_ch w0))])) _
    exact retN X7 hx (t := .char) Bd.returns (by simp) (hb hby d15_15) hr
  · show Q15 Z r0 p1 rb kk zz vs dv w0 fm cs h0 n0 _ T7.heap _
    rw [e7]
    exact ⟨congrArg (fun z => some (Value.int z)) (show ((own_ch w0).toUInt32.toUInt16.toUInt32.toInt32) = (own_cc w0) from by rfl), N7, rfl⟩
theorem d19_0 : decode jdk_52_method_6_code 0 = .ok (.aload_n 0, 1) := by decide +kernel
theorem d19_1 : decode jdk_52_method_6_code 1 = .ok (.arraylength, 1) := by decide +kernel
theorem d19_2 : decode jdk_52_method_6_code 2 = .ok (.iconst 1, 1) := by decide +kernel
theorem d19_3 : decode jdk_52_method_6_code 3 = .ok (.ishr, 1) := by decide +kernel
theorem d19_4 : decode jdk_52_method_6_code 4 = .ok (.ireturn, 1) := by decide +kernel
theorem pn_19 : plainName "java/lang/StringUTF16" = true := by first | (simp [plainName, overriddenIn]; done) | decide +kernel
theorem ef_19 (m : MethodId) (x0 : Addr) : entryFrame m #[(.ref x0)] 1 = mkF m 0 #[.val (.ref x0)] [] := by first | (simp [entryFrame, mkF, argsToLocals, Value.category]; done) | rfl
def Q19 (Z : State) (r0 : Addr) (ka : ClassId) (vs : List Value) (h0 : Heap) (n0 : Nat) (v : Option Value) (h : Heap) (L : List Loc) : Prop := v = some (.int (5 : Int32)) ∧ Fr n0 L ∧ h = h0
set_option maxRecDepth 65536 in
set_option maxHeartbeats 40000000 in
theorem rm19 (l : Launch) (Z : State) (a0 : Array Value) (hw : ∀ d ∈ tables_1, d.before a0 Z = true) (ws : List Jvm.Cond) (r0 : Addr) (ka : ClassId) (vs : List Value) (h0 : Heap) (n0 : Nat) (Z0 : n0 ≤ h0.size) (V : Arv Z h0 r0 ka .byte (10 : Int32) vs (.int 0)) :
    MetFree l yy_5 (head1 (Jvm.Cond.code yy_5 jdk_52_method_6_code 1 (some .int) :: ws) ({ frames := 0, cells := 0, slots := 0, locals := 0 } : Room)) (fun a U => a = #[(.ref r0)] ∧ Z.Warmed39 U.vm ∧ U.heap = h0) (fun _ _ _ _ _ => True) (fun _ U o U' => ∃ v L, o = .returned v ∧ Q19 Z r0 ka vs h0 n0 v U'.heap L ∧ FrameEnd U o U' L ({ frames := 0, cells := 0, slots := 0, locals := 0 } : Room).cells ({ frames := 0, cells := 0, slots := 0, locals := 0 } : Room).slots) := by
  refine MetFree.of_bodySF (plainFor_of_name pn_19) hisR ?_
  intro p e s m args below meth c s₁ Bd hml0 hP hK
  obtain ⟨rfl, hZ, hh⟩ := hP
  have hx := Bd.exec
  have hby := Bd.bytes
  have hml : c.maxLocals = 1 := hml0
  have hown : s.vm.findClass "java/lang/StringUTF16" = some m.cls := findClass_of_methodNamed Bd.named
  have hnm := (name_of_methodNamed Bd.named Bd.method).1
  have X0 : Stand p l e ({ frames := 0, cells := 0, slots := 0, locals := 0 } : Room) s m #[(.ref r0)] below meth c s₁ [] 0 0 := Stand.of_body Bd
  have e0 : s₁.heap = h0 := by rw [← hh, Bd.state]; rfl
  have N0 := Fr.nil n0
  have pre0 : ∀ t, Steps p.tables e below (s₁.setTop (mkF m 0 #[oa r0] [])) t → Steps p.tables e below (s₁.setTop (entryFrame m #[(.ref r0)] 1)) t := fun t k => castTop (ef_19 m r0) k
  have Vc1 := V
  obtain ⟨cl1, Ar1, qk1, S1, M1, H1, G1⟩ := Vc1
  have c2 : own_G p e below s₁ (mkF m 4 #[oa r0] [(.int ((10 : Int32) >>> ((1 : Int32) &&& 31)))]) (mkF m 0 #[oa r0] []) := by
    intro t kt
    show oS s₁ (mkF m 0 #[oa r0] []) _
    refine XS.aloadN X0.here hx rfl (hb hby d19_0) rfl rfl ?_
    show oS s₁ (mkF m 1 #[oa r0] [(.ref r0)]) _
    refine X0.arraylength hx (by rw [e0]; exact Ar1.1) (State.isArrayOf_alike hZ.alike Ar1.2.1) (g := (mkF m 1 #[oa r0] [(.ref r0)])) rfl rfl (hb hby d19_1) _ ?_
    rw [len_of S1 M1]
    show oS s₁ (mkF m 2 #[oa r0] [(.int (10 : Int32))]) _
    refine XS.iconst X0.here hx rfl (hb hby d19_2) ?_
    show oS s₁ (mkF m 3 #[oa r0] [(.int (1 : Int32)), (.int (10 : Int32))]) _
    refine XS.ishr X0.here hx rfl (hb hby d19_3) rfl ?_
    exact kt
  obtain ⟨fs, hr, hrun, hended, hW, hsame⟩ := X0.leave (v := some (.int ((10 : Int32) >>> ((1 : Int32) &&& 31)))) (fun h => by rw [Bd.returns] at h; cases h)
  refine ⟨_, _, pre0 _ (c2 _ (?_)), hrun, hended, _, _, rfl, ?_, ⟨_, rfl⟩, hW, hsame.mono (by decide) (by decide)⟩
  · show Steps p.tables e below (s₁.setTop (mkF m 4 #[oa r0] [(.int ((10 : Int32) >>> ((1 : Int32) &&& 31)))])) _
    exact retI X0 hx Bd.returns (hb hby d19_4) hr
  · show Q19 Z r0 ka vs h0 n0 _ s₁.heap _
    rw [e0]
    exact ⟨congrArg (fun z => some (Value.int z)) (show ((10 : Int32) >>> ((1 : Int32) &&& 31)) = (5 : Int32) from by decide), N0, rfl⟩
theorem d12_0 : decode jdk_52_method_3_code 0 = .ok (.iload_n 0, 1) := by decide +kernel
theorem d12_1 : decode jdk_52_method_3_code 1 = .ok (.ifCond .ge 11, 3) := by decide +kernel
theorem d12_12 : decode jdk_52_method_3_code 12 = .ok (.iload_n 0, 1) := by decide +kernel
theorem d12_13 : decode jdk_52_method_3_code 13 = .ok (.ldc 20, 2) := by decide +kernel
theorem d12_15 : decode jdk_52_method_3_code 15 = .ok (.if_icmp .lt 40, 3) := by decide +kernel
theorem d12_55 : decode jdk_52_method_3_code 55 = .ok (.iload_n 0, 1) := by decide +kernel
theorem d12_56 : decode jdk_52_method_3_code 56 = .ok (.iconst 1, 1) := by decide +kernel
theorem d12_57 : decode jdk_52_method_3_code 57 = .ok (.ishl, 1) := by decide +kernel
theorem d12_58 : decode jdk_52_method_3_code 58 = .ok (.ireturn, 1) := by decide +kernel
theorem pn_12 : plainName "java/lang/StringUTF16" = true := by first | (simp [plainName, overriddenIn]; done) | decide +kernel
theorem ef_12 (m : MethodId) (x0 : Int32) : entryFrame m #[(.int x0)] 1 = mkF m 0 #[.val (.int x0)] [] := by first | (simp [entryFrame, mkF, argsToLocals, Value.category]; done) | rfl
def Q12 (Z : State)  (h0 : Heap) (n0 : Nat) (v : Option Value) (h : Heap) (L : List Loc) : Prop := v = some (.int (10 : Int32)) ∧ Fr n0 L ∧ h = h0
set_option maxRecDepth 65536 in
set_option maxHeartbeats 40000000 in
theorem rm12 (l : Launch) (Z : State) (a0 : Array Value) (hw : ∀ d ∈ tables_1, d.before a0 Z = true) (ws : List Jvm.Cond)   (h0 : Heap) (n0 : Nat) (Z0 : n0 ≤ h0.size) :
    MetFree l yy_6 (head1 (Jvm.Cond.code yy_6 jdk_52_method_3_code 1 (some .int) :: ws) ({ frames := 0, cells := 0, slots := 0, locals := 0 } : Room)) (fun a U => a = #[(.int (5 : Int32))] ∧ Z.Warmed39 U.vm ∧ U.heap = h0) (fun _ _ _ _ _ => True) (fun _ U o U' => ∃ v L, o = .returned v ∧ Q12 Z  h0 n0 v U'.heap L ∧ FrameEnd U o U' L ({ frames := 0, cells := 0, slots := 0, locals := 0 } : Room).cells ({ frames := 0, cells := 0, slots := 0, locals := 0 } : Room).slots) := by
  refine MetFree.of_bodySF (plainFor_of_name pn_12) hisR ?_
  intro p e s m args below meth c s₁ Bd hml0 hP hK
  obtain ⟨rfl, hZ, hh⟩ := hP
  have hx := Bd.exec
  have hby := Bd.bytes
  have hml : c.maxLocals = 1 := hml0
  have hown : s.vm.findClass "java/lang/StringUTF16" = some m.cls := findClass_of_methodNamed Bd.named
  have hnm := (name_of_methodNamed Bd.named Bd.method).1
  have X0 : Stand p l e ({ frames := 0, cells := 0, slots := 0, locals := 0 } : Room) s m #[(.int (5 : Int32))] below meth c s₁ [] 0 0 := Stand.of_body Bd
  have e0 : s₁.heap = h0 := by rw [← hh, Bd.state]; rfl
  have N0 := Fr.nil n0
  have pre0 : ∀ t, Steps p.tables e below (s₁.setTop (mkF m 0 #[oi 5] [])) t → Steps p.tables e below (s₁.setTop (entryFrame m #[(.int (5 : Int32))] 1)) t := fun t k => castTop (ef_12 m (5 : Int32)) k
  have c1 : own_G p e below s₁ (mkF m 58 #[oi 5] [(.int ((5 : Int32) <<< ((1 : Int32) &&& 31)))]) (mkF m 0 #[oi 5] []) := by
    intro t kt
    show oS s₁ (mkF m 0 #[oi 5] []) _
    refine XS.iloadN X0.here hx rfl (hb hby d12_0) rfl ?_
    show oS s₁ (mkF m 1 #[oi 5] [(.int (5 : Int32))]) _
    refine XS.ifYes X0.here hx rfl (pc0 := 1) (pc' := 12) rfl (hb hby d12_1) rfl ((if0 _ _).trans (flt (by decide : ¬ ((5 : Int32) < (0 : Int32)))).2.1) (by decide) (by decide) ?_
    show oS s₁ (mkF m 12 #[oi 5] []) _
    refine XS.iloadN X0.here hx rfl (hb hby d12_12) rfl ?_
    show oS s₁ (mkF m 13 #[oi 5] [(.int (5 : Int32))]) _
    refine X0.ldcInt hx hown (mvT hZ (own_t hw 59 rfl)) (g := (mkF m 13 #[oi 5] [(.int (5 : Int32))])) rfl (hb hby d12_13) _ ?_
    show oS s₁ (mkF m 15 #[oi 5] [(.int (1073741823 : Int32)), (.int (5 : Int32))]) _
    refine XS.icmpYes X0.here hx rfl (pc0 := 15) (pc' := 55) rfl (hb hby d12_15) rfl (tlt (by decide : (5 : Int32) < (1073741823 : Int32))).1 (by decide) (by decide) ?_
    show oS s₁ (mkF m 55 #[oi 5] []) _
    refine XS.iloadN X0.here hx rfl (hb hby d12_55) rfl ?_
    show oS s₁ (mkF m 56 #[oi 5] [(.int (5 : Int32))]) _
    refine XS.iconst X0.here hx rfl (hb hby d12_56) ?_
    show oS s₁ (mkF m 57 #[oi 5] [(.int (1 : Int32)), (.int (5 : Int32))]) _
    refine XS.ishl X0.here hx rfl (hb hby d12_57) rfl ?_
    exact kt
  obtain ⟨fs, hr, hrun, hended, hW, hsame⟩ := X0.leave (v := some (.int ((5 : Int32) <<< ((1 : Int32) &&& 31)))) (fun h => by rw [Bd.returns] at h; cases h)
  refine ⟨_, _, pre0 _ (c1 _ (?_)), hrun, hended, _, _, rfl, ?_, ⟨_, rfl⟩, hW, hsame.mono (by decide) (by decide)⟩
  · show Steps p.tables e below (s₁.setTop (mkF m 58 #[oi 5] [(.int ((5 : Int32) <<< ((1 : Int32) &&& 31)))])) _
    exact retI X0 hx Bd.returns (hb hby d12_58) hr
  · show Q12 Z  h0 n0 _ s₁.heap _
    rw [e0]
    exact ⟨congrArg (fun z => some (Value.int z)) (show ((5 : Int32) <<< ((1 : Int32) &&& 31)) = (10 : Int32) from by decide), N0, rfl⟩
theorem d11_0 : decode jdk_52_method_2_code 0 = .ok (.iload_n 0, 1) := by decide +kernel
theorem d11_1 : decode jdk_52_method_2_code 1 = .ok (.invokestatic 11, 3) := by decide +kernel
theorem d11_4 : decode jdk_52_method_2_code 4 = .ok (.newarray .byte, 2) := by decide +kernel
theorem d11_6 : decode jdk_52_method_2_code 6 = .ok (.areturn, 1) := by decide +kernel
theorem pn_11 : plainName "java/lang/StringUTF16" = true := by first | (simp [plainName, overriddenIn]; done) | decide +kernel
theorem ef_11 (m : MethodId) (x0 : Int32) : entryFrame m #[(.int x0)] 1 = mkF m 0 #[.val (.int x0)] [] := by first | (simp [entryFrame, mkF, argsToLocals, Value.category]; done) | rfl
def Q11 (Z : State)  (h0 : Heap) (n0 : Nat) (v : Option Value) (h : Heap) (L : List Loc) : Prop := ∃ ra kx, v = some (.ref ra) ∧ Fr n0 L ∧ Keep h0 h [] ∧ h0.size ≤ ra ∧ n0 ≤ ra ∧ Arv Z h ra kx .byte (10 : Int32) [(.int (0 : Int32)), (.int (0 : Int32)), (.int (0 : Int32)), (.int (0 : Int32)), (.int (0 : Int32)), (.int (0 : Int32)), (.int (0 : Int32)), (.int (0 : Int32)), (.int (0 : Int32)), (.int (0 : Int32))] (.int (0 : Int32))
set_option maxRecDepth 65536 in
set_option maxHeartbeats 40000000 in
theorem rm11 (l : Launch) (Z : State) (a0 : Array Value) (hw : ∀ d ∈ tables_1, d.before a0 Z = true) (ws : List Jvm.Cond)   (h0 : Heap) (n0 : Nat) (Z0 : n0 ≤ h0.size) :
    MetFree l yy_7 (head1 (Jvm.Cond.code yy_7 jdk_52_method_2_code 1 (some (.array .byte)) :: ws) ({ frames := 1, cells := 1, slots := 10, locals := 12 } : Room)) (fun a U => a = #[(.int (5 : Int32))] ∧ Z.Warmed39 U.vm ∧ U.heap = h0) (fun _ _ _ _ _ => True) (fun _ U o U' => ∃ v L, o = .returned v ∧ Q11 Z  h0 n0 v U'.heap L ∧ FrameEnd U o U' L ({ frames := 1, cells := 1, slots := 10, locals := 12 } : Room).cells ({ frames := 1, cells := 1, slots := 10, locals := 12 } : Room).slots) := by
  refine MetFree.of_bodySF (plainFor_of_name pn_11) hisR ?_
  intro p e s m args below meth c s₁ Bd hml0 hP hK
  obtain ⟨rfl, hZ, hh⟩ := hP
  have hx := Bd.exec
  have hby := Bd.bytes
  have hml : c.maxLocals = 1 := hml0
  have hown : s.vm.findClass "java/lang/StringUTF16" = some m.cls := findClass_of_methodNamed Bd.named
  have hnm := (name_of_methodNamed Bd.named Bd.method).1
  have X0 : Stand p l e ({ frames := 1, cells := 1, slots := 10, locals := 12 } : Room) s m #[(.int (5 : Int32))] below meth c s₁ [] 0 0 := Stand.of_body Bd
  have e0 : s₁.heap = h0 := by rw [← hh, Bd.state]; rfl
  have N0 := Fr.nil n0
  have pre0 : ∀ t, Steps p.tables e below (s₁.setTop (mkF m 0 #[oi 5] [])) t → Steps p.tables e below (s₁.setTop (entryFrame m #[(.int (5 : Int32))] 1)) t := fun t k => castTop (ef_11 m (5 : Int32)) k
  have c1 : own_G p e below s₁ (mkF m 1 #[oi 5] [(.int (5 : Int32))]) (mkF m 0 #[oi 5] []) := by
    intro t kt
    show oS s₁ (mkF m 0 #[oi 5] []) _
    refine XS.iloadN X0.here hx rfl (hb hby d11_0) rfl ?_
    exact kt
  obtain ⟨_, _, ⟨T2, L2, k2, n2⟩, -, X2, ⟨Lc2, hQ2, l2, y2, z2⟩, st2⟩ := Jvm.LawKit.callS X0 hx (y := yy_6) hown (mvT hZ (own_t hw 56 rfl)) (mvT hZ (own_t hw 57 rfl)) (mvT hZ (own_t hw 25 rfl)) (mvT hZ (own_t hw 58 rfl)) (by decide) (backOf (W := 0) (rm12 l Z a0 hw []   h0 n0 Z0 ) hZ (own_t hw 58 rfl) (own_t hw 25 rfl) (by decide) (by decide)) (g := (mkF m 1 #[oi 5] [(.int (5 : Int32))])) rfl (by rw [hml]; rfl) (argsL := [(.int (5 : Int32))]) (rest := []) (lenOf pd_4 rfl) rfl (by show 2 * 0 + _ ≤ _; exact Nat.le_of_eq rfl) (hb hby d11_1) (fun _ _ => ⟨rfl, e0, (by decide : 0 + 0 ≤ _), (by decide : 0 + 0 ≤ _)⟩)
  dsimp only [Pt.U, Pt.locs, Pt.cells, Pt.slots] at X2 l2 y2 z2 st2 hQ2
  subst l2 y2 z2
  obtain ⟨rfl, N2q, e2⟩ := hQ2
  have N2 := Fr.app N0 N2q
  obtain ⟨T3, h3, k3, X3, e3, E3, A3, st3⟩ := newP X2 hx hZ (own_t hw 27 rfl) e2 (g := (mkF m 4 #[oi 5] [(.int (10 : Int32))])) rfl (hb hby d11_4) rfl (by decide) (cap := 10) (by decide) (by decide) (by decide) (by decide)
  obtain ⟨b3, g3⟩ : ∃ z, z = h0.size := ⟨_, rfl⟩
  rw [← g3] at A3 st3
  have g_b3 : n0 ≤ b3 := Nat.le_trans Z0 (Nat.le_of_eq g3.symm)
  have sz_b3 : h0.size ≤ b3 := Nat.le_trans (Keep.refl h0 []).1 (Nat.le_of_eq g3.symm)
  have V3 : Arv Z h3 b3 k3 .byte (10 : Int32) [(.int (0 : Int32)), (.int (0 : Int32)), (.int (0 : Int32)), (.int (0 : Int32)), (.int (0 : Int32)), (.int (0 : Int32)), (.int (0 : Int32)), (.int (0 : Int32)), (.int (0 : Int32)), (.int (0 : Int32))] (.int (0 : Int32)) := (Arv.new A3 (by decide)).pad (pad_rep [] (.int (0 : Int32)) 10)
  obtain ⟨fs, hr, hrun, hended, hW, hsame⟩ := X3.leave (v := some (.ref b3)) (fun h => by rw [Bd.returns] at h; cases h)
  have f5 := ((Keep.refl h0 []).ext E3)
  refine ⟨_, _, pre0 _ (c1 _ (st2 _ (st3 _ (?_)))), hrun, hended, _, _, rfl, ?_, ⟨_, rfl⟩, hW, hsame.mono (by decide) (by decide)⟩
  · show Steps p.tables e below (T3.setTop (mkF m 6 #[oi 5] [(.ref b3)])) _
    jvm_step X3.here [X3.here.top, hx, (hb hby d11_6), X3.method', Bd.returns, Value.isRef, FieldType.isReference]
    first | (intro acts; rw [hr _ acts rfl rfl rfl]) | rw [hr _ _ rfl rfl rfl]
    exact Steps.refl _
  · show Q11 Z  h0 n0 _ T3.heap _
    rw [e3]
    exact ⟨b3, k3, rfl, N2, f5, sz_b3, g_b3, V3⟩
theorem d13_0 : decode jdk_52_method_4_code 0 = .ok (.getstatic 44, 3) := by decide +kernel
theorem d13_3 : decode jdk_52_method_4_code 3 = .ok (.ifCond .ne 25, 3) := by decide +kernel
theorem d13_28 : decode jdk_52_method_4_code 28 = .ok (.iload_n 1, 1) := by decide +kernel
theorem d13_29 : decode jdk_52_method_4_code 29 = .ok (.iconst 1, 1) := by decide +kernel
theorem d13_30 : decode jdk_52_method_4_code 30 = .ok (.ishl, 1) := by decide +kernel
theorem d13_31 : decode jdk_52_method_4_code 31 = .ok (.istore_n 1, 1) := by decide +kernel
theorem d13_32 : decode jdk_52_method_4_code 32 = .ok (.aload_n 0, 1) := by decide +kernel
theorem d13_33 : decode jdk_52_method_4_code 33 = .ok (.iload_n 1, 1) := by decide +kernel
theorem d13_34 : decode jdk_52_method_4_code 34 = .ok (.iinc 1 1, 3) := by decide +kernel
theorem d13_37 : decode jdk_52_method_4_code 37 = .ok (.iload_n 2, 1) := by decide +kernel
theorem d13_38 : decode jdk_52_method_4_code 38 = .ok (.getstatic 59, 3) := by decide +kernel
theorem d13_41 : decode jdk_52_method_4_code 41 = .ok (.ishr, 1) := by decide +kernel
theorem d13_42 : decode jdk_52_method_4_code 42 = .ok (.i2b, 1) := by decide +kernel
theorem d13_43 : decode jdk_52_method_4_code 43 = .ok (.bastore, 1) := by decide +kernel
theorem d13_44 : decode jdk_52_method_4_code 44 = .ok (.aload_n 0, 1) := by decide +kernel
theorem d13_45 : decode jdk_52_method_4_code 45 = .ok (.iload_n 1, 1) := by decide +kernel
theorem d13_46 : decode jdk_52_method_4_code 46 = .ok (.iload_n 2, 1) := by decide +kernel
theorem d13_47 : decode jdk_52_method_4_code 47 = .ok (.getstatic 63, 3) := by decide +kernel
theorem d13_50 : decode jdk_52_method_4_code 50 = .ok (.ishr, 1) := by decide +kernel
theorem d13_51 : decode jdk_52_method_4_code 51 = .ok (.i2b, 1) := by decide +kernel
theorem d13_52 : decode jdk_52_method_4_code 52 = .ok (.bastore, 1) := by decide +kernel
theorem d13_53 : decode jdk_52_method_4_code 53 = .ok (.return_, 1) := by decide +kernel
theorem pn_13 : plainName "java/lang/StringUTF16" = true := by first | (simp [plainName, overriddenIn]; done) | decide +kernel
theorem ef_13_0 (m : MethodId) (x0 : Addr) (x1 : Int32) (x2 : Int32) : entryFrame m #[(.ref x0), (.int x1), (.int x2)] 3 = mkF m 0 #[.val (.ref x0), .val (.int x1), .val (.int x2)] [] := by first | (simp [entryFrame, mkF, argsToLocals, Value.category]; done) | rfl
def Q13_0 (Z : State) (r0 : Addr) (p2 : Int32) (ka : ClassId) (xva xvb xvc xvd xve xvf xvg xvh xvi xvj : Value) (h0 : Heap) (n0 : Nat) (v : Option Value) (h : Heap) (L : List Loc) : Prop := v = none ∧ Fr n0 L ∧ Keep h0 h [r0] ∧ Arv Z h r0 ka .byte (10 : Int32) [(.int (own_lo p2)), (.int (own_hi p2)), xvc, xvd, xve, xvf, xvg, xvh, xvi, xvj] (.int (0 : Int32))
set_option maxRecDepth 65536 in
set_option maxHeartbeats 40000000 in
theorem rm13_0 (l : Launch) (Z : State) (a0 : Array Value) (hw : ∀ d ∈ tables_1, d.before a0 Z = true) (ws : List Jvm.Cond) (r0 : Addr) (p2 : Int32) (ka : ClassId) (xva xvb xvc xvd xve xvf xvg xvh xvi xvj : Value) (h0 : Heap) (n0 : Nat) (Z0 : n0 ≤ h0.size) (V : Arv Z h0 r0 ka .byte (10 : Int32) [xva, xvb, xvc, xvd, xve, xvf, xvg, xvh, xvi, xvj] (.int (0 : Int32))) (g_r0 : n0 ≤ r0) (SA : Sta Z h0 "java/lang/StringUTF16" "$assertionsDisabled" "Z" (.int (1 : Int32))) (SH : Sta Z h0 "java/lang/StringUTF16" "HI_BYTE_SHIFT" "I" (.int (0 : Int32))) (SL : Sta Z h0 "java/lang/StringUTF16" "LO_BYTE_SHIFT" "I" (.int (8 : Int32))) :
    MetFree l yy_8 (head1 (Jvm.Cond.code yy_8 jdk_52_method_4_code 3 none :: ws) ({ frames := 0, cells := 0, slots := 0, locals := 0 } : Room)) (fun a U => a = #[(.ref r0), (.int (0 : Int32)), (.int p2)] ∧ Z.Warmed39 U.vm ∧ U.heap = h0) (fun _ _ _ _ _ => True) (fun _ U o U' => ∃ v L, o = .returned v ∧ Q13_0 Z r0 p2 ka xva xvb xvc xvd xve xvf xvg xvh xvi xvj h0 n0 v U'.heap L ∧ FrameEnd U o U' L ({ frames := 0, cells := 0, slots := 0, locals := 0 } : Room).cells ({ frames := 0, cells := 0, slots := 0, locals := 0 } : Room).slots) := by
  refine MetFree.of_bodySF (plainFor_of_name pn_13) hisR ?_
  intro p e s m args below meth c s₁ Bd hml0 hP hK
  obtain ⟨rfl, hZ, hh⟩ := hP
  have hx := Bd.exec
  have hby := Bd.bytes
  have hml : c.maxLocals = 3 := hml0
  have hown : s.vm.findClass "java/lang/StringUTF16" = some m.cls := findClass_of_methodNamed Bd.named
  have hnm := (name_of_methodNamed Bd.named Bd.method).1
  have X0 : Stand p l e ({ frames := 0, cells := 0, slots := 0, locals := 0 } : Room) s m #[(.ref r0), (.int (0 : Int32)), (.int p2)] below meth c s₁ [] 0 0 := Stand.of_body Bd
  have e0 : s₁.heap = h0 := by rw [← hh, Bd.state]; rfl
  have N0 := Fr.nil n0
  have pre0 : ∀ t, Steps p.tables e below (s₁.setTop (mkF m 0 #[oa r0, oi 0, oi p2] [])) t → Steps p.tables e below (s₁.setTop (entryFrame m #[(.ref r0), (.int (0 : Int32)), (.int p2)] 3)) t := fun t k => castTop (ef_13_0 m r0 (0 : Int32) p2) k
  obtain ⟨T1, X1, e1, st1⟩ := getS2 X0 hx hZ hown (host := "") (Or.inl (own_t hw 63 rfl)) Via.refl e0 SA (g := (mkF m 0 #[oa r0, oi 0, oi p2] [])) rfl (hb hby d13_0)
  have c3 : own_G p e below T1 (mkF m 38 #[oa r0, oi (((0 : Int32) <<< ((1 : Int32) &&& 31)) + (1 : Int32)), oi p2] [(.int p2), (.int ((0 : Int32) <<< ((1 : Int32) &&& 31))), (.ref r0)]) (mkF m 3 #[oa r0, oi 0, oi p2] [(.int (1 : Int32))]) := by
    intro t kt
    show oS T1 (mkF m 3 #[oa r0, oi 0, oi p2] [(.int (1 : Int32))]) _
    refine XS.ifYes X1.here hx rfl (pc0 := 3) (pc' := 28) rfl (hb hby d13_3) rfl ((if0 _ _).trans (feq (by decide : ¬ ((1 : Int32) = (0 : Int32)))).2) (by decide) (by decide) ?_
    show oS T1 (mkF m 28 #[oa r0, oi 0, oi p2] []) _
    refine XS.iloadN X1.here hx rfl (hb hby d13_28) rfl ?_
    show oS T1 (mkF m 29 #[oa r0, oi 0, oi p2] [(.int (0 : Int32))]) _
    refine XS.iconst X1.here hx rfl (hb hby d13_29) ?_
    show oS T1 (mkF m 30 #[oa r0, oi 0, oi p2] [(.int (1 : Int32)), (.int (0 : Int32))]) _
    refine XS.ishl X1.here hx rfl (hb hby d13_30) rfl ?_
    show oS T1 (mkF m 31 #[oa r0, oi 0, oi p2] [(.int ((0 : Int32) <<< ((1 : Int32) &&& 31)))]) _
    refine XS.istoreN X1.here hx rfl (hb hby d13_31) rfl (l' := #[oa r0, oi ((0 : Int32) <<< ((1 : Int32) &&& 31)), oi p2]) rfl ?_
    show oS T1 (mkF m 32 #[oa r0, oi ((0 : Int32) <<< ((1 : Int32) &&& 31)), oi p2] []) _
    refine XS.aloadN X1.here hx rfl (hb hby d13_32) rfl rfl ?_
    show oS T1 (mkF m 33 #[oa r0, oi ((0 : Int32) <<< ((1 : Int32) &&& 31)), oi p2] [(.ref r0)]) _
    refine XS.iloadN X1.here hx rfl (hb hby d13_33) rfl ?_
    show oS T1 (mkF m 34 #[oa r0, oi ((0 : Int32) <<< ((1 : Int32) &&& 31)), oi p2] [(.int ((0 : Int32) <<< ((1 : Int32) &&& 31))), (.ref r0)]) _
    refine XS.iinc X1.here hx rfl (hb hby d13_34) rfl (l' := #[oa r0, oi (((0 : Int32) <<< ((1 : Int32) &&& 31)) + (1 : Int32)), oi p2]) rfl ?_
    show oS T1 (mkF m 37 #[oa r0, oi (((0 : Int32) <<< ((1 : Int32) &&& 31)) + (1 : Int32)), oi p2] [(.int ((0 : Int32) <<< ((1 : Int32) &&& 31))), (.ref r0)]) _
    refine XS.iloadN X1.here hx rfl (hb hby d13_37) rfl ?_
    exact kt
  obtain ⟨T2, X2, e2, st2⟩ := getS2 X1 hx hZ hown (host := "") (Or.inl (own_t hw 64 rfl)) Via.refl e1 SH (g := (mkF m 38 #[oa r0, oi (((0 : Int32) <<< ((1 : Int32) &&& 31)) + (1 : Int32)), oi p2] [(.int p2), (.int ((0 : Int32) <<< ((1 : Int32) &&& 31))), (.ref r0)])) rfl (hb hby d13_38)
  have c4 : own_G p e below T2 (mkF m 43 #[oa r0, oi (((0 : Int32) <<< ((1 : Int32) &&& 31)) + (1 : Int32)), oi p2] [(.int ((p2 >>> ((0 : Int32) &&& 31)).toInt8.toInt32)), (.int ((0 : Int32) <<< ((1 : Int32) &&& 31))), (.ref r0)]) (mkF m 41 #[oa r0, oi (((0 : Int32) <<< ((1 : Int32) &&& 31)) + (1 : Int32)), oi p2] [(.int (0 : Int32)), (.int p2), (.int ((0 : Int32) <<< ((1 : Int32) &&& 31))), (.ref r0)]) := by
    intro t kt
    show oS T2 (mkF m 41 #[oa r0, oi (((0 : Int32) <<< ((1 : Int32) &&& 31)) + (1 : Int32)), oi p2] [(.int (0 : Int32)), (.int p2), (.int ((0 : Int32) <<< ((1 : Int32) &&& 31))), (.ref r0)]) _
    refine XS.ishr X2.here hx rfl (hb hby d13_41) rfl ?_
    show oS T2 (mkF m 42 #[oa r0, oi (((0 : Int32) <<< ((1 : Int32) &&& 31)) + (1 : Int32)), oi p2] [(.int (p2 >>> ((0 : Int32) &&& 31))), (.int ((0 : Int32) <<< ((1 : Int32) &&& 31))), (.ref r0)]) _
    refine XS.i2b X2.here hx rfl (hb hby d13_42) rfl ?_
    exact kt
  have c5 : own_G p e below T2 (mkF m 43 #[oa r0, oi 1, oi p2] [(.int ((p2 >>> ((0 : Int32) &&& 31)).toInt8.toInt32)), (.int ((0 : Int32) <<< ((1 : Int32) &&& 31))), (.ref r0)]) (mkF m 43 #[oa r0, oi (((0 : Int32) <<< ((1 : Int32) &&& 31)) + (1 : Int32)), oi p2] [(.int ((p2 >>> ((0 : Int32) &&& 31)).toInt8.toInt32)), (.int ((0 : Int32) <<< ((1 : Int32) &&& 31))), (.ref r0)]) := fun t kt => castTop (congrArg (fun zv => (mkF m 43 #[oa r0, oi zv, oi p2] [(.int ((p2 >>> ((0 : Int32) &&& 31)).toInt8.toInt32)), (.int ((0 : Int32) <<< ((1 : Int32) &&& 31))), (.ref r0)])) (show (((0 : Int32) <<< ((1 : Int32) &&& 31)) + (1 : Int32)) = (1 : Int32) from by decide)) kt
  have c6 : own_G p e below T2 (mkF m 43 #[oa r0, oi 1, oi p2] [(.int ((p2 >>> ((0 : Int32) &&& 31)).toInt8.toInt32)), (.int (0 : Int32)), (.ref r0)]) (mkF m 43 #[oa r0, oi 1, oi p2] [(.int ((p2 >>> ((0 : Int32) &&& 31)).toInt8.toInt32)), (.int ((0 : Int32) <<< ((1 : Int32) &&& 31))), (.ref r0)]) := fun t kt => castTop (congrArg (fun zv => (mkF m 43 #[oa r0, oi 1, oi p2] [(.int ((p2 >>> ((0 : Int32) &&& 31)).toInt8.toInt32)), (.int zv), (.ref r0)])) (show ((0 : Int32) <<< ((1 : Int32) &&& 31)) = (0 : Int32) from by decide)) kt
  have Vc7 := V
  obtain ⟨cl7, Ar7, qk7, S7, M7, H7, G7⟩ := Vc7
  have hin7 : ¬ ((0 : Int32) < 0 ∨ cl7.slots.size ≤ ((0 : Int32)).toNatClampNeg) := inb_of S7 ⟨by decide, by decide⟩
  obtain ⟨T8, h8, X8, e8, W8, st8⟩ := stB X2 hx hZ e2 Ar7 (j := (0 : Int32)) hin7 (g := (mkF m 43 #[oa r0, oi 1, oi p2] [(.int ((p2 >>> ((0 : Int32) &&& 31)).toInt8.toInt32)), (.int (0 : Int32)), (.ref r0)])) rfl rfl (hb hby d13_43)
  have V8 : Arv Z h8 r0 ka .byte (10 : Int32) [(.int (((p2 >>> ((0 : Int32) &&& 31)).toInt8.toInt32).toInt8.toInt32)), xvb, xvc, xvd, xve, xvf, xvg, xvh, xvi, xvj] (.int (0 : Int32)) := Arv.set Ar7 qk7 S7 M7 H7 G7 (fits_nar_byte _) W8 0 rfl (Nat.le_of_ble_eq_true rfl)
  have N8 := Fr.snoc X8 N0 g_r0
  have f9 := (SL.wr W8)
  have c11 : own_G p e below T8 (mkF m 47 #[oa r0, oi 1, oi p2] [(.int p2), (.int (1 : Int32)), (.ref r0)]) (mkF m 44 #[oa r0, oi 1, oi p2] []) := by
    intro t kt
    show oS T8 (mkF m 44 #[oa r0, oi 1, oi p2] []) _
    refine XS.aloadN X8.here hx rfl (hb hby d13_44) rfl rfl ?_
    show oS T8 (mkF m 45 #[oa r0, oi 1, oi p2] [(.ref r0)]) _
    refine XS.iloadN X8.here hx rfl (hb hby d13_45) rfl ?_
    show oS T8 (mkF m 46 #[oa r0, oi 1, oi p2] [(.int (1 : Int32)), (.ref r0)]) _
    refine XS.iloadN X8.here hx rfl (hb hby d13_46) rfl ?_
    exact kt
  obtain ⟨T10, X10, e10, st10⟩ := getS2 X8 hx hZ hown (host := "") (Or.inl (own_t hw 65 rfl)) Via.refl e8 f9 (g := (mkF m 47 #[oa r0, oi 1, oi p2] [(.int p2), (.int (1 : Int32)), (.ref r0)])) rfl (hb hby d13_47)
  have c12 : own_G p e below T10 (mkF m 52 #[oa r0, oi 1, oi p2] [(.int ((p2 >>> ((8 : Int32) &&& 31)).toInt8.toInt32)), (.int (1 : Int32)), (.ref r0)]) (mkF m 50 #[oa r0, oi 1, oi p2] [(.int (8 : Int32)), (.int p2), (.int (1 : Int32)), (.ref r0)]) := by
    intro t kt
    show oS T10 (mkF m 50 #[oa r0, oi 1, oi p2] [(.int (8 : Int32)), (.int p2), (.int (1 : Int32)), (.ref r0)]) _
    refine XS.ishr X10.here hx rfl (hb hby d13_50) rfl ?_
    show oS T10 (mkF m 51 #[oa r0, oi 1, oi p2] [(.int (p2 >>> ((8 : Int32) &&& 31))), (.int (1 : Int32)), (.ref r0)]) _
    refine XS.i2b X10.here hx rfl (hb hby d13_51) rfl ?_
    exact kt
  have Vc13 := V8
  obtain ⟨cl13, Ar13, qk13, S13, M13, H13, G13⟩ := Vc13
  have hin13 : ¬ ((1 : Int32) < 0 ∨ cl13.slots.size ≤ ((1 : Int32)).toNatClampNeg) := inb_of S13 ⟨by decide, by decide⟩
  obtain ⟨T14, h14, X14, e14, W14, st14⟩ := stB X10 hx hZ e10 Ar13 (j := (1 : Int32)) hin13 (g := (mkF m 52 #[oa r0, oi 1, oi p2] [(.int ((p2 >>> ((8 : Int32) &&& 31)).toInt8.toInt32)), (.int (1 : Int32)), (.ref r0)])) rfl rfl (hb hby d13_52)
  have V14 : Arv Z h14 r0 ka .byte (10 : Int32) [(.int (((p2 >>> ((0 : Int32) &&& 31)).toInt8.toInt32).toInt8.toInt32)), (.int (((p2 >>> ((8 : Int32) &&& 31)).toInt8.toInt32).toInt8.toInt32)), xvc, xvd, xve, xvf, xvg, xvh, xvi, xvj] (.int (0 : Int32)) := Arv.set Ar13 qk13 S13 M13 H13 G13 (fits_nar_byte _) W14 1 rfl (Nat.le_of_ble_eq_true rfl)
  have N14 := Fr.snoc X14 N8 g_r0
  obtain ⟨fs, hr, hrun, hended, hW, hsame⟩ := X14.leave (v := none) (fun _ => rfl)
  have f16 := (((Keep.refl h0 [r0]).wr W8 (Or.inl (List.mem_of_getElem? (i := 0) rfl))).wr W14 (Or.inl (List.mem_of_getElem? (i := 0) rfl)))
  refine ⟨_, _, pre0 _ (st1 _ (c3 _ (st2 _ (c4 _ (c5 _ (c6 _ (st8 _ (c11 _ (st10 _ (c12 _ (st14 _ (?_)))))))))))), hrun, hended, _, _, rfl, ?_, ⟨_, rfl⟩, hW, hsame.mono (by decide) (by decide)⟩
  · show Steps p.tables e below (T14.setTop (mkF m 53 #[oa r0, oi 1, oi p2] [])) _
    exact X14.returnOut hx Bd.returns (hb hby d13_53) hr
  · show Q13_0 Z r0 p2 ka xva xvb xvc xvd xve xvf xvg xvh xvi xvj h0 n0 _ T14.heap _
    rw [e14]
    exact ⟨rfl, N14, f16, V14⟩
theorem ef_13_1 (m : MethodId) (x0 : Addr) (x1 : Int32) (x2 : Int32) : entryFrame m #[(.ref x0), (.int x1), (.int x2)] 3 = mkF m 0 #[.val (.ref x0), .val (.int x1), .val (.int x2)] [] := by first | (simp [entryFrame, mkF, argsToLocals, Value.category]; done) | rfl
def Q13_1 (Z : State) (r0 : Addr) (p2 : Int32) (ka : ClassId) (xva xvb xvc xvd xve xvf xvg xvh xvi xvj : Value) (h0 : Heap) (n0 : Nat) (v : Option Value) (h : Heap) (L : List Loc) : Prop := v = none ∧ Fr n0 L ∧ Keep h0 h [r0] ∧ Arv Z h r0 ka .byte (10 : Int32) [xva, xvb, (.int (own_lo p2)), (.int (own_hi p2)), xve, xvf, xvg, xvh, xvi, xvj] (.int (0 : Int32))
set_option maxRecDepth 65536 in
set_option maxHeartbeats 40000000 in
theorem rm13_1 (l : Launch) (Z : State) (a0 : Array Value) (hw : ∀ d ∈ tables_1, d.before a0 Z = true) (ws : List Jvm.Cond) (r0 : Addr) (p2 : Int32) (ka : ClassId) (xva xvb xvc xvd xve xvf xvg xvh xvi xvj : Value) (h0 : Heap) (n0 : Nat) (Z0 : n0 ≤ h0.size) (V : Arv Z h0 r0 ka .byte (10 : Int32) [xva, xvb, xvc, xvd, xve, xvf, xvg, xvh, xvi, xvj] (.int (0 : Int32))) (g_r0 : n0 ≤ r0) (SA : Sta Z h0 "java/lang/StringUTF16" "$assertionsDisabled" "Z" (.int (1 : Int32))) (SH : Sta Z h0 "java/lang/StringUTF16" "HI_BYTE_SHIFT" "I" (.int (0 : Int32))) (SL : Sta Z h0 "java/lang/StringUTF16" "LO_BYTE_SHIFT" "I" (.int (8 : Int32))) :
    MetFree l yy_8 (head1 (Jvm.Cond.code yy_8 jdk_52_method_4_code 3 none :: ws) ({ frames := 0, cells := 0, slots := 0, locals := 0 } : Room)) (fun a U => a = #[(.ref r0), (.int (1 : Int32)), (.int p2)] ∧ Z.Warmed39 U.vm ∧ U.heap = h0) (fun _ _ _ _ _ => True) (fun _ U o U' => ∃ v L, o = .returned v ∧ Q13_1 Z r0 p2 ka xva xvb xvc xvd xve xvf xvg xvh xvi xvj h0 n0 v U'.heap L ∧ FrameEnd U o U' L ({ frames := 0, cells := 0, slots := 0, locals := 0 } : Room).cells ({ frames := 0, cells := 0, slots := 0, locals := 0 } : Room).slots) := by
  refine MetFree.of_bodySF (plainFor_of_name pn_13) hisR ?_
  intro p e s m args below meth c s₁ Bd hml0 hP hK
  obtain ⟨rfl, hZ, hh⟩ := hP
  have hx := Bd.exec
  have hby := Bd.bytes
  have hml : c.maxLocals = 3 := hml0
  have hown : s.vm.findClass "java/lang/StringUTF16" = some m.cls := findClass_of_methodNamed Bd.named
  have hnm := (name_of_methodNamed Bd.named Bd.method).1
  have X0 : Stand p l e ({ frames := 0, cells := 0, slots := 0, locals := 0 } : Room) s m #[(.ref r0), (.int (1 : Int32)), (.int p2)] below meth c s₁ [] 0 0 := Stand.of_body Bd
  have e0 : s₁.heap = h0 := by rw [← hh, Bd.state]; rfl
  have N0 := Fr.nil n0
  have pre0 : ∀ t, Steps p.tables e below (s₁.setTop (mkF m 0 #[oa r0, oi 1, oi p2] [])) t → Steps p.tables e below (s₁.setTop (entryFrame m #[(.ref r0), (.int (1 : Int32)), (.int p2)] 3)) t := fun t k => castTop (ef_13_1 m r0 (1 : Int32) p2) k
  obtain ⟨T1, X1, e1, st1⟩ := getS2 X0 hx hZ hown (host := "") (Or.inl (own_t hw 63 rfl)) Via.refl e0 SA (g := (mkF m 0 #[oa r0, oi 1, oi p2] [])) rfl (hb hby d13_0)
  have c3 : own_G p e below T1 (mkF m 38 #[oa r0, oi (((1 : Int32) <<< ((1 : Int32) &&& 31)) + (1 : Int32)), oi p2] [(.int p2), (.int ((1 : Int32) <<< ((1 : Int32) &&& 31))), (.ref r0)]) (mkF m 3 #[oa r0, oi 1, oi p2] [(.int (1 : Int32))]) := by
    intro t kt
    show oS T1 (mkF m 3 #[oa r0, oi 1, oi p2] [(.int (1 : Int32))]) _
    refine XS.ifYes X1.here hx rfl (pc0 := 3) (pc' := 28) rfl (hb hby d13_3) rfl ((if0 _ _).trans (feq (by decide : ¬ ((1 : Int32) = (0 : Int32)))).2) (by decide) (by decide) ?_
    show oS T1 (mkF m 28 #[oa r0, oi 1, oi p2] []) _
    refine XS.iloadN X1.here hx rfl (hb hby d13_28) rfl ?_
    show oS T1 (mkF m 29 #[oa r0, oi 1, oi p2] [(.int (1 : Int32))]) _
    refine XS.iconst X1.here hx rfl (hb hby d13_29) ?_
    show oS T1 (mkF m 30 #[oa r0, oi 1, oi p2] [(.int (1 : Int32)), (.int (1 : Int32))]) _
    refine XS.ishl X1.here hx rfl (hb hby d13_30) rfl ?_
    show oS T1 (mkF m 31 #[oa r0, oi 1, oi p2] [(.int ((1 : Int32) <<< ((1 : Int32) &&& 31)))]) _
    refine XS.istoreN X1.here hx rfl (hb hby d13_31) rfl (l' := #[oa r0, oi ((1 : Int32) <<< ((1 : Int32) &&& 31)), oi p2]) rfl ?_
    show oS T1 (mkF m 32 #[oa r0, oi ((1 : Int32) <<< ((1 : Int32) &&& 31)), oi p2] []) _
    refine XS.aloadN X1.here hx rfl (hb hby d13_32) rfl rfl ?_
    show oS T1 (mkF m 33 #[oa r0, oi ((1 : Int32) <<< ((1 : Int32) &&& 31)), oi p2] [(.ref r0)]) _
    refine XS.iloadN X1.here hx rfl (hb hby d13_33) rfl ?_
    show oS T1 (mkF m 34 #[oa r0, oi ((1 : Int32) <<< ((1 : Int32) &&& 31)), oi p2] [(.int ((1 : Int32) <<< ((1 : Int32) &&& 31))), (.ref r0)]) _
    refine XS.iinc X1.here hx rfl (hb hby d13_34) rfl (l' := #[oa r0, oi (((1 : Int32) <<< ((1 : Int32) &&& 31)) + (1 : Int32)), oi p2]) rfl ?_
    show oS T1 (mkF m 37 #[oa r0, oi (((1 : Int32) <<< ((1 : Int32) &&& 31)) + (1 : Int32)), oi p2] [(.int ((1 : Int32) <<< ((1 : Int32) &&& 31))), (.ref r0)]) _
    refine XS.iloadN X1.here hx rfl (hb hby d13_37) rfl ?_
    exact kt
  obtain ⟨T2, X2, e2, st2⟩ := getS2 X1 hx hZ hown (host := "") (Or.inl (own_t hw 64 rfl)) Via.refl e1 SH (g := (mkF m 38 #[oa r0, oi (((1 : Int32) <<< ((1 : Int32) &&& 31)) + (1 : Int32)), oi p2] [(.int p2), (.int ((1 : Int32) <<< ((1 : Int32) &&& 31))), (.ref r0)])) rfl (hb hby d13_38)
  have c4 : own_G p e below T2 (mkF m 43 #[oa r0, oi (((1 : Int32) <<< ((1 : Int32) &&& 31)) + (1 : Int32)), oi p2] [(.int ((p2 >>> ((0 : Int32) &&& 31)).toInt8.toInt32)), (.int ((1 : Int32) <<< ((1 : Int32) &&& 31))), (.ref r0)]) (mkF m 41 #[oa r0, oi (((1 : Int32) <<< ((1 : Int32) &&& 31)) + (1 : Int32)), oi p2] [(.int (0 : Int32)), (.int p2), (.int ((1 : Int32) <<< ((1 : Int32) &&& 31))), (.ref r0)]) := by
    intro t kt
    show oS T2 (mkF m 41 #[oa r0, oi (((1 : Int32) <<< ((1 : Int32) &&& 31)) + (1 : Int32)), oi p2] [(.int (0 : Int32)), (.int p2), (.int ((1 : Int32) <<< ((1 : Int32) &&& 31))), (.ref r0)]) _
    refine XS.ishr X2.here hx rfl (hb hby d13_41) rfl ?_
    show oS T2 (mkF m 42 #[oa r0, oi (((1 : Int32) <<< ((1 : Int32) &&& 31)) + (1 : Int32)), oi p2] [(.int (p2 >>> ((0 : Int32) &&& 31))), (.int ((1 : Int32) <<< ((1 : Int32) &&& 31))), (.ref r0)]) _
    refine XS.i2b X2.here hx rfl (hb hby d13_42) rfl ?_
    exact kt
  have c5 : own_G p e below T2 (mkF m 43 #[oa r0, oi 3, oi p2] [(.int ((p2 >>> ((0 : Int32) &&& 31)).toInt8.toInt32)), (.int ((1 : Int32) <<< ((1 : Int32) &&& 31))), (.ref r0)]) (mkF m 43 #[oa r0, oi (((1 : Int32) <<< ((1 : Int32) &&& 31)) + (1 : Int32)), oi p2] [(.int ((p2 >>> ((0 : Int32) &&& 31)).toInt8.toInt32)), (.int ((1 : Int32) <<< ((1 : Int32) &&& 31))), (.ref r0)]) := fun t kt => castTop (congrArg (fun zv => (mkF m 43 #[oa r0, oi zv, oi p2] [(.int ((p2 >>> ((0 : Int32) &&& 31)).toInt8.toInt32)), (.int ((1 : Int32) <<< ((1 : Int32) &&& 31))), (.ref r0)])) (show (((1 : Int32) <<< ((1 : Int32) &&& 31)) + (1 : Int32)) = (3 : Int32) from by decide)) kt
  have c6 : own_G p e below T2 (mkF m 43 #[oa r0, oi 3, oi p2] [(.int ((p2 >>> ((0 : Int32) &&& 31)).toInt8.toInt32)), (.int (2 : Int32)), (.ref r0)]) (mkF m 43 #[oa r0, oi 3, oi p2] [(.int ((p2 >>> ((0 : Int32) &&& 31)).toInt8.toInt32)), (.int ((1 : Int32) <<< ((1 : Int32) &&& 31))), (.ref r0)]) := fun t kt => castTop (congrArg (fun zv => (mkF m 43 #[oa r0, oi 3, oi p2] [(.int ((p2 >>> ((0 : Int32) &&& 31)).toInt8.toInt32)), (.int zv), (.ref r0)])) (show ((1 : Int32) <<< ((1 : Int32) &&& 31)) = (2 : Int32) from by decide)) kt
  have Vc7 := V
  obtain ⟨cl7, Ar7, qk7, S7, M7, H7, G7⟩ := Vc7
  have hin7 : ¬ ((2 : Int32) < 0 ∨ cl7.slots.size ≤ ((2 : Int32)).toNatClampNeg) := inb_of S7 ⟨by decide, by decide⟩
  obtain ⟨T8, h8, X8, e8, W8, st8⟩ := stB X2 hx hZ e2 Ar7 (j := (2 : Int32)) hin7 (g := (mkF m 43 #[oa r0, oi 3, oi p2] [(.int ((p2 >>> ((0 : Int32) &&& 31)).toInt8.toInt32)), (.int (2 : Int32)), (.ref r0)])) rfl rfl (hb hby d13_43)
  have V8 : Arv Z h8 r0 ka .byte (10 : Int32) [xva, xvb, (.int (((p2 >>> ((0 : Int32) &&& 31)).toInt8.toInt32).toInt8.toInt32)), xvd, xve, xvf, xvg, xvh, xvi, xvj] (.int (0 : Int32)) := Arv.set Ar7 qk7 S7 M7 H7 G7 (fits_nar_byte _) W8 2 rfl (Nat.le_of_ble_eq_true rfl)
  have N8 := Fr.snoc X8 N0 g_r0
  have f9 := (SL.wr W8)
  have c11 : own_G p e below T8 (mkF m 47 #[oa r0, oi 3, oi p2] [(.int p2), (.int (3 : Int32)), (.ref r0)]) (mkF m 44 #[oa r0, oi 3, oi p2] []) := by
    intro t kt
    show oS T8 (mkF m 44 #[oa r0, oi 3, oi p2] []) _
    refine XS.aloadN X8.here hx rfl (hb hby d13_44) rfl rfl ?_
    show oS T8 (mkF m 45 #[oa r0, oi 3, oi p2] [(.ref r0)]) _
    refine XS.iloadN X8.here hx rfl (hb hby d13_45) rfl ?_
    show oS T8 (mkF m 46 #[oa r0, oi 3, oi p2] [(.int (3 : Int32)), (.ref r0)]) _
    refine XS.iloadN X8.here hx rfl (hb hby d13_46) rfl ?_
    exact kt
  obtain ⟨T10, X10, e10, st10⟩ := getS2 X8 hx hZ hown (host := "") (Or.inl (own_t hw 65 rfl)) Via.refl e8 f9 (g := (mkF m 47 #[oa r0, oi 3, oi p2] [(.int p2), (.int (3 : Int32)), (.ref r0)])) rfl (hb hby d13_47)
  have c12 : own_G p e below T10 (mkF m 52 #[oa r0, oi 3, oi p2] [(.int ((p2 >>> ((8 : Int32) &&& 31)).toInt8.toInt32)), (.int (3 : Int32)), (.ref r0)]) (mkF m 50 #[oa r0, oi 3, oi p2] [(.int (8 : Int32)), (.int p2), (.int (3 : Int32)), (.ref r0)]) := by
    intro t kt
    show oS T10 (mkF m 50 #[oa r0, oi 3, oi p2] [(.int (8 : Int32)), (.int p2), (.int (3 : Int32)), (.ref r0)]) _
    refine XS.ishr X10.here hx rfl (hb hby d13_50) rfl ?_
    show oS T10 (mkF m 51 #[oa r0, oi 3, oi p2] [(.int (p2 >>> ((8 : Int32) &&& 31))), (.int (3 : Int32)), (.ref r0)]) _
    refine XS.i2b X10.here hx rfl (hb hby d13_51) rfl ?_
    exact kt
  have Vc13 := V8
  obtain ⟨cl13, Ar13, qk13, S13, M13, H13, G13⟩ := Vc13
  have hin13 : ¬ ((3 : Int32) < 0 ∨ cl13.slots.size ≤ ((3 : Int32)).toNatClampNeg) := inb_of S13 ⟨by decide, by decide⟩
  obtain ⟨T14, h14, X14, e14, W14, st14⟩ := stB X10 hx hZ e10 Ar13 (j := (3 : Int32)) hin13 (g := (mkF m 52 #[oa r0, oi 3, oi p2] [(.int ((p2 >>> ((8 : Int32) &&& 31)).toInt8.toInt32)), (.int (3 : Int32)), (.ref r0)])) rfl rfl (hb hby d13_52)
  have V14 : Arv Z h14 r0 ka .byte (10 : Int32) [xva, xvb, (.int (((p2 >>> ((0 : Int32) &&& 31)).toInt8.toInt32).toInt8.toInt32)), (.int (((p2 >>> ((8 : Int32) &&& 31)).toInt8.toInt32).toInt8.toInt32)), xve, xvf, xvg, xvh, xvi, xvj] (.int (0 : Int32)) := Arv.set Ar13 qk13 S13 M13 H13 G13 (fits_nar_byte _) W14 3 rfl (Nat.le_of_ble_eq_true rfl)
  have N14 := Fr.snoc X14 N8 g_r0
  obtain ⟨fs, hr, hrun, hended, hW, hsame⟩ := X14.leave (v := none) (fun _ => rfl)
  have f16 := (((Keep.refl h0 [r0]).wr W8 (Or.inl (List.mem_of_getElem? (i := 0) rfl))).wr W14 (Or.inl (List.mem_of_getElem? (i := 0) rfl)))
  refine ⟨_, _, pre0 _ (st1 _ (c3 _ (st2 _ (c4 _ (c5 _ (c6 _ (st8 _ (c11 _ (st10 _ (c12 _ (st14 _ (?_)))))))))))), hrun, hended, _, _, rfl, ?_, ⟨_, rfl⟩, hW, hsame.mono (by decide) (by decide)⟩
  · show Steps p.tables e below (T14.setTop (mkF m 53 #[oa r0, oi 3, oi p2] [])) _
    exact X14.returnOut hx Bd.returns (hb hby d13_53) hr
  · show Q13_1 Z r0 p2 ka xva xvb xvc xvd xve xvf xvg xvh xvi xvj h0 n0 _ T14.heap _
    rw [e14]
    exact ⟨rfl, N14, f16, V14⟩
theorem ef_13_2 (m : MethodId) (x0 : Addr) (x1 : Int32) (x2 : Int32) : entryFrame m #[(.ref x0), (.int x1), (.int x2)] 3 = mkF m 0 #[.val (.ref x0), .val (.int x1), .val (.int x2)] [] := by first | (simp [entryFrame, mkF, argsToLocals, Value.category]; done) | rfl
def Q13_2 (Z : State) (r0 : Addr) (p2 : Int32) (ka : ClassId) (xva xvb xvc xvd xve xvf xvg xvh xvi xvj : Value) (h0 : Heap) (n0 : Nat) (v : Option Value) (h : Heap) (L : List Loc) : Prop := v = none ∧ Fr n0 L ∧ Keep h0 h [r0] ∧ Arv Z h r0 ka .byte (10 : Int32) [xva, xvb, xvc, xvd, (.int (own_lo p2)), (.int (own_hi p2)), xvg, xvh, xvi, xvj] (.int (0 : Int32))
set_option maxRecDepth 65536 in
set_option maxHeartbeats 40000000 in
theorem rm13_2 (l : Launch) (Z : State) (a0 : Array Value) (hw : ∀ d ∈ tables_1, d.before a0 Z = true) (ws : List Jvm.Cond) (r0 : Addr) (p2 : Int32) (ka : ClassId) (xva xvb xvc xvd xve xvf xvg xvh xvi xvj : Value) (h0 : Heap) (n0 : Nat) (Z0 : n0 ≤ h0.size) (V : Arv Z h0 r0 ka .byte (10 : Int32) [xva, xvb, xvc, xvd, xve, xvf, xvg, xvh, xvi, xvj] (.int (0 : Int32))) (g_r0 : n0 ≤ r0) (SA : Sta Z h0 "java/lang/StringUTF16" "$assertionsDisabled" "Z" (.int (1 : Int32))) (SH : Sta Z h0 "java/lang/StringUTF16" "HI_BYTE_SHIFT" "I" (.int (0 : Int32))) (SL : Sta Z h0 "java/lang/StringUTF16" "LO_BYTE_SHIFT" "I" (.int (8 : Int32))) :
    MetFree l yy_8 (head1 (Jvm.Cond.code yy_8 jdk_52_method_4_code 3 none :: ws) ({ frames := 0, cells := 0, slots := 0, locals := 0 } : Room)) (fun a U => a = #[(.ref r0), (.int (2 : Int32)), (.int p2)] ∧ Z.Warmed39 U.vm ∧ U.heap = h0) (fun _ _ _ _ _ => True) (fun _ U o U' => ∃ v L, o = .returned v ∧ Q13_2 Z r0 p2 ka xva xvb xvc xvd xve xvf xvg xvh xvi xvj h0 n0 v U'.heap L ∧ FrameEnd U o U' L ({ frames := 0, cells := 0, slots := 0, locals := 0 } : Room).cells ({ frames := 0, cells := 0, slots := 0, locals := 0 } : Room).slots) := by
  refine MetFree.of_bodySF (plainFor_of_name pn_13) hisR ?_
  intro p e s m args below meth c s₁ Bd hml0 hP hK
  obtain ⟨rfl, hZ, hh⟩ := hP
  have hx := Bd.exec
  have hby := Bd.bytes
  have hml : c.maxLocals = 3 := hml0
  have hown : s.vm.findClass "java/lang/StringUTF16" = some m.cls := findClass_of_methodNamed Bd.named
  have hnm := (name_of_methodNamed Bd.named Bd.method).1
  have X0 : Stand p l e ({ frames := 0, cells := 0, slots := 0, locals := 0 } : Room) s m #[(.ref r0), (.int (2 : Int32)), (.int p2)] below meth c s₁ [] 0 0 := Stand.of_body Bd
  have e0 : s₁.heap = h0 := by rw [← hh, Bd.state]; rfl
  have N0 := Fr.nil n0
  have pre0 : ∀ t, Steps p.tables e below (s₁.setTop (mkF m 0 #[oa r0, oi 2, oi p2] [])) t → Steps p.tables e below (s₁.setTop (entryFrame m #[(.ref r0), (.int (2 : Int32)), (.int p2)] 3)) t := fun t k => castTop (ef_13_2 m r0 (2 : Int32) p2) k
  obtain ⟨T1, X1, e1, st1⟩ := getS2 X0 hx hZ hown (host := "") (Or.inl (own_t hw 63 rfl)) Via.refl e0 SA (g := (mkF m 0 #[oa r0, oi 2, oi p2] [])) rfl (hb hby d13_0)
  have c3 : own_G p e below T1 (mkF m 38 #[oa r0, oi (((2 : Int32) <<< ((1 : Int32) &&& 31)) + (1 : Int32)), oi p2] [(.int p2), (.int ((2 : Int32) <<< ((1 : Int32) &&& 31))), (.ref r0)]) (mkF m 3 #[oa r0, oi 2, oi p2] [(.int (1 : Int32))]) := by
    intro t kt
    show oS T1 (mkF m 3 #[oa r0, oi 2, oi p2] [(.int (1 : Int32))]) _
    refine XS.ifYes X1.here hx rfl (pc0 := 3) (pc' := 28) rfl (hb hby d13_3) rfl ((if0 _ _).trans (feq (by decide : ¬ ((1 : Int32) = (0 : Int32)))).2) (by decide) (by decide) ?_
    show oS T1 (mkF m 28 #[oa r0, oi 2, oi p2] []) _
    refine XS.iloadN X1.here hx rfl (hb hby d13_28) rfl ?_
    show oS T1 (mkF m 29 #[oa r0, oi 2, oi p2] [(.int (2 : Int32))]) _
    refine XS.iconst X1.here hx rfl (hb hby d13_29) ?_
    show oS T1 (mkF m 30 #[oa r0, oi 2, oi p2] [(.int (1 : Int32)), (.int (2 : Int32))]) _
    refine XS.ishl X1.here hx rfl (hb hby d13_30) rfl ?_
    show oS T1 (mkF m 31 #[oa r0, oi 2, oi p2] [(.int ((2 : Int32) <<< ((1 : Int32) &&& 31)))]) _
    refine XS.istoreN X1.here hx rfl (hb hby d13_31) rfl (l' := #[oa r0, oi ((2 : Int32) <<< ((1 : Int32) &&& 31)), oi p2]) rfl ?_
    show oS T1 (mkF m 32 #[oa r0, oi ((2 : Int32) <<< ((1 : Int32) &&& 31)), oi p2] []) _
    refine XS.aloadN X1.here hx rfl (hb hby d13_32) rfl rfl ?_
    show oS T1 (mkF m 33 #[oa r0, oi ((2 : Int32) <<< ((1 : Int32) &&& 31)), oi p2] [(.ref r0)]) _
    refine XS.iloadN X1.here hx rfl (hb hby d13_33) rfl ?_
    show oS T1 (mkF m 34 #[oa r0, oi ((2 : Int32) <<< ((1 : Int32) &&& 31)), oi p2] [(.int ((2 : Int32) <<< ((1 : Int32) &&& 31))), (.ref r0)]) _
    refine XS.iinc X1.here hx rfl (hb hby d13_34) rfl (l' := #[oa r0, oi (((2 : Int32) <<< ((1 : Int32) &&& 31)) + (1 : Int32)), oi p2]) rfl ?_
    show oS T1 (mkF m 37 #[oa r0, oi (((2 : Int32) <<< ((1 : Int32) &&& 31)) + (1 : Int32)), oi p2] [(.int ((2 : Int32) <<< ((1 : Int32) &&& 31))), (.ref r0)]) _
    refine XS.iloadN X1.here hx rfl (hb hby d13_37) rfl ?_
    exact kt
  obtain ⟨T2, X2, e2, st2⟩ := getS2 X1 hx hZ hown (host := "") (Or.inl (own_t hw 64 rfl)) Via.refl e1 SH (g := (mkF m 38 #[oa r0, oi (((2 : Int32) <<< ((1 : Int32) &&& 31)) + (1 : Int32)), oi p2] [(.int p2), (.int ((2 : Int32) <<< ((1 : Int32) &&& 31))), (.ref r0)])) rfl (hb hby d13_38)
  have c4 : own_G p e below T2 (mkF m 43 #[oa r0, oi (((2 : Int32) <<< ((1 : Int32) &&& 31)) + (1 : Int32)), oi p2] [(.int ((p2 >>> ((0 : Int32) &&& 31)).toInt8.toInt32)), (.int ((2 : Int32) <<< ((1 : Int32) &&& 31))), (.ref r0)]) (mkF m 41 #[oa r0, oi (((2 : Int32) <<< ((1 : Int32) &&& 31)) + (1 : Int32)), oi p2] [(.int (0 : Int32)), (.int p2), (.int ((2 : Int32) <<< ((1 : Int32) &&& 31))), (.ref r0)]) := by
    intro t kt
    show oS T2 (mkF m 41 #[oa r0, oi (((2 : Int32) <<< ((1 : Int32) &&& 31)) + (1 : Int32)), oi p2] [(.int (0 : Int32)), (.int p2), (.int ((2 : Int32) <<< ((1 : Int32) &&& 31))), (.ref r0)]) _
    refine XS.ishr X2.here hx rfl (hb hby d13_41) rfl ?_
    show oS T2 (mkF m 42 #[oa r0, oi (((2 : Int32) <<< ((1 : Int32) &&& 31)) + (1 : Int32)), oi p2] [(.int (p2 >>> ((0 : Int32) &&& 31))), (.int ((2 : Int32) <<< ((1 : Int32) &&& 31))), (.ref r0)]) _
    refine XS.i2b X2.here hx rfl (hb hby d13_42) rfl ?_
    exact kt
  have c5 : own_G p e below T2 (mkF m 43 #[oa r0, oi 5, oi p2] [(.int ((p2 >>> ((0 : Int32) &&& 31)).toInt8.toInt32)), (.int ((2 : Int32) <<< ((1 : Int32) &&& 31))), (.ref r0)]) (mkF m 43 #[oa r0, oi (((2 : Int32) <<< ((1 : Int32) &&& 31)) + (1 : Int32)), oi p2] [(.int ((p2 >>> ((0 : Int32) &&& 31)).toInt8.toInt32)), (.int ((2 : Int32) <<< ((1 : Int32) &&& 31))), (.ref r0)]) := fun t kt => castTop (congrArg (fun zv => (mkF m 43 #[oa r0, oi zv, oi p2] [(.int ((p2 >>> ((0 : Int32) &&& 31)).toInt8.toInt32)), (.int ((2 : Int32) <<< ((1 : Int32) &&& 31))), (.ref r0)])) (show (((2 : Int32) <<< ((1 : Int32) &&& 31)) + (1 : Int32)) = (5 : Int32) from by decide)) kt
  have c6 : own_G p e below T2 (mkF m 43 #[oa r0, oi 5, oi p2] [(.int ((p2 >>> ((0 : Int32) &&& 31)).toInt8.toInt32)), (.int (4 : Int32)), (.ref r0)]) (mkF m 43 #[oa r0, oi 5, oi p2] [(.int ((p2 >>> ((0 : Int32) &&& 31)).toInt8.toInt32)), (.int ((2 : Int32) <<< ((1 : Int32) &&& 31))), (.ref r0)]) := fun t kt => castTop (congrArg (fun zv => (mkF m 43 #[oa r0, oi 5, oi p2] [(.int ((p2 >>> ((0 : Int32) &&& 31)).toInt8.toInt32)), (.int zv), (.ref r0)])) (show ((2 : Int32) <<< ((1 : Int32) &&& 31)) = (4 : Int32) from by decide)) kt
  have Vc7 := V
  obtain ⟨cl7, Ar7, qk7, S7, M7, H7, G7⟩ := Vc7
  have hin7 : ¬ ((4 : Int32) < 0 ∨ cl7.slots.size ≤ ((4 : Int32)).toNatClampNeg) := inb_of S7 ⟨by decide, by decide⟩
  obtain ⟨T8, h8, X8, e8, W8, st8⟩ := stB X2 hx hZ e2 Ar7 (j := (4 : Int32)) hin7 (g := (mkF m 43 #[oa r0, oi 5, oi p2] [(.int ((p2 >>> ((0 : Int32) &&& 31)).toInt8.toInt32)), (.int (4 : Int32)), (.ref r0)])) rfl rfl (hb hby d13_43)
  have V8 : Arv Z h8 r0 ka .byte (10 : Int32) [xva, xvb, xvc, xvd, (.int (((p2 >>> ((0 : Int32) &&& 31)).toInt8.toInt32).toInt8.toInt32)), xvf, xvg, xvh, xvi, xvj] (.int (0 : Int32)) := Arv.set Ar7 qk7 S7 M7 H7 G7 (fits_nar_byte _) W8 4 rfl (Nat.le_of_ble_eq_true rfl)
  have N8 := Fr.snoc X8 N0 g_r0
  have f9 := (SL.wr W8)
  have c11 : own_G p e below T8 (mkF m 47 #[oa r0, oi 5, oi p2] [(.int p2), (.int (5 : Int32)), (.ref r0)]) (mkF m 44 #[oa r0, oi 5, oi p2] []) := by
    intro t kt
    show oS T8 (mkF m 44 #[oa r0, oi 5, oi p2] []) _
    refine XS.aloadN X8.here hx rfl (hb hby d13_44) rfl rfl ?_
    show oS T8 (mkF m 45 #[oa r0, oi 5, oi p2] [(.ref r0)]) _
    refine XS.iloadN X8.here hx rfl (hb hby d13_45) rfl ?_
    show oS T8 (mkF m 46 #[oa r0, oi 5, oi p2] [(.int (5 : Int32)), (.ref r0)]) _
    refine XS.iloadN X8.here hx rfl (hb hby d13_46) rfl ?_
    exact kt
  obtain ⟨T10, X10, e10, st10⟩ := getS2 X8 hx hZ hown (host := "") (Or.inl (own_t hw 65 rfl)) Via.refl e8 f9 (g := (mkF m 47 #[oa r0, oi 5, oi p2] [(.int p2), (.int (5 : Int32)), (.ref r0)])) rfl (hb hby d13_47)
  have c12 : own_G p e below T10 (mkF m 52 #[oa r0, oi 5, oi p2] [(.int ((p2 >>> ((8 : Int32) &&& 31)).toInt8.toInt32)), (.int (5 : Int32)), (.ref r0)]) (mkF m 50 #[oa r0, oi 5, oi p2] [(.int (8 : Int32)), (.int p2), (.int (5 : Int32)), (.ref r0)]) := by
    intro t kt
    show oS T10 (mkF m 50 #[oa r0, oi 5, oi p2] [(.int (8 : Int32)), (.int p2), (.int (5 : Int32)), (.ref r0)]) _
    refine XS.ishr X10.here hx rfl (hb hby d13_50) rfl ?_
    show oS T10 (mkF m 51 #[oa r0, oi 5, oi p2] [(.int (p2 >>> ((8 : Int32) &&& 31))), (.int (5 : Int32)), (.ref r0)]) _
    refine XS.i2b X10.here hx rfl (hb hby d13_51) rfl ?_
    exact kt
  have Vc13 := V8
  obtain ⟨cl13, Ar13, qk13, S13, M13, H13, G13⟩ := Vc13
  have hin13 : ¬ ((5 : Int32) < 0 ∨ cl13.slots.size ≤ ((5 : Int32)).toNatClampNeg) := inb_of S13 ⟨by decide, by decide⟩
  obtain ⟨T14, h14, X14, e14, W14, st14⟩ := stB X10 hx hZ e10 Ar13 (j := (5 : Int32)) hin13 (g := (mkF m 52 #[oa r0, oi 5, oi p2] [(.int ((p2 >>> ((8 : Int32) &&& 31)).toInt8.toInt32)), (.int (5 : Int32)), (.ref r0)])) rfl rfl (hb hby d13_52)
  have V14 : Arv Z h14 r0 ka .byte (10 : Int32) [xva, xvb, xvc, xvd, (.int (((p2 >>> ((0 : Int32) &&& 31)).toInt8.toInt32).toInt8.toInt32)), (.int (((p2 >>> ((8 : Int32) &&& 31)).toInt8.toInt32).toInt8.toInt32)), xvg, xvh, xvi, xvj] (.int (0 : Int32)) := Arv.set Ar13 qk13 S13 M13 H13 G13 (fits_nar_byte _) W14 5 rfl (Nat.le_of_ble_eq_true rfl)
  have N14 := Fr.snoc X14 N8 g_r0
  obtain ⟨fs, hr, hrun, hended, hW, hsame⟩ := X14.leave (v := none) (fun _ => rfl)
  have f16 := (((Keep.refl h0 [r0]).wr W8 (Or.inl (List.mem_of_getElem? (i := 0) rfl))).wr W14 (Or.inl (List.mem_of_getElem? (i := 0) rfl)))
  refine ⟨_, _, pre0 _ (st1 _ (c3 _ (st2 _ (c4 _ (c5 _ (c6 _ (st8 _ (c11 _ (st10 _ (c12 _ (st14 _ (?_)))))))))))), hrun, hended, _, _, rfl, ?_, ⟨_, rfl⟩, hW, hsame.mono (by decide) (by decide)⟩
  · show Steps p.tables e below (T14.setTop (mkF m 53 #[oa r0, oi 5, oi p2] [])) _
    exact X14.returnOut hx Bd.returns (hb hby d13_53) hr
  · show Q13_2 Z r0 p2 ka xva xvb xvc xvd xve xvf xvg xvh xvi xvj h0 n0 _ T14.heap _
    rw [e14]
    exact ⟨rfl, N14, f16, V14⟩
theorem ef_13_3 (m : MethodId) (x0 : Addr) (x1 : Int32) (x2 : Int32) : entryFrame m #[(.ref x0), (.int x1), (.int x2)] 3 = mkF m 0 #[.val (.ref x0), .val (.int x1), .val (.int x2)] [] := by first | (simp [entryFrame, mkF, argsToLocals, Value.category]; done) | rfl
def Q13_3 (Z : State) (r0 : Addr) (p2 : Int32) (ka : ClassId) (xva xvb xvc xvd xve xvf xvg xvh xvi xvj : Value) (h0 : Heap) (n0 : Nat) (v : Option Value) (h : Heap) (L : List Loc) : Prop := v = none ∧ Fr n0 L ∧ Keep h0 h [r0] ∧ Arv Z h r0 ka .byte (10 : Int32) [xva, xvb, xvc, xvd, xve, xvf, (.int (own_lo p2)), (.int (own_hi p2)), xvi, xvj] (.int (0 : Int32))
set_option maxRecDepth 65536 in
set_option maxHeartbeats 40000000 in
theorem rm13_3 (l : Launch) (Z : State) (a0 : Array Value) (hw : ∀ d ∈ tables_1, d.before a0 Z = true) (ws : List Jvm.Cond) (r0 : Addr) (p2 : Int32) (ka : ClassId) (xva xvb xvc xvd xve xvf xvg xvh xvi xvj : Value) (h0 : Heap) (n0 : Nat) (Z0 : n0 ≤ h0.size) (V : Arv Z h0 r0 ka .byte (10 : Int32) [xva, xvb, xvc, xvd, xve, xvf, xvg, xvh, xvi, xvj] (.int (0 : Int32))) (g_r0 : n0 ≤ r0) (SA : Sta Z h0 "java/lang/StringUTF16" "$assertionsDisabled" "Z" (.int (1 : Int32))) (SH : Sta Z h0 "java/lang/StringUTF16" "HI_BYTE_SHIFT" "I" (.int (0 : Int32))) (SL : Sta Z h0 "java/lang/StringUTF16" "LO_BYTE_SHIFT" "I" (.int (8 : Int32))) :
    MetFree l yy_8 (head1 (Jvm.Cond.code yy_8 jdk_52_method_4_code 3 none :: ws) ({ frames := 0, cells := 0, slots := 0, locals := 0 } : Room)) (fun a U => a = #[(.ref r0), (.int (3 : Int32)), (.int p2)] ∧ Z.Warmed39 U.vm ∧ U.heap = h0) (fun _ _ _ _ _ => True) (fun _ U o U' => ∃ v L, o = .returned v ∧ Q13_3 Z r0 p2 ka xva xvb xvc xvd xve xvf xvg xvh xvi xvj h0 n0 v U'.heap L ∧ FrameEnd U o U' L ({ frames := 0, cells := 0, slots := 0, locals := 0 } : Room).cells ({ frames := 0, cells := 0, slots := 0, locals := 0 } : Room).slots) := by
  refine MetFree.of_bodySF (plainFor_of_name pn_13) hisR ?_
  intro p e s m args below meth c s₁ Bd hml0 hP hK
  obtain ⟨rfl, hZ, hh⟩ := hP
  have hx := Bd.exec
  have hby := Bd.bytes
  have hml : c.maxLocals = 3 := hml0
  have hown : s.vm.findClass "java/lang/StringUTF16" = some m.cls := findClass_of_methodNamed Bd.named
  have hnm := (name_of_methodNamed Bd.named Bd.method).1
  have X0 : Stand p l e ({ frames := 0, cells := 0, slots := 0, locals := 0 } : Room) s m #[(.ref r0), (.int (3 : Int32)), (.int p2)] below meth c s₁ [] 0 0 := Stand.of_body Bd
  have e0 : s₁.heap = h0 := by rw [← hh, Bd.state]; rfl
  have N0 := Fr.nil n0
  have pre0 : ∀ t, Steps p.tables e below (s₁.setTop (mkF m 0 #[oa r0, oi 3, oi p2] [])) t → Steps p.tables e below (s₁.setTop (entryFrame m #[(.ref r0), (.int (3 : Int32)), (.int p2)] 3)) t := fun t k => castTop (ef_13_3 m r0 (3 : Int32) p2) k
  obtain ⟨T1, X1, e1, st1⟩ := getS2 X0 hx hZ hown (host := "") (Or.inl (own_t hw 63 rfl)) Via.refl e0 SA (g := (mkF m 0 #[oa r0, oi 3, oi p2] [])) rfl (hb hby d13_0)
  have c3 : own_G p e below T1 (mkF m 38 #[oa r0, oi (((3 : Int32) <<< ((1 : Int32) &&& 31)) + (1 : Int32)), oi p2] [(.int p2), (.int ((3 : Int32) <<< ((1 : Int32) &&& 31))), (.ref r0)]) (mkF m 3 #[oa r0, oi 3, oi p2] [(.int (1 : Int32))]) := by
    intro t kt
    show oS T1 (mkF m 3 #[oa r0, oi 3, oi p2] [(.int (1 : Int32))]) _
    refine XS.ifYes X1.here hx rfl (pc0 := 3) (pc' := 28) rfl (hb hby d13_3) rfl ((if0 _ _).trans (feq (by decide : ¬ ((1 : Int32) = (0 : Int32)))).2) (by decide) (by decide) ?_
    show oS T1 (mkF m 28 #[oa r0, oi 3, oi p2] []) _
    refine XS.iloadN X1.here hx rfl (hb hby d13_28) rfl ?_
    show oS T1 (mkF m 29 #[oa r0, oi 3, oi p2] [(.int (3 : Int32))]) _
    refine XS.iconst X1.here hx rfl (hb hby d13_29) ?_
    show oS T1 (mkF m 30 #[oa r0, oi 3, oi p2] [(.int (1 : Int32)), (.int (3 : Int32))]) _
    refine XS.ishl X1.here hx rfl (hb hby d13_30) rfl ?_
    show oS T1 (mkF m 31 #[oa r0, oi 3, oi p2] [(.int ((3 : Int32) <<< ((1 : Int32) &&& 31)))]) _
    refine XS.istoreN X1.here hx rfl (hb hby d13_31) rfl (l' := #[oa r0, oi ((3 : Int32) <<< ((1 : Int32) &&& 31)), oi p2]) rfl ?_
    show oS T1 (mkF m 32 #[oa r0, oi ((3 : Int32) <<< ((1 : Int32) &&& 31)), oi p2] []) _
    refine XS.aloadN X1.here hx rfl (hb hby d13_32) rfl rfl ?_
    show oS T1 (mkF m 33 #[oa r0, oi ((3 : Int32) <<< ((1 : Int32) &&& 31)), oi p2] [(.ref r0)]) _
    refine XS.iloadN X1.here hx rfl (hb hby d13_33) rfl ?_
    show oS T1 (mkF m 34 #[oa r0, oi ((3 : Int32) <<< ((1 : Int32) &&& 31)), oi p2] [(.int ((3 : Int32) <<< ((1 : Int32) &&& 31))), (.ref r0)]) _
    refine XS.iinc X1.here hx rfl (hb hby d13_34) rfl (l' := #[oa r0, oi (((3 : Int32) <<< ((1 : Int32) &&& 31)) + (1 : Int32)), oi p2]) rfl ?_
    show oS T1 (mkF m 37 #[oa r0, oi (((3 : Int32) <<< ((1 : Int32) &&& 31)) + (1 : Int32)), oi p2] [(.int ((3 : Int32) <<< ((1 : Int32) &&& 31))), (.ref r0)]) _
    refine XS.iloadN X1.here hx rfl (hb hby d13_37) rfl ?_
    exact kt
  obtain ⟨T2, X2, e2, st2⟩ := getS2 X1 hx hZ hown (host := "") (Or.inl (own_t hw 64 rfl)) Via.refl e1 SH (g := (mkF m 38 #[oa r0, oi (((3 : Int32) <<< ((1 : Int32) &&& 31)) + (1 : Int32)), oi p2] [(.int p2), (.int ((3 : Int32) <<< ((1 : Int32) &&& 31))), (.ref r0)])) rfl (hb hby d13_38)
  have c4 : own_G p e below T2 (mkF m 43 #[oa r0, oi (((3 : Int32) <<< ((1 : Int32) &&& 31)) + (1 : Int32)), oi p2] [(.int ((p2 >>> ((0 : Int32) &&& 31)).toInt8.toInt32)), (.int ((3 : Int32) <<< ((1 : Int32) &&& 31))), (.ref r0)]) (mkF m 41 #[oa r0, oi (((3 : Int32) <<< ((1 : Int32) &&& 31)) + (1 : Int32)), oi p2] [(.int (0 : Int32)), (.int p2), (.int ((3 : Int32) <<< ((1 : Int32) &&& 31))), (.ref r0)]) := by
    intro t kt
    show oS T2 (mkF m 41 #[oa r0, oi (((3 : Int32) <<< ((1 : Int32) &&& 31)) + (1 : Int32)), oi p2] [(.int (0 : Int32)), (.int p2), (.int ((3 : Int32) <<< ((1 : Int32) &&& 31))), (.ref r0)]) _
    refine XS.ishr X2.here hx rfl (hb hby d13_41) rfl ?_
    show oS T2 (mkF m 42 #[oa r0, oi (((3 : Int32) <<< ((1 : Int32) &&& 31)) + (1 : Int32)), oi p2] [(.int (p2 >>> ((0 : Int32) &&& 31))), (.int ((3 : Int32) <<< ((1 : Int32) &&& 31))), (.ref r0)]) _
    refine XS.i2b X2.here hx rfl (hb hby d13_42) rfl ?_
    exact kt
  have c5 : own_G p e below T2 (mkF m 43 #[oa r0, oi 7, oi p2] [(.int ((p2 >>> ((0 : Int32) &&& 31)).toInt8.toInt32)), (.int ((3 : Int32) <<< ((1 : Int32) &&& 31))), (.ref r0)]) (mkF m 43 #[oa r0, oi (((3 : Int32) <<< ((1 : Int32) &&& 31)) + (1 : Int32)), oi p2] [(.int ((p2 >>> ((0 : Int32) &&& 31)).toInt8.toInt32)), (.int ((3 : Int32) <<< ((1 : Int32) &&& 31))), (.ref r0)]) := fun t kt => castTop (congrArg (fun zv => (mkF m 43 #[oa r0, oi zv, oi p2] [(.int ((p2 >>> ((0 : Int32) &&& 31)).toInt8.toInt32)), (.int ((3 : Int32) <<< ((1 : Int32) &&& 31))), (.ref r0)])) (show (((3 : Int32) <<< ((1 : Int32) &&& 31)) + (1 : Int32)) = (7 : Int32) from by decide)) kt
  have c6 : own_G p e below T2 (mkF m 43 #[oa r0, oi 7, oi p2] [(.int ((p2 >>> ((0 : Int32) &&& 31)).toInt8.toInt32)), (.int (6 : Int32)), (.ref r0)]) (mkF m 43 #[oa r0, oi 7, oi p2] [(.int ((p2 >>> ((0 : Int32) &&& 31)).toInt8.toInt32)), (.int ((3 : Int32) <<< ((1 : Int32) &&& 31))), (.ref r0)]) := fun t kt => castTop (congrArg (fun zv => (mkF m 43 #[oa r0, oi 7, oi p2] [(.int ((p2 >>> ((0 : Int32) &&& 31)).toInt8.toInt32)), (.int zv), (.ref r0)])) (show ((3 : Int32) <<< ((1 : Int32) &&& 31)) = (6 : Int32) from by decide)) kt
  have Vc7 := V
  obtain ⟨cl7, Ar7, qk7, S7, M7, H7, G7⟩ := Vc7
  have hin7 : ¬ ((6 : Int32) < 0 ∨ cl7.slots.size ≤ ((6 : Int32)).toNatClampNeg) := inb_of S7 ⟨by decide, by decide⟩
  obtain ⟨T8, h8, X8, e8, W8, st8⟩ := stB X2 hx hZ e2 Ar7 (j := (6 : Int32)) hin7 (g := (mkF m 43 #[oa r0, oi 7, oi p2] [(.int ((p2 >>> ((0 : Int32) &&& 31)).toInt8.toInt32)), (.int (6 : Int32)), (.ref r0)])) rfl rfl (hb hby d13_43)
  have V8 : Arv Z h8 r0 ka .byte (10 : Int32) [xva, xvb, xvc, xvd, xve, xvf, (.int (((p2 >>> ((0 : Int32) &&& 31)).toInt8.toInt32).toInt8.toInt32)), xvh, xvi, xvj] (.int (0 : Int32)) := Arv.set Ar7 qk7 S7 M7 H7 G7 (fits_nar_byte _) W8 6 rfl (Nat.le_of_ble_eq_true rfl)
  have N8 := Fr.snoc X8 N0 g_r0
  have f9 := (SL.wr W8)
  have c11 : own_G p e below T8 (mkF m 47 #[oa r0, oi 7, oi p2] [(.int p2), (.int (7 : Int32)), (.ref r0)]) (mkF m 44 #[oa r0, oi 7, oi p2] []) := by
    intro t kt
    show oS T8 (mkF m 44 #[oa r0, oi 7, oi p2] []) _
    refine XS.aloadN X8.here hx rfl (hb hby d13_44) rfl rfl ?_
    show oS T8 (mkF m 45 #[oa r0, oi 7, oi p2] [(.ref r0)]) _
    refine XS.iloadN X8.here hx rfl (hb hby d13_45) rfl ?_
    show oS T8 (mkF m 46 #[oa r0, oi 7, oi p2] [(.int (7 : Int32)), (.ref r0)]) _
    refine XS.iloadN X8.here hx rfl (hb hby d13_46) rfl ?_
    exact kt
  obtain ⟨T10, X10, e10, st10⟩ := getS2 X8 hx hZ hown (host := "") (Or.inl (own_t hw 65 rfl)) Via.refl e8 f9 (g := (mkF m 47 #[oa r0, oi 7, oi p2] [(.int p2), (.int (7 : Int32)), (.ref r0)])) rfl (hb hby d13_47)
  have c12 : own_G p e below T10 (mkF m 52 #[oa r0, oi 7, oi p2] [(.int ((p2 >>> ((8 : Int32) &&& 31)).toInt8.toInt32)), (.int (7 : Int32)), (.ref r0)]) (mkF m 50 #[oa r0, oi 7, oi p2] [(.int (8 : Int32)), (.int p2), (.int (7 : Int32)), (.ref r0)]) := by
    intro t kt
    show oS T10 (mkF m 50 #[oa r0, oi 7, oi p2] [(.int (8 : Int32)), (.int p2), (.int (7 : Int32)), (.ref r0)]) _
    refine XS.ishr X10.here hx rfl (hb hby d13_50) rfl ?_
    show oS T10 (mkF m 51 #[oa r0, oi 7, oi p2] [(.int (p2 >>> ((8 : Int32) &&& 31))), (.int (7 : Int32)), (.ref r0)]) _
    refine XS.i2b X10.here hx rfl (hb hby d13_51) rfl ?_
    exact kt
  have Vc13 := V8
  obtain ⟨cl13, Ar13, qk13, S13, M13, H13, G13⟩ := Vc13
  have hin13 : ¬ ((7 : Int32) < 0 ∨ cl13.slots.size ≤ ((7 : Int32)).toNatClampNeg) := inb_of S13 ⟨by decide, by decide⟩
  obtain ⟨T14, h14, X14, e14, W14, st14⟩ := stB X10 hx hZ e10 Ar13 (j := (7 : Int32)) hin13 (g := (mkF m 52 #[oa r0, oi 7, oi p2] [(.int ((p2 >>> ((8 : Int32) &&& 31)).toInt8.toInt32)), (.int (7 : Int32)), (.ref r0)])) rfl rfl (hb hby d13_52)
  have V14 : Arv Z h14 r0 ka .byte (10 : Int32) [xva, xvb, xvc, xvd, xve, xvf, (.int (((p2 >>> ((0 : Int32) &&& 31)).toInt8.toInt32).toInt8.toInt32)), (.int (((p2 >>> ((8 : Int32) &&& 31)).toInt8.toInt32).toInt8.toInt32)), xvi, xvj] (.int (0 : Int32)) := Arv.set Ar13 qk13 S13 M13 H13 G13 (fits_nar_byte _) W14 7 rfl (Nat.le_of_ble_eq_true rfl)
  have N14 := Fr.snoc X14 N8 g_r0
  obtain ⟨fs, hr, hrun, hended, hW, hsame⟩ := X14.leave (v := none) (fun _ => rfl)
  have f16 := (((Keep.refl h0 [r0]).wr W8 (Or.inl (List.mem_of_getElem? (i := 0) rfl))).wr W14 (Or.inl (List.mem_of_getElem? (i := 0) rfl)))
  refine ⟨_, _, pre0 _ (st1 _ (c3 _ (st2 _ (c4 _ (c5 _ (c6 _ (st8 _ (c11 _ (st10 _ (c12 _ (st14 _ (?_)))))))))))), hrun, hended, _, _, rfl, ?_, ⟨_, rfl⟩, hW, hsame.mono (by decide) (by decide)⟩
  · show Steps p.tables e below (T14.setTop (mkF m 53 #[oa r0, oi 7, oi p2] [])) _
    exact X14.returnOut hx Bd.returns (hb hby d13_53) hr
  · show Q13_3 Z r0 p2 ka xva xvb xvc xvd xve xvf xvg xvh xvi xvj h0 n0 _ T14.heap _
    rw [e14]
    exact ⟨rfl, N14, f16, V14⟩
theorem ef_13_4 (m : MethodId) (x0 : Addr) (x1 : Int32) (x2 : Int32) : entryFrame m #[(.ref x0), (.int x1), (.int x2)] 3 = mkF m 0 #[.val (.ref x0), .val (.int x1), .val (.int x2)] [] := by first | (simp [entryFrame, mkF, argsToLocals, Value.category]; done) | rfl
def Q13_4 (Z : State) (r0 : Addr) (p2 : Int32) (ka : ClassId) (xva xvb xvc xvd xve xvf xvg xvh xvi xvj : Value) (h0 : Heap) (n0 : Nat) (v : Option Value) (h : Heap) (L : List Loc) : Prop := v = none ∧ Fr n0 L ∧ Keep h0 h [r0] ∧ Arv Z h r0 ka .byte (10 : Int32) [xva, xvb, xvc, xvd, xve, xvf, xvg, xvh, (.int (own_lo p2)), (.int (own_hi p2))] (.int (0 : Int32))
set_option maxRecDepth 65536 in
set_option maxHeartbeats 40000000 in
theorem rm13_4 (l : Launch) (Z : State) (a0 : Array Value) (hw : ∀ d ∈ tables_1, d.before a0 Z = true) (ws : List Jvm.Cond) (r0 : Addr) (p2 : Int32) (ka : ClassId) (xva xvb xvc xvd xve xvf xvg xvh xvi xvj : Value) (h0 : Heap) (n0 : Nat) (Z0 : n0 ≤ h0.size) (V : Arv Z h0 r0 ka .byte (10 : Int32) [xva, xvb, xvc, xvd, xve, xvf, xvg, xvh, xvi, xvj] (.int (0 : Int32))) (g_r0 : n0 ≤ r0) (SA : Sta Z h0 "java/lang/StringUTF16" "$assertionsDisabled" "Z" (.int (1 : Int32))) (SH : Sta Z h0 "java/lang/StringUTF16" "HI_BYTE_SHIFT" "I" (.int (0 : Int32))) (SL : Sta Z h0 "java/lang/StringUTF16" "LO_BYTE_SHIFT" "I" (.int (8 : Int32))) :
    MetFree l yy_8 (head1 (Jvm.Cond.code yy_8 jdk_52_method_4_code 3 none :: ws) ({ frames := 0, cells := 0, slots := 0, locals := 0 } : Room)) (fun a U => a = #[(.ref r0), (.int (4 : Int32)), (.int p2)] ∧ Z.Warmed39 U.vm ∧ U.heap = h0) (fun _ _ _ _ _ => True) (fun _ U o U' => ∃ v L, o = .returned v ∧ Q13_4 Z r0 p2 ka xva xvb xvc xvd xve xvf xvg xvh xvi xvj h0 n0 v U'.heap L ∧ FrameEnd U o U' L ({ frames := 0, cells := 0, slots := 0, locals := 0 } : Room).cells ({ frames := 0, cells := 0, slots := 0, locals := 0 } : Room).slots) := by
  refine MetFree.of_bodySF (plainFor_of_name pn_13) hisR ?_
  intro p e s m args below meth c s₁ Bd hml0 hP hK
  obtain ⟨rfl, hZ, hh⟩ := hP
  have hx := Bd.exec
  have hby := Bd.bytes
  have hml : c.maxLocals = 3 := hml0
  have hown : s.vm.findClass "java/lang/StringUTF16" = some m.cls := findClass_of_methodNamed Bd.named
  have hnm := (name_of_methodNamed Bd.named Bd.method).1
  have X0 : Stand p l e ({ frames := 0, cells := 0, slots := 0, locals := 0 } : Room) s m #[(.ref r0), (.int (4 : Int32)), (.int p2)] below meth c s₁ [] 0 0 := Stand.of_body Bd
  have e0 : s₁.heap = h0 := by rw [← hh, Bd.state]; rfl
  have N0 := Fr.nil n0
  have pre0 : ∀ t, Steps p.tables e below (s₁.setTop (mkF m 0 #[oa r0, oi 4, oi p2] [])) t → Steps p.tables e below (s₁.setTop (entryFrame m #[(.ref r0), (.int (4 : Int32)), (.int p2)] 3)) t := fun t k => castTop (ef_13_4 m r0 (4 : Int32) p2) k
  obtain ⟨T1, X1, e1, st1⟩ := getS2 X0 hx hZ hown (host := "") (Or.inl (own_t hw 63 rfl)) Via.refl e0 SA (g := (mkF m 0 #[oa r0, oi 4, oi p2] [])) rfl (hb hby d13_0)
  have c3 : own_G p e below T1 (mkF m 38 #[oa r0, oi (((4 : Int32) <<< ((1 : Int32) &&& 31)) + (1 : Int32)), oi p2] [(.int p2), (.int ((4 : Int32) <<< ((1 : Int32) &&& 31))), (.ref r0)]) (mkF m 3 #[oa r0, oi 4, oi p2] [(.int (1 : Int32))]) := by
    intro t kt
    show oS T1 (mkF m 3 #[oa r0, oi 4, oi p2] [(.int (1 : Int32))]) _
    refine XS.ifYes X1.here hx rfl (pc0 := 3) (pc' := 28) rfl (hb hby d13_3) rfl ((if0 _ _).trans (feq (by decide : ¬ ((1 : Int32) = (0 : Int32)))).2) (by decide) (by decide) ?_
    show oS T1 (mkF m 28 #[oa r0, oi 4, oi p2] []) _
    refine XS.iloadN X1.here hx rfl (hb hby d13_28) rfl ?_
    show oS T1 (mkF m 29 #[oa r0, oi 4, oi p2] [(.int (4 : Int32))]) _
    refine XS.iconst X1.here hx rfl (hb hby d13_29) ?_
    show oS T1 (mkF m 30 #[oa r0, oi 4, oi p2] [(.int (1 : Int32)), (.int (4 : Int32))]) _
    refine XS.ishl X1.here hx rfl (hb hby d13_30) rfl ?_
    show oS T1 (mkF m 31 #[oa r0, oi 4, oi p2] [(.int ((4 : Int32) <<< ((1 : Int32) &&& 31)))]) _
    refine XS.istoreN X1.here hx rfl (hb hby d13_31) rfl (l' := #[oa r0, oi ((4 : Int32) <<< ((1 : Int32) &&& 31)), oi p2]) rfl ?_
    show oS T1 (mkF m 32 #[oa r0, oi ((4 : Int32) <<< ((1 : Int32) &&& 31)), oi p2] []) _
    refine XS.aloadN X1.here hx rfl (hb hby d13_32) rfl rfl ?_
    show oS T1 (mkF m 33 #[oa r0, oi ((4 : Int32) <<< ((1 : Int32) &&& 31)), oi p2] [(.ref r0)]) _
    refine XS.iloadN X1.here hx rfl (hb hby d13_33) rfl ?_
    show oS T1 (mkF m 34 #[oa r0, oi ((4 : Int32) <<< ((1 : Int32) &&& 31)), oi p2] [(.int ((4 : Int32) <<< ((1 : Int32) &&& 31))), (.ref r0)]) _
    refine XS.iinc X1.here hx rfl (hb hby d13_34) rfl (l' := #[oa r0, oi (((4 : Int32) <<< ((1 : Int32) &&& 31)) + (1 : Int32)), oi p2]) rfl ?_
    show oS T1 (mkF m 37 #[oa r0, oi (((4 : Int32) <<< ((1 : Int32) &&& 31)) + (1 : Int32)), oi p2] [(.int ((4 : Int32) <<< ((1 : Int32) &&& 31))), (.ref r0)]) _
    refine XS.iloadN X1.here hx rfl (hb hby d13_37) rfl ?_
    exact kt
  obtain ⟨T2, X2, e2, st2⟩ := getS2 X1 hx hZ hown (host := "") (Or.inl (own_t hw 64 rfl)) Via.refl e1 SH (g := (mkF m 38 #[oa r0, oi (((4 : Int32) <<< ((1 : Int32) &&& 31)) + (1 : Int32)), oi p2] [(.int p2), (.int ((4 : Int32) <<< ((1 : Int32) &&& 31))), (.ref r0)])) rfl (hb hby d13_38)
  have c4 : own_G p e below T2 (mkF m 43 #[oa r0, oi (((4 : Int32) <<< ((1 : Int32) &&& 31)) + (1 : Int32)), oi p2] [(.int ((p2 >>> ((0 : Int32) &&& 31)).toInt8.toInt32)), (.int ((4 : Int32) <<< ((1 : Int32) &&& 31))), (.ref r0)]) (mkF m 41 #[oa r0, oi (((4 : Int32) <<< ((1 : Int32) &&& 31)) + (1 : Int32)), oi p2] [(.int (0 : Int32)), (.int p2), (.int ((4 : Int32) <<< ((1 : Int32) &&& 31))), (.ref r0)]) := by
    intro t kt
    show oS T2 (mkF m 41 #[oa r0, oi (((4 : Int32) <<< ((1 : Int32) &&& 31)) + (1 : Int32)), oi p2] [(.int (0 : Int32)), (.int p2), (.int ((4 : Int32) <<< ((1 : Int32) &&& 31))), (.ref r0)]) _
    refine XS.ishr X2.here hx rfl (hb hby d13_41) rfl ?_
    show oS T2 (mkF m 42 #[oa r0, oi (((4 : Int32) <<< ((1 : Int32) &&& 31)) + (1 : Int32)), oi p2] [(.int (p2 >>> ((0 : Int32) &&& 31))), (.int ((4 : Int32) <<< ((1 : Int32) &&& 31))), (.ref r0)]) _
    refine XS.i2b X2.here hx rfl (hb hby d13_42) rfl ?_
    exact kt
  have c5 : own_G p e below T2 (mkF m 43 #[oa r0, oi 9, oi p2] [(.int ((p2 >>> ((0 : Int32) &&& 31)).toInt8.toInt32)), (.int ((4 : Int32) <<< ((1 : Int32) &&& 31))), (.ref r0)]) (mkF m 43 #[oa r0, oi (((4 : Int32) <<< ((1 : Int32) &&& 31)) + (1 : Int32)), oi p2] [(.int ((p2 >>> ((0 : Int32) &&& 31)).toInt8.toInt32)), (.int ((4 : Int32) <<< ((1 : Int32) &&& 31))), (.ref r0)]) := fun t kt => castTop (congrArg (fun zv => (mkF m 43 #[oa r0, oi zv, oi p2] [(.int ((p2 >>> ((0 : Int32) &&& 31)).toInt8.toInt32)), (.int ((4 : Int32) <<< ((1 : Int32) &&& 31))), (.ref r0)])) (show (((4 : Int32) <<< ((1 : Int32) &&& 31)) + (1 : Int32)) = (9 : Int32) from by decide)) kt
  have c6 : own_G p e below T2 (mkF m 43 #[oa r0, oi 9, oi p2] [(.int ((p2 >>> ((0 : Int32) &&& 31)).toInt8.toInt32)), (.int (8 : Int32)), (.ref r0)]) (mkF m 43 #[oa r0, oi 9, oi p2] [(.int ((p2 >>> ((0 : Int32) &&& 31)).toInt8.toInt32)), (.int ((4 : Int32) <<< ((1 : Int32) &&& 31))), (.ref r0)]) := fun t kt => castTop (congrArg (fun zv => (mkF m 43 #[oa r0, oi 9, oi p2] [(.int ((p2 >>> ((0 : Int32) &&& 31)).toInt8.toInt32)), (.int zv), (.ref r0)])) (show ((4 : Int32) <<< ((1 : Int32) &&& 31)) = (8 : Int32) from by decide)) kt
  have Vc7 := V
  obtain ⟨cl7, Ar7, qk7, S7, M7, H7, G7⟩ := Vc7
  have hin7 : ¬ ((8 : Int32) < 0 ∨ cl7.slots.size ≤ ((8 : Int32)).toNatClampNeg) := inb_of S7 ⟨by decide, by decide⟩
  obtain ⟨T8, h8, X8, e8, W8, st8⟩ := stB X2 hx hZ e2 Ar7 (j := (8 : Int32)) hin7 (g := (mkF m 43 #[oa r0, oi 9, oi p2] [(.int ((p2 >>> ((0 : Int32) &&& 31)).toInt8.toInt32)), (.int (8 : Int32)), (.ref r0)])) rfl rfl (hb hby d13_43)
  have V8 : Arv Z h8 r0 ka .byte (10 : Int32) [xva, xvb, xvc, xvd, xve, xvf, xvg, xvh, (.int (((p2 >>> ((0 : Int32) &&& 31)).toInt8.toInt32).toInt8.toInt32)), xvj] (.int (0 : Int32)) := Arv.set Ar7 qk7 S7 M7 H7 G7 (fits_nar_byte _) W8 8 rfl (Nat.le_of_ble_eq_true rfl)
  have N8 := Fr.snoc X8 N0 g_r0
  have f9 := (SL.wr W8)
  have c11 : own_G p e below T8 (mkF m 47 #[oa r0, oi 9, oi p2] [(.int p2), (.int (9 : Int32)), (.ref r0)]) (mkF m 44 #[oa r0, oi 9, oi p2] []) := by
    intro t kt
    show oS T8 (mkF m 44 #[oa r0, oi 9, oi p2] []) _
    refine XS.aloadN X8.here hx rfl (hb hby d13_44) rfl rfl ?_
    show oS T8 (mkF m 45 #[oa r0, oi 9, oi p2] [(.ref r0)]) _
    refine XS.iloadN X8.here hx rfl (hb hby d13_45) rfl ?_
    show oS T8 (mkF m 46 #[oa r0, oi 9, oi p2] [(.int (9 : Int32)), (.ref r0)]) _
    refine XS.iloadN X8.here hx rfl (hb hby d13_46) rfl ?_
    exact kt
  obtain ⟨T10, X10, e10, st10⟩ := getS2 X8 hx hZ hown (host := "") (Or.inl (own_t hw 65 rfl)) Via.refl e8 f9 (g := (mkF m 47 #[oa r0, oi 9, oi p2] [(.int p2), (.int (9 : Int32)), (.ref r0)])) rfl (hb hby d13_47)
  have c12 : own_G p e below T10 (mkF m 52 #[oa r0, oi 9, oi p2] [(.int ((p2 >>> ((8 : Int32) &&& 31)).toInt8.toInt32)), (.int (9 : Int32)), (.ref r0)]) (mkF m 50 #[oa r0, oi 9, oi p2] [(.int (8 : Int32)), (.int p2), (.int (9 : Int32)), (.ref r0)]) := by
    intro t kt
    show oS T10 (mkF m 50 #[oa r0, oi 9, oi p2] [(.int (8 : Int32)), (.int p2), (.int (9 : Int32)), (.ref r0)]) _
    refine XS.ishr X10.here hx rfl (hb hby d13_50) rfl ?_
    show oS T10 (mkF m 51 #[oa r0, oi 9, oi p2] [(.int (p2 >>> ((8 : Int32) &&& 31))), (.int (9 : Int32)), (.ref r0)]) _
    refine XS.i2b X10.here hx rfl (hb hby d13_51) rfl ?_
    exact kt
  have Vc13 := V8
  obtain ⟨cl13, Ar13, qk13, S13, M13, H13, G13⟩ := Vc13
  have hin13 : ¬ ((9 : Int32) < 0 ∨ cl13.slots.size ≤ ((9 : Int32)).toNatClampNeg) := inb_of S13 ⟨by decide, by decide⟩
  obtain ⟨T14, h14, X14, e14, W14, st14⟩ := stB X10 hx hZ e10 Ar13 (j := (9 : Int32)) hin13 (g := (mkF m 52 #[oa r0, oi 9, oi p2] [(.int ((p2 >>> ((8 : Int32) &&& 31)).toInt8.toInt32)), (.int (9 : Int32)), (.ref r0)])) rfl rfl (hb hby d13_52)
  have V14 : Arv Z h14 r0 ka .byte (10 : Int32) [xva, xvb, xvc, xvd, xve, xvf, xvg, xvh, (.int (((p2 >>> ((0 : Int32) &&& 31)).toInt8.toInt32).toInt8.toInt32)), (.int (((p2 >>> ((8 : Int32) &&& 31)).toInt8.toInt32).toInt8.toInt32))] (.int (0 : Int32)) := Arv.set Ar13 qk13 S13 M13 H13 G13 (fits_nar_byte _) W14 9 rfl (Nat.le_of_ble_eq_true rfl)
  have N14 := Fr.snoc X14 N8 g_r0
  obtain ⟨fs, hr, hrun, hended, hW, hsame⟩ := X14.leave (v := none) (fun _ => rfl)
  have f16 := (((Keep.refl h0 [r0]).wr W8 (Or.inl (List.mem_of_getElem? (i := 0) rfl))).wr W14 (Or.inl (List.mem_of_getElem? (i := 0) rfl)))
  refine ⟨_, _, pre0 _ (st1 _ (c3 _ (st2 _ (c4 _ (c5 _ (c6 _ (st8 _ (c11 _ (st10 _ (c12 _ (st14 _ (?_)))))))))))), hrun, hended, _, _, rfl, ?_, ⟨_, rfl⟩, hW, hsame.mono (by decide) (by decide)⟩
  · show Steps p.tables e below (T14.setTop (mkF m 53 #[oa r0, oi 9, oi p2] [])) _
    exact X14.returnOut hx Bd.returns (hb hby d13_53) hr
  · show Q13_4 Z r0 p2 ka xva xvb xvc xvd xve xvf xvg xvh xvi xvj h0 n0 _ T14.heap _
    rw [e14]
    exact ⟨rfl, N14, f16, V14⟩
theorem d10_0 : decode jdk_52_method_14_code 0 = .ok (.iload_n 2, 1) := by decide +kernel
theorem d10_1 : decode jdk_52_method_14_code 1 = .ok (.invokestatic 107, 3) := by decide +kernel
theorem d10_4 : decode jdk_52_method_14_code 4 = .ok (.astore_n 3, 1) := by decide +kernel
theorem d10_5 : decode jdk_52_method_14_code 5 = .ok (.iconst 0, 1) := by decide +kernel
theorem d10_6 : decode jdk_52_method_14_code 6 = .ok (.istore 4, 2) := by decide +kernel
theorem d10_8 : decode jdk_52_method_14_code 8 = .ok (.iload 4, 2) := by decide +kernel
theorem d10_10 : decode jdk_52_method_14_code 10 = .ok (.iload_n 2, 1) := by decide +kernel
theorem d10_11 : decode jdk_52_method_14_code 11 = .ok (.if_icmp .ge 21, 3) := by decide +kernel
theorem d10_14 : decode jdk_52_method_14_code 14 = .ok (.aload_n 3, 1) := by decide +kernel
theorem d10_15 : decode jdk_52_method_14_code 15 = .ok (.iload 4, 2) := by decide +kernel
theorem d10_17 : decode jdk_52_method_14_code 17 = .ok (.aload_n 0, 1) := by decide +kernel
theorem d10_18 : decode jdk_52_method_14_code 18 = .ok (.iload_n 1, 1) := by decide +kernel
theorem d10_19 : decode jdk_52_method_14_code 19 = .ok (.caload, 1) := by decide +kernel
theorem d10_20 : decode jdk_52_method_14_code 20 = .ok (.invokestatic 111, 3) := by decide +kernel
theorem d10_23 : decode jdk_52_method_14_code 23 = .ok (.iinc 1 1, 3) := by decide +kernel
theorem d10_26 : decode jdk_52_method_14_code 26 = .ok (.iinc 4 1, 3) := by decide +kernel
theorem d10_29 : decode jdk_52_method_14_code 29 = .ok (.goto (-21), 3) := by decide +kernel
theorem d10_32 : decode jdk_52_method_14_code 32 = .ok (.aload_n 3, 1) := by decide +kernel
theorem d10_33 : decode jdk_52_method_14_code 33 = .ok (.areturn, 1) := by decide +kernel
theorem pn_10 : plainName "java/lang/StringUTF16" = true := by first | (simp [plainName, overriddenIn]; done) | decide +kernel
theorem ef_10 (m : MethodId) (x0 : Addr) (x1 : Int32) (x2 : Int32) : entryFrame m #[(.ref x0), (.int x1), (.int x2)] 5 = mkF m 0 #[.val (.ref x0), .val (.int x1), .val (.int x2), .unset, .unset] [] := by first | (simp [entryFrame, mkF, argsToLocals, Value.category]; done) | rfl
def Q10 (Z : State) (r0 : Addr) (ka : ClassId) (ua ub uc ud ue : Int32) (cs : Int32) (fm : Value) (h0 : Heap) (n0 : Nat) (v : Option Value) (h : Heap) (L : List Loc) : Prop := ∃ ra kx, v = some (.ref ra) ∧ Fr n0 L ∧ Keep h0 h [] ∧ h0.size ≤ ra ∧ n0 ≤ ra ∧ Arv Z h ra kx .byte (10 : Int32) [(.int (own_lo ua)), (.int (own_hi ua)), (.int (own_lo ub)), (.int (own_hi ub)), (.int (own_lo uc)), (.int (own_hi uc)), (.int (own_lo ud)), (.int (own_hi ud)), (.int (own_lo ue)), (.int (own_hi ue))] (.int (0 : Int32))
set_option maxRecDepth 65536 in
set_option maxHeartbeats 40000000 in
theorem rm10 (l : Launch) (Z : State) (a0 : Array Value) (hw : ∀ d ∈ tables_1, d.before a0 Z = true) (ws : List Jvm.Cond) (r0 : Addr) (ka : ClassId) (ua ub uc ud ue : Int32) (cs : Int32) (fm : Value) (h0 : Heap) (n0 : Nat) (Z0 : n0 ≤ h0.size) (V : Arv Z h0 r0 ka .char (5 : Int32) [(.int ua), (.int ub), (.int uc), (.int ud), (.int ue)] (.int (0 : Int32))) (O0 : Old Z n0 h0) (SC : Sta Z Z.heap "java/lang/String" "COMPACT_STRINGS" "Z" (.int cs)) (hcs : ¬ cs = (0 : Int32)) (SF : Sta Z Z.heap "jdk/internal/util/Preconditions" "SIOOBE_FORMATTER" "Ljava/util/function/BiFunction;" fm) (hfm : fm.isRef = true) (SA : Sta Z Z.heap "java/lang/StringUTF16" "$assertionsDisabled" "Z" (.int (1 : Int32))) (SH : Sta Z Z.heap "java/lang/StringUTF16" "HI_BYTE_SHIFT" "I" (.int (0 : Int32))) (SL : Sta Z Z.heap "java/lang/StringUTF16" "LO_BYTE_SHIFT" "I" (.int (8 : Int32))) :
    MetFree l yy_9 (head1 (Jvm.Cond.code yy_9 jdk_52_method_14_code 5 (some (.array .byte)) :: ws) ({ frames := 2, cells := 1, slots := 10, locals := 24 } : Room)) (fun a U => a = #[(.ref r0), (.int (0 : Int32)), (.int (5 : Int32))] ∧ Z.Warmed39 U.vm ∧ U.heap = h0) (fun _ _ _ _ _ => True) (fun _ U o U' => ∃ v L, o = .returned v ∧ Q10 Z r0 ka ua ub uc ud ue cs fm h0 n0 v U'.heap L ∧ FrameEnd U o U' L ({ frames := 2, cells := 1, slots := 10, locals := 24 } : Room).cells ({ frames := 2, cells := 1, slots := 10, locals := 24 } : Room).slots) := by
  refine MetFree.of_bodySF (plainFor_of_name pn_10) hisR ?_
  intro p e s m args below meth c s₁ Bd hml0 hP hK
  obtain ⟨rfl, hZ, hh⟩ := hP
  have hx := Bd.exec
  have hby := Bd.bytes
  have hml : c.maxLocals = 5 := hml0
  have hown : s.vm.findClass "java/lang/StringUTF16" = some m.cls := findClass_of_methodNamed Bd.named
  have hnm := (name_of_methodNamed Bd.named Bd.method).1
  have X0 : Stand p l e ({ frames := 2, cells := 1, slots := 10, locals := 24 } : Room) s m #[(.ref r0), (.int (0 : Int32)), (.int (5 : Int32))] below meth c s₁ [] 0 0 := Stand.of_body Bd
  have e0 : s₁.heap = h0 := by rw [← hh, Bd.state]; rfl
  have N0 := Fr.nil n0
  have pre0 : ∀ t, Steps p.tables e below (s₁.setTop (mkF m 0 #[oa r0, oi 0, oi 5, .unset, .unset] [])) t → Steps p.tables e below (s₁.setTop (entryFrame m #[(.ref r0), (.int (0 : Int32)), (.int (5 : Int32))] 5)) t := fun t k => castTop (ef_10 m r0 (0 : Int32) (5 : Int32)) k
  have c1 : own_G p e below s₁ (mkF m 1 #[oa r0, oi 0, oi 5, .unset, .unset] [(.int (5 : Int32))]) (mkF m 0 #[oa r0, oi 0, oi 5, .unset, .unset] []) := by
    intro t kt
    show oS s₁ (mkF m 0 #[oa r0, oi 0, oi 5, .unset, .unset] []) _
    refine XS.iloadN X0.here hx rfl (hb hby d10_0) rfl ?_
    exact kt
  obtain ⟨_, _, ⟨T2, L2, k2, n2⟩, -, X2, ⟨Lc2, hQ2, l2, y2, z2⟩, st2⟩ := Jvm.LawKit.callS X0 hx (y := yy_7) hown (mvT hZ (own_t hw 53 rfl)) (mvT hZ (own_t hw 54 rfl)) (mvT hZ (own_t hw 25 rfl)) (mvT hZ (own_t hw 55 rfl)) (by decide) (backOf (W := 0) (rm11 l Z a0 hw []   h0 n0 Z0 ) hZ (own_t hw 55 rfl) (own_t hw 25 rfl) (by decide) (by decide)) (g := (mkF m 1 #[oa r0, oi 0, oi 5, .unset, .unset] [(.int (5 : Int32))])) rfl (by rw [hml]; rfl) (argsL := [(.int (5 : Int32))]) (rest := []) (lenOf pd_5 rfl) rfl (by show 2 * 0 + _ ≤ _; exact Nat.le_of_eq rfl) (hb hby d10_1) (fun _ _ => ⟨rfl, e0, (by decide : 0 + 1 ≤ _), (by decide : 0 + 10 ≤ _)⟩)
  dsimp only [Pt.U, Pt.locs, Pt.cells, Pt.slots] at X2 l2 y2 z2 st2 hQ2
  subst l2 y2 z2
  obtain ⟨ra2, kx2, rfl, N2q, Kq2, szq2, g_ra2, Vq2⟩ := hQ2
  have N2 := Fr.app N0 N2q
  have lt_r0_2 := V.lt
  have sz_ra2 : h0.size ≤ ra2 := Nat.le_trans (Keep.refl h0 []).1 szq2
  have f3 := (V.keep Kq2 nin0)
  have Vc4 := f3
  obtain ⟨cl4, Ar4, qk4, S4, M4, H4, G4⟩ := Vc4
  have hin4 : ¬ ((0 : Int32) < 0 ∨ cl4.slots.size ≤ ((0 : Int32)).toNatClampNeg) := inb_of S4 ⟨by decide, by decide⟩
  have hat4 : cl4.slots[((0 : Int32)).toNatClampNeg]? = some (.int ua) := H4.at hin4 rfl
  have c5 : own_G p e below T2 (mkF m 20 #[oa r0, oi 0, oi 5, oa ra2, oi 0] [(.int ua), (.int (0 : Int32)), (.ref ra2)]) (mkF m 4 #[oa r0, oi 0, oi 5, .unset, .unset] [(.ref ra2)]) := by
    intro t kt
    show oS T2 (mkF m 4 #[oa r0, oi 0, oi 5, .unset, .unset] [(.ref ra2)]) _
    refine XS.astoreN X2.here hx rfl (hb hby d10_4) rfl rfl (l' := #[oa r0, oi 0, oi 5, oa ra2, .unset]) rfl ?_
    show oS T2 (mkF m 5 #[oa r0, oi 0, oi 5, oa ra2, .unset] []) _
    refine XS.iconst X2.here hx rfl (hb hby d10_5) ?_
    show oS T2 (mkF m 6 #[oa r0, oi 0, oi 5, oa ra2, .unset] [(.int (0 : Int32))]) _
    refine XS.istore X2.here hx rfl (hb hby d10_6) rfl (l' := #[oa r0, oi 0, oi 5, oa ra2, oi 0]) rfl ?_
    show oS T2 (mkF m 8 #[oa r0, oi 0, oi 5, oa ra2, oi 0] []) _
    refine XS.iload X2.here hx rfl (hb hby d10_8) rfl ?_
    show oS T2 (mkF m 10 #[oa r0, oi 0, oi 5, oa ra2, oi 0] [(.int (0 : Int32))]) _
    refine XS.iloadN X2.here hx rfl (hb hby d10_10) rfl ?_
    show oS T2 (mkF m 11 #[oa r0, oi 0, oi 5, oa ra2, oi 0] [(.int (5 : Int32)), (.int (0 : Int32))]) _
    refine XS.icmpNo X2.here hx rfl (hb hby d10_11) rfl (tlt (by decide : (0 : Int32) < (5 : Int32))).2.1 ?_
    show oS T2 (mkF m 14 #[oa r0, oi 0, oi 5, oa ra2, oi 0] []) _
    refine XS.aloadN X2.here hx rfl (hb hby d10_14) rfl rfl ?_
    show oS T2 (mkF m 15 #[oa r0, oi 0, oi 5, oa ra2, oi 0] [(.ref ra2)]) _
    refine XS.iload X2.here hx rfl (hb hby d10_15) rfl ?_
    show oS T2 (mkF m 17 #[oa r0, oi 0, oi 5, oa ra2, oi 0] [(.int (0 : Int32)), (.ref ra2)]) _
    refine XS.aloadN X2.here hx rfl (hb hby d10_17) rfl rfl ?_
    show oS T2 (mkF m 18 #[oa r0, oi 0, oi 5, oa ra2, oi 0] [(.ref r0), (.int (0 : Int32)), (.ref ra2)]) _
    refine XS.iloadN X2.here hx rfl (hb hby d10_18) rfl ?_
    show oS T2 (mkF m 19 #[oa r0, oi 0, oi 5, oa ra2, oi 0] [(.int (0 : Int32)), (.ref r0), (.int (0 : Int32)), (.ref ra2)]) _
    refine X2.caload hx (j := (0 : Int32)) (v := (.int ua)) Ar4.1 (State.isArrayOf_alike hZ.alike Ar4.2.1) Ar4.2.2 hin4 hat4 (g := (mkF m 19 #[oa r0, oi 0, oi 5, oa ra2, oi 0] [(.int (0 : Int32)), (.ref r0), (.int (0 : Int32)), (.ref ra2)])) rfl rfl (hb hby d10_19) _ ?_
    exact kt
  have f6 := (Nat.le_trans Z0 Kq2.1)
  have f7 := (O0.keep Kq2 all0)
  obtain ⟨_, _, ⟨T8, L8, k8, n8⟩, -, X8, ⟨Lc8, hQ8, l8, y8, z8⟩, st8⟩ := Jvm.LawKit.callS X2 hx (y := yy_8) hown (mvT hZ (own_t hw 60 rfl)) (mvT hZ (own_t hw 61 rfl)) (mvT hZ (own_t hw 25 rfl)) (mvT hZ (own_t hw 62 rfl)) (by decide) (backOf (W := 0) (rm13_0 l Z a0 hw []  ra2 ua kx2 (.int (0 : Int32)) (.int (0 : Int32)) (.int (0 : Int32)) (.int (0 : Int32)) (.int (0 : Int32)) (.int (0 : Int32)) (.int (0 : Int32)) (.int (0 : Int32)) (.int (0 : Int32)) (.int (0 : Int32)) T2.heap n0 f6 Vq2 g_ra2 (SA.ext f7.2) (SH.ext f7.2) (SL.ext f7.2)) hZ (own_t hw 62 rfl) (own_t hw 25 rfl) (by decide) (by decide)) (g := (mkF m 20 #[oa r0, oi 0, oi 5, oa ra2, oi 0] [(.int ua), (.int (0 : Int32)), (.ref ra2)])) rfl (by rw [hml]; rfl) (argsL := [(.ref ra2), (.int (0 : Int32)), (.int ua)]) (rest := []) (lenOf pd_6 rfl) rfl (by show 2 * 0 + _ ≤ _; exact Nat.le_of_eq rfl) (hb hby d10_20) (fun _ _ => ⟨rfl, rfl, (by decide : 1 + 0 ≤ _), (by decide : 10 + 0 ≤ _)⟩)
  dsimp only [Pt.U, Pt.locs, Pt.cells, Pt.slots] at X8 l8 y8 z8 st8 hQ8
  subst l8 y8 z8
  obtain ⟨rfl, N8q, Kq8, Vq8⟩ := hQ8
  have N8 := Fr.app N2 N8q
  have c9 : own_G p e below T8 (mkF m 19 #[oa r0, oi ((0 : Int32) + (1 : Int32)), oi 5, oa ra2, oi ((0 : Int32) + (1 : Int32))] [(.int ((0 : Int32) + (1 : Int32))), (.ref r0), (.int ((0 : Int32) + (1 : Int32))), (.ref ra2)]) (mkF m 23 #[oa r0, oi 0, oi 5, oa ra2, oi 0] []) := by
    intro t kt
    show oS T8 (mkF m 23 #[oa r0, oi 0, oi 5, oa ra2, oi 0] []) _
    refine XS.iinc X8.here hx rfl (hb hby d10_23) rfl (l' := #[oa r0, oi ((0 : Int32) + (1 : Int32)), oi 5, oa ra2, oi 0]) rfl ?_
    show oS T8 (mkF m 26 #[oa r0, oi ((0 : Int32) + (1 : Int32)), oi 5, oa ra2, oi 0] []) _
    refine XS.iinc X8.here hx rfl (hb hby d10_26) rfl (l' := #[oa r0, oi ((0 : Int32) + (1 : Int32)), oi 5, oa ra2, oi ((0 : Int32) + (1 : Int32))]) rfl ?_
    show oS T8 (mkF m 29 #[oa r0, oi ((0 : Int32) + (1 : Int32)), oi 5, oa ra2, oi ((0 : Int32) + (1 : Int32))] []) _
    refine XS.goto X8.here hx rfl (pc0 := 29) (pc' := 8) rfl (hb hby d10_29) (by decide) (by decide) ?_
    show oS T8 (mkF m 8 #[oa r0, oi ((0 : Int32) + (1 : Int32)), oi 5, oa ra2, oi ((0 : Int32) + (1 : Int32))] []) _
    refine XS.iload X8.here hx rfl (hb hby d10_8) rfl ?_
    show oS T8 (mkF m 10 #[oa r0, oi ((0 : Int32) + (1 : Int32)), oi 5, oa ra2, oi ((0 : Int32) + (1 : Int32))] [(.int ((0 : Int32) + (1 : Int32)))]) _
    refine XS.iloadN X8.here hx rfl (hb hby d10_10) rfl ?_
    show oS T8 (mkF m 11 #[oa r0, oi ((0 : Int32) + (1 : Int32)), oi 5, oa ra2, oi ((0 : Int32) + (1 : Int32))] [(.int (5 : Int32)), (.int ((0 : Int32) + (1 : Int32)))]) _
    refine XS.icmpNo X8.here hx rfl (hb hby d10_11) rfl (tlt (by decide : ((0 : Int32) + (1 : Int32)) < (5 : Int32))).2.1 ?_
    show oS T8 (mkF m 14 #[oa r0, oi ((0 : Int32) + (1 : Int32)), oi 5, oa ra2, oi ((0 : Int32) + (1 : Int32))] []) _
    refine XS.aloadN X8.here hx rfl (hb hby d10_14) rfl rfl ?_
    show oS T8 (mkF m 15 #[oa r0, oi ((0 : Int32) + (1 : Int32)), oi 5, oa ra2, oi ((0 : Int32) + (1 : Int32))] [(.ref ra2)]) _
    refine XS.iload X8.here hx rfl (hb hby d10_15) rfl ?_
    show oS T8 (mkF m 17 #[oa r0, oi ((0 : Int32) + (1 : Int32)), oi 5, oa ra2, oi ((0 : Int32) + (1 : Int32))] [(.int ((0 : Int32) + (1 : Int32))), (.ref ra2)]) _
    refine XS.aloadN X8.here hx rfl (hb hby d10_17) rfl rfl ?_
    show oS T8 (mkF m 18 #[oa r0, oi ((0 : Int32) + (1 : Int32)), oi 5, oa ra2, oi ((0 : Int32) + (1 : Int32))] [(.ref r0), (.int ((0 : Int32) + (1 : Int32))), (.ref ra2)]) _
    refine XS.iloadN X8.here hx rfl (hb hby d10_18) rfl ?_
    exact kt
  have c10 : own_G p e below T8 (mkF m 19 #[oa r0, oi 1, oi 5, oa ra2, oi 1] [(.int (1 : Int32)), (.ref r0), (.int (1 : Int32)), (.ref ra2)]) (mkF m 19 #[oa r0, oi ((0 : Int32) + (1 : Int32)), oi 5, oa ra2, oi ((0 : Int32) + (1 : Int32))] [(.int ((0 : Int32) + (1 : Int32))), (.ref r0), (.int ((0 : Int32) + (1 : Int32))), (.ref ra2)]) := fun t kt => castTop (congrArg (fun zv => (mkF m 19 #[oa r0, oi zv, oi 5, oa ra2, oi zv] [(.int zv), (.ref r0), (.int zv), (.ref ra2)])) (show ((0 : Int32) + (1 : Int32)) = (1 : Int32) from by decide)) kt
  have f11 := (f3.keep Kq8 (ninS (Nat.ne_of_lt (Nat.lt_of_lt_of_le lt_r0_2 szq2)) nin0))
  have Vc12 := f11
  obtain ⟨cl12, Ar12, qk12, S12, M12, H12, G12⟩ := Vc12
  have hin12 : ¬ ((1 : Int32) < 0 ∨ cl12.slots.size ≤ ((1 : Int32)).toNatClampNeg) := inb_of S12 ⟨by decide, by decide⟩
  have hat12 : cl12.slots[((1 : Int32)).toNatClampNeg]? = some (.int ub) := H12.at hin12 rfl
  have c13 : own_G p e below T8 (mkF m 20 #[oa r0, oi 1, oi 5, oa ra2, oi 1] [(.int ub), (.int (1 : Int32)), (.ref ra2)]) (mkF m 19 #[oa r0, oi 1, oi 5, oa ra2, oi 1] [(.int (1 : Int32)), (.ref r0), (.int (1 : Int32)), (.ref ra2)]) := by
    intro t kt
    show oS T8 (mkF m 19 #[oa r0, oi 1, oi 5, oa ra2, oi 1] [(.int (1 : Int32)), (.ref r0), (.int (1 : Int32)), (.ref ra2)]) _
    refine X8.caload hx (j := (1 : Int32)) (v := (.int ub)) Ar12.1 (State.isArrayOf_alike hZ.alike Ar12.2.1) Ar12.2.2 hin12 hat12 (g := (mkF m 19 #[oa r0, oi 1, oi 5, oa ra2, oi 1] [(.int (1 : Int32)), (.ref r0), (.int (1 : Int32)), (.ref ra2)])) rfl rfl (hb hby d10_19) _ ?_
    exact kt
  have f14 := (Nat.le_trans f6 Kq8.1)
  have f15 := (f7.keep Kq8 (allS g_ra2 all0))
  obtain ⟨_, _, ⟨T16, L16, k16, n16⟩, -, X16, ⟨Lc16, hQ16, l16, y16, z16⟩, st16⟩ := Jvm.LawKit.callS X8 hx (y := yy_8) hown (mvT hZ (own_t hw 60 rfl)) (mvT hZ (own_t hw 61 rfl)) (mvT hZ (own_t hw 25 rfl)) (mvT hZ (own_t hw 62 rfl)) (by decide) (backOf (W := 0) (rm13_1 l Z a0 hw []  ra2 ub kx2 (.int (own_lo ua)) (.int (own_hi ua)) (.int (0 : Int32)) (.int (0 : Int32)) (.int (0 : Int32)) (.int (0 : Int32)) (.int (0 : Int32)) (.int (0 : Int32)) (.int (0 : Int32)) (.int (0 : Int32)) T8.heap n0 f14 Vq8 g_ra2 (SA.ext f15.2) (SH.ext f15.2) (SL.ext f15.2)) hZ (own_t hw 62 rfl) (own_t hw 25 rfl) (by decide) (by decide)) (g := (mkF m 20 #[oa r0, oi 1, oi 5, oa ra2, oi 1] [(.int ub), (.int (1 : Int32)), (.ref ra2)])) rfl (by rw [hml]; rfl) (argsL := [(.ref ra2), (.int (1 : Int32)), (.int ub)]) (rest := []) (lenOf pd_6 rfl) rfl (by show 2 * 0 + _ ≤ _; exact Nat.le_of_eq rfl) (hb hby d10_20) (fun _ _ => ⟨rfl, rfl, (by decide : 1 + 0 ≤ _), (by decide : 10 + 0 ≤ _)⟩)
  dsimp only [Pt.U, Pt.locs, Pt.cells, Pt.slots] at X16 l16 y16 z16 st16 hQ16
  subst l16 y16 z16
  obtain ⟨rfl, N16q, Kq16, Vq16⟩ := hQ16
  have N16 := Fr.app N8 N16q
  have c17 : own_G p e below T16 (mkF m 19 #[oa r0, oi ((1 : Int32) + (1 : Int32)), oi 5, oa ra2, oi ((1 : Int32) + (1 : Int32))] [(.int ((1 : Int32) + (1 : Int32))), (.ref r0), (.int ((1 : Int32) + (1 : Int32))), (.ref ra2)]) (mkF m 23 #[oa r0, oi 1, oi 5, oa ra2, oi 1] []) := by
    intro t kt
    show oS T16 (mkF m 23 #[oa r0, oi 1, oi 5, oa ra2, oi 1] []) _
    refine XS.iinc X16.here hx rfl (hb hby d10_23) rfl (l' := #[oa r0, oi ((1 : Int32) + (1 : Int32)), oi 5, oa ra2, oi 1]) rfl ?_
    show oS T16 (mkF m 26 #[oa r0, oi ((1 : Int32) + (1 : Int32)), oi 5, oa ra2, oi 1] []) _
    refine XS.iinc X16.here hx rfl (hb hby d10_26) rfl (l' := #[oa r0, oi ((1 : Int32) + (1 : Int32)), oi 5, oa ra2, oi ((1 : Int32) + (1 : Int32))]) rfl ?_
    show oS T16 (mkF m 29 #[oa r0, oi ((1 : Int32) + (1 : Int32)), oi 5, oa ra2, oi ((1 : Int32) + (1 : Int32))] []) _
    refine XS.goto X16.here hx rfl (pc0 := 29) (pc' := 8) rfl (hb hby d10_29) (by decide) (by decide) ?_
    show oS T16 (mkF m 8 #[oa r0, oi ((1 : Int32) + (1 : Int32)), oi 5, oa ra2, oi ((1 : Int32) + (1 : Int32))] []) _
    refine XS.iload X16.here hx rfl (hb hby d10_8) rfl ?_
    show oS T16 (mkF m 10 #[oa r0, oi ((1 : Int32) + (1 : Int32)), oi 5, oa ra2, oi ((1 : Int32) + (1 : Int32))] [(.int ((1 : Int32) + (1 : Int32)))]) _
    refine XS.iloadN X16.here hx rfl (hb hby d10_10) rfl ?_
    show oS T16 (mkF m 11 #[oa r0, oi ((1 : Int32) + (1 : Int32)), oi 5, oa ra2, oi ((1 : Int32) + (1 : Int32))] [(.int (5 : Int32)), (.int ((1 : Int32) + (1 : Int32)))]) _
    refine XS.icmpNo X16.here hx rfl (hb hby d10_11) rfl (tlt (by decide : ((1 : Int32) + (1 : Int32)) < (5 : Int32))).2.1 ?_
    show oS T16 (mkF m 14 #[oa r0, oi ((1 : Int32) + (1 : Int32)), oi 5, oa ra2, oi ((1 : Int32) + (1 : Int32))] []) _
    refine XS.aloadN X16.here hx rfl (hb hby d10_14) rfl rfl ?_
    show oS T16 (mkF m 15 #[oa r0, oi ((1 : Int32) + (1 : Int32)), oi 5, oa ra2, oi ((1 : Int32) + (1 : Int32))] [(.ref ra2)]) _
    refine XS.iload X16.here hx rfl (hb hby d10_15) rfl ?_
    show oS T16 (mkF m 17 #[oa r0, oi ((1 : Int32) + (1 : Int32)), oi 5, oa ra2, oi ((1 : Int32) + (1 : Int32))] [(.int ((1 : Int32) + (1 : Int32))), (.ref ra2)]) _
    refine XS.aloadN X16.here hx rfl (hb hby d10_17) rfl rfl ?_
    show oS T16 (mkF m 18 #[oa r0, oi ((1 : Int32) + (1 : Int32)), oi 5, oa ra2, oi ((1 : Int32) + (1 : Int32))] [(.ref r0), (.int ((1 : Int32) + (1 : Int32))), (.ref ra2)]) _
    refine XS.iloadN X16.here hx rfl (hb hby d10_18) rfl ?_
    exact kt
  have c18 : own_G p e below T16 (mkF m 19 #[oa r0, oi 2, oi 5, oa ra2, oi 2] [(.int (2 : Int32)), (.ref r0), (.int (2 : Int32)), (.ref ra2)]) (mkF m 19 #[oa r0, oi ((1 : Int32) + (1 : Int32)), oi 5, oa ra2, oi ((1 : Int32) + (1 : Int32))] [(.int ((1 : Int32) + (1 : Int32))), (.ref r0), (.int ((1 : Int32) + (1 : Int32))), (.ref ra2)]) := fun t kt => castTop (congrArg (fun zv => (mkF m 19 #[oa r0, oi zv, oi 5, oa ra2, oi zv] [(.int zv), (.ref r0), (.int zv), (.ref ra2)])) (show ((1 : Int32) + (1 : Int32)) = (2 : Int32) from by decide)) kt
  have f19 := (f11.keep Kq16 (ninS (Nat.ne_of_lt (Nat.lt_of_lt_of_le lt_r0_2 szq2)) nin0))
  have Vc20 := f19
  obtain ⟨cl20, Ar20, qk20, S20, M20, H20, G20⟩ := Vc20
  have hin20 : ¬ ((2 : Int32) < 0 ∨ cl20.slots.size ≤ ((2 : Int32)).toNatClampNeg) := inb_of S20 ⟨by decide, by decide⟩
  have hat20 : cl20.slots[((2 : Int32)).toNatClampNeg]? = some (.int uc) := H20.at hin20 rfl
  have c21 : own_G p e below T16 (mkF m 20 #[oa r0, oi 2, oi 5, oa ra2, oi 2] [(.int uc), (.int (2 : Int32)), (.ref ra2)]) (mkF m 19 #[oa r0, oi 2, oi 5, oa ra2, oi 2] [(.int (2 : Int32)), (.ref r0), (.int (2 : Int32)), (.ref ra2)]) := by
    intro t kt
    show oS T16 (mkF m 19 #[oa r0, oi 2, oi 5, oa ra2, oi 2] [(.int (2 : Int32)), (.ref r0), (.int (2 : Int32)), (.ref ra2)]) _
    refine X16.caload hx (j := (2 : Int32)) (v := (.int uc)) Ar20.1 (State.isArrayOf_alike hZ.alike Ar20.2.1) Ar20.2.2 hin20 hat20 (g := (mkF m 19 #[oa r0, oi 2, oi 5, oa ra2, oi 2] [(.int (2 : Int32)), (.ref r0), (.int (2 : Int32)), (.ref ra2)])) rfl rfl (hb hby d10_19) _ ?_
    exact kt
  have f22 := (Nat.le_trans f14 Kq16.1)
  have f23 := (f15.keep Kq16 (allS g_ra2 all0))
  obtain ⟨_, _, ⟨T24, L24, k24, n24⟩, -, X24, ⟨Lc24, hQ24, l24, y24, z24⟩, st24⟩ := Jvm.LawKit.callS X16 hx (y := yy_8) hown (mvT hZ (own_t hw 60 rfl)) (mvT hZ (own_t hw 61 rfl)) (mvT hZ (own_t hw 25 rfl)) (mvT hZ (own_t hw 62 rfl)) (by decide) (backOf (W := 0) (rm13_2 l Z a0 hw []  ra2 uc kx2 (.int (own_lo ua)) (.int (own_hi ua)) (.int (own_lo ub)) (.int (own_hi ub)) (.int (0 : Int32)) (.int (0 : Int32)) (.int (0 : Int32)) (.int (0 : Int32)) (.int (0 : Int32)) (.int (0 : Int32)) T16.heap n0 f22 Vq16 g_ra2 (SA.ext f23.2) (SH.ext f23.2) (SL.ext f23.2)) hZ (own_t hw 62 rfl) (own_t hw 25 rfl) (by decide) (by decide)) (g := (mkF m 20 #[oa r0, oi 2, oi 5, oa ra2, oi 2] [(.int uc), (.int (2 : Int32)), (.ref ra2)])) rfl (by rw [hml]; rfl) (argsL := [(.ref ra2), (.int (2 : Int32)), (.int uc)]) (rest := []) (lenOf pd_6 rfl) rfl (by show 2 * 0 + _ ≤ _; exact Nat.le_of_eq rfl) (hb hby d10_20) (fun _ _ => ⟨rfl, rfl, (by decide : 1 + 0 ≤ _), (by decide : 10 + 0 ≤ _)⟩)
  dsimp only [Pt.U, Pt.locs, Pt.cells, Pt.slots] at X24 l24 y24 z24 st24 hQ24
  subst l24 y24 z24
  obtain ⟨rfl, N24q, Kq24, Vq24⟩ := hQ24
  have N24 := Fr.app N16 N24q
  have c25 : own_G p e below T24 (mkF m 19 #[oa r0, oi ((2 : Int32) + (1 : Int32)), oi 5, oa ra2, oi ((2 : Int32) + (1 : Int32))] [(.int ((2 : Int32) + (1 : Int32))), (.ref r0), (.int ((2 : Int32) + (1 : Int32))), (.ref ra2)]) (mkF m 23 #[oa r0, oi 2, oi 5, oa ra2, oi 2] []) := by
    intro t kt
    show oS T24 (mkF m 23 #[oa r0, oi 2, oi 5, oa ra2, oi 2] []) _
    refine XS.iinc X24.here hx rfl (hb hby d10_23) rfl (l' := #[oa r0, oi ((2 : Int32) + (1 : Int32)), oi 5, oa ra2, oi 2]) rfl ?_
    show oS T24 (mkF m 26 #[oa r0, oi ((2 : Int32) + (1 : Int32)), oi 5, oa ra2, oi 2] []) _
    refine XS.iinc X24.here hx rfl (hb hby d10_26) rfl (l' := #[oa r0, oi ((2 : Int32) + (1 : Int32)), oi 5, oa ra2, oi ((2 : Int32) + (1 : Int32))]) rfl ?_
    show oS T24 (mkF m 29 #[oa r0, oi ((2 : Int32) + (1 : Int32)), oi 5, oa ra2, oi ((2 : Int32) + (1 : Int32))] []) _
    refine XS.goto X24.here hx rfl (pc0 := 29) (pc' := 8) rfl (hb hby d10_29) (by decide) (by decide) ?_
    show oS T24 (mkF m 8 #[oa r0, oi ((2 : Int32) + (1 : Int32)), oi 5, oa ra2, oi ((2 : Int32) + (1 : Int32))] []) _
    refine XS.iload X24.here hx rfl (hb hby d10_8) rfl ?_
    show oS T24 (mkF m 10 #[oa r0, oi ((2 : Int32) + (1 : Int32)), oi 5, oa ra2, oi ((2 : Int32) + (1 : Int32))] [(.int ((2 : Int32) + (1 : Int32)))]) _
    refine XS.iloadN X24.here hx rfl (hb hby d10_10) rfl ?_
    show oS T24 (mkF m 11 #[oa r0, oi ((2 : Int32) + (1 : Int32)), oi 5, oa ra2, oi ((2 : Int32) + (1 : Int32))] [(.int (5 : Int32)), (.int ((2 : Int32) + (1 : Int32)))]) _
    refine XS.icmpNo X24.here hx rfl (hb hby d10_11) rfl (tlt (by decide : ((2 : Int32) + (1 : Int32)) < (5 : Int32))).2.1 ?_
    show oS T24 (mkF m 14 #[oa r0, oi ((2 : Int32) + (1 : Int32)), oi 5, oa ra2, oi ((2 : Int32) + (1 : Int32))] []) _
    refine XS.aloadN X24.here hx rfl (hb hby d10_14) rfl rfl ?_
    show oS T24 (mkF m 15 #[oa r0, oi ((2 : Int32) + (1 : Int32)), oi 5, oa ra2, oi ((2 : Int32) + (1 : Int32))] [(.ref ra2)]) _
    refine XS.iload X24.here hx rfl (hb hby d10_15) rfl ?_
    show oS T24 (mkF m 17 #[oa r0, oi ((2 : Int32) + (1 : Int32)), oi 5, oa ra2, oi ((2 : Int32) + (1 : Int32))] [(.int ((2 : Int32) + (1 : Int32))), (.ref ra2)]) _
    refine XS.aloadN X24.here hx rfl (hb hby d10_17) rfl rfl ?_
    show oS T24 (mkF m 18 #[oa r0, oi ((2 : Int32) + (1 : Int32)), oi 5, oa ra2, oi ((2 : Int32) + (1 : Int32))] [(.ref r0), (.int ((2 : Int32) + (1 : Int32))), (.ref ra2)]) _
    refine XS.iloadN X24.here hx rfl (hb hby d10_18) rfl ?_
    exact kt
  have c26 : own_G p e below T24 (mkF m 19 #[oa r0, oi 3, oi 5, oa ra2, oi 3] [(.int (3 : Int32)), (.ref r0), (.int (3 : Int32)), (.ref ra2)]) (mkF m 19 #[oa r0, oi ((2 : Int32) + (1 : Int32)), oi 5, oa ra2, oi ((2 : Int32) + (1 : Int32))] [(.int ((2 : Int32) + (1 : Int32))), (.ref r0), (.int ((2 : Int32) + (1 : Int32))), (.ref ra2)]) := fun t kt => castTop (congrArg (fun zv => (mkF m 19 #[oa r0, oi zv, oi 5, oa ra2, oi zv] [(.int zv), (.ref r0), (.int zv), (.ref ra2)])) (show ((2 : Int32) + (1 : Int32)) = (3 : Int32) from by decide)) kt
  have f27 := (f19.keep Kq24 (ninS (Nat.ne_of_lt (Nat.lt_of_lt_of_le lt_r0_2 szq2)) nin0))
  have Vc28 := f27
  obtain ⟨cl28, Ar28, qk28, S28, M28, H28, G28⟩ := Vc28
  have hin28 : ¬ ((3 : Int32) < 0 ∨ cl28.slots.size ≤ ((3 : Int32)).toNatClampNeg) := inb_of S28 ⟨by decide, by decide⟩
  have hat28 : cl28.slots[((3 : Int32)).toNatClampNeg]? = some (.int ud) := H28.at hin28 rfl
  have c29 : own_G p e below T24 (mkF m 20 #[oa r0, oi 3, oi 5, oa ra2, oi 3] [(.int ud), (.int (3 : Int32)), (.ref ra2)]) (mkF m 19 #[oa r0, oi 3, oi 5, oa ra2, oi 3] [(.int (3 : Int32)), (.ref r0), (.int (3 : Int32)), (.ref ra2)]) := by
    intro t kt
    show oS T24 (mkF m 19 #[oa r0, oi 3, oi 5, oa ra2, oi 3] [(.int (3 : Int32)), (.ref r0), (.int (3 : Int32)), (.ref ra2)]) _
    refine X24.caload hx (j := (3 : Int32)) (v := (.int ud)) Ar28.1 (State.isArrayOf_alike hZ.alike Ar28.2.1) Ar28.2.2 hin28 hat28 (g := (mkF m 19 #[oa r0, oi 3, oi 5, oa ra2, oi 3] [(.int (3 : Int32)), (.ref r0), (.int (3 : Int32)), (.ref ra2)])) rfl rfl (hb hby d10_19) _ ?_
    exact kt
  have f30 := (Nat.le_trans f22 Kq24.1)
  have f31 := (f23.keep Kq24 (allS g_ra2 all0))
  obtain ⟨_, _, ⟨T32, L32, k32, n32⟩, -, X32, ⟨Lc32, hQ32, l32, y32, z32⟩, st32⟩ := Jvm.LawKit.callS X24 hx (y := yy_8) hown (mvT hZ (own_t hw 60 rfl)) (mvT hZ (own_t hw 61 rfl)) (mvT hZ (own_t hw 25 rfl)) (mvT hZ (own_t hw 62 rfl)) (by decide) (backOf (W := 0) (rm13_3 l Z a0 hw []  ra2 ud kx2 (.int (own_lo ua)) (.int (own_hi ua)) (.int (own_lo ub)) (.int (own_hi ub)) (.int (own_lo uc)) (.int (own_hi uc)) (.int (0 : Int32)) (.int (0 : Int32)) (.int (0 : Int32)) (.int (0 : Int32)) T24.heap n0 f30 Vq24 g_ra2 (SA.ext f31.2) (SH.ext f31.2) (SL.ext f31.2)) hZ (own_t hw 62 rfl) (own_t hw 25 rfl) (by decide) (by decide)) (g := (mkF m 20 #[oa r0, oi 3, oi 5, oa ra2, oi 3] [(.int ud), (.int (3 : Int32)), (.ref ra2)])) rfl (by rw [hml]; rfl) (argsL := [(.ref ra2), (.int (3 : Int32)), (.int ud)]) (rest := []) (lenOf pd_6 rfl) rfl (by show 2 * 0 + _ ≤ _; exact Nat.le_of_eq rfl) (hb hby d10_20) (fun _ _ => ⟨rfl, rfl, (by decide : 1 + 0 ≤ _), (by decide : 10 + 0 ≤ _)⟩)
  dsimp only [Pt.U, Pt.locs, Pt.cells, Pt.slots] at X32 l32 y32 z32 st32 hQ32
  subst l32 y32 z32
  obtain ⟨rfl, N32q, Kq32, Vq32⟩ := hQ32
  have N32 := Fr.app N24 N32q
  have c33 : own_G p e below T32 (mkF m 19 #[oa r0, oi ((3 : Int32) + (1 : Int32)), oi 5, oa ra2, oi ((3 : Int32) + (1 : Int32))] [(.int ((3 : Int32) + (1 : Int32))), (.ref r0), (.int ((3 : Int32) + (1 : Int32))), (.ref ra2)]) (mkF m 23 #[oa r0, oi 3, oi 5, oa ra2, oi 3] []) := by
    intro t kt
    show oS T32 (mkF m 23 #[oa r0, oi 3, oi 5, oa ra2, oi 3] []) _
    refine XS.iinc X32.here hx rfl (hb hby d10_23) rfl (l' := #[oa r0, oi ((3 : Int32) + (1 : Int32)), oi 5, oa ra2, oi 3]) rfl ?_
    show oS T32 (mkF m 26 #[oa r0, oi ((3 : Int32) + (1 : Int32)), oi 5, oa ra2, oi 3] []) _
    refine XS.iinc X32.here hx rfl (hb hby d10_26) rfl (l' := #[oa r0, oi ((3 : Int32) + (1 : Int32)), oi 5, oa ra2, oi ((3 : Int32) + (1 : Int32))]) rfl ?_
    show oS T32 (mkF m 29 #[oa r0, oi ((3 : Int32) + (1 : Int32)), oi 5, oa ra2, oi ((3 : Int32) + (1 : Int32))] []) _
    refine XS.goto X32.here hx rfl (pc0 := 29) (pc' := 8) rfl (hb hby d10_29) (by decide) (by decide) ?_
    show oS T32 (mkF m 8 #[oa r0, oi ((3 : Int32) + (1 : Int32)), oi 5, oa ra2, oi ((3 : Int32) + (1 : Int32))] []) _
    refine XS.iload X32.here hx rfl (hb hby d10_8) rfl ?_
    show oS T32 (mkF m 10 #[oa r0, oi ((3 : Int32) + (1 : Int32)), oi 5, oa ra2, oi ((3 : Int32) + (1 : Int32))] [(.int ((3 : Int32) + (1 : Int32)))]) _
    refine XS.iloadN X32.here hx rfl (hb hby d10_10) rfl ?_
    show oS T32 (mkF m 11 #[oa r0, oi ((3 : Int32) + (1 : Int32)), oi 5, oa ra2, oi ((3 : Int32) + (1 : Int32))] [(.int (5 : Int32)), (.int ((3 : Int32) + (1 : Int32)))]) _
    refine XS.icmpNo X32.here hx rfl (hb hby d10_11) rfl (tlt (by decide : ((3 : Int32) + (1 : Int32)) < (5 : Int32))).2.1 ?_
    show oS T32 (mkF m 14 #[oa r0, oi ((3 : Int32) + (1 : Int32)), oi 5, oa ra2, oi ((3 : Int32) + (1 : Int32))] []) _
    refine XS.aloadN X32.here hx rfl (hb hby d10_14) rfl rfl ?_
    show oS T32 (mkF m 15 #[oa r0, oi ((3 : Int32) + (1 : Int32)), oi 5, oa ra2, oi ((3 : Int32) + (1 : Int32))] [(.ref ra2)]) _
    refine XS.iload X32.here hx rfl (hb hby d10_15) rfl ?_
    show oS T32 (mkF m 17 #[oa r0, oi ((3 : Int32) + (1 : Int32)), oi 5, oa ra2, oi ((3 : Int32) + (1 : Int32))] [(.int ((3 : Int32) + (1 : Int32))), (.ref ra2)]) _
    refine XS.aloadN X32.here hx rfl (hb hby d10_17) rfl rfl ?_
    show oS T32 (mkF m 18 #[oa r0, oi ((3 : Int32) + (1 : Int32)), oi 5, oa ra2, oi ((3 : Int32) + (1 : Int32))] [(.ref r0), (.int ((3 : Int32) + (1 : Int32))), (.ref ra2)]) _
    refine XS.iloadN X32.here hx rfl (hb hby d10_18) rfl ?_
    exact kt
  have c34 : own_G p e below T32 (mkF m 19 #[oa r0, oi 4, oi 5, oa ra2, oi 4] [(.int (4 : Int32)), (.ref r0), (.int (4 : Int32)), (.ref ra2)]) (mkF m 19 #[oa r0, oi ((3 : Int32) + (1 : Int32)), oi 5, oa ra2, oi ((3 : Int32) + (1 : Int32))] [(.int ((3 : Int32) + (1 : Int32))), (.ref r0), (.int ((3 : Int32) + (1 : Int32))), (.ref ra2)]) := fun t kt => castTop (congrArg (fun zv => (mkF m 19 #[oa r0, oi zv, oi 5, oa ra2, oi zv] [(.int zv), (.ref r0), (.int zv), (.ref ra2)])) (show ((3 : Int32) + (1 : Int32)) = (4 : Int32) from by decide)) kt
  have f35 := (f27.keep Kq32 (ninS (Nat.ne_of_lt (Nat.lt_of_lt_of_le lt_r0_2 szq2)) nin0))
  have Vc36 := f35
  obtain ⟨cl36, Ar36, qk36, S36, M36, H36, G36⟩ := Vc36
  have hin36 : ¬ ((4 : Int32) < 0 ∨ cl36.slots.size ≤ ((4 : Int32)).toNatClampNeg) := inb_of S36 ⟨by decide, by decide⟩
  have hat36 : cl36.slots[((4 : Int32)).toNatClampNeg]? = some (.int ue) := H36.at hin36 rfl
  have c37 : own_G p e below T32 (mkF m 20 #[oa r0, oi 4, oi 5, oa ra2, oi 4] [(.int ue), (.int (4 : Int32)), (.ref ra2)]) (mkF m 19 #[oa r0, oi 4, oi 5, oa ra2, oi 4] [(.int (4 : Int32)), (.ref r0), (.int (4 : Int32)), (.ref ra2)]) := by
    intro t kt
    show oS T32 (mkF m 19 #[oa r0, oi 4, oi 5, oa ra2, oi 4] [(.int (4 : Int32)), (.ref r0), (.int (4 : Int32)), (.ref ra2)]) _
    refine X32.caload hx (j := (4 : Int32)) (v := (.int ue)) Ar36.1 (State.isArrayOf_alike hZ.alike Ar36.2.1) Ar36.2.2 hin36 hat36 (g := (mkF m 19 #[oa r0, oi 4, oi 5, oa ra2, oi 4] [(.int (4 : Int32)), (.ref r0), (.int (4 : Int32)), (.ref ra2)])) rfl rfl (hb hby d10_19) _ ?_
    exact kt
  have f38 := (Nat.le_trans f30 Kq32.1)
  have f39 := (f31.keep Kq32 (allS g_ra2 all0))
  obtain ⟨_, _, ⟨T40, L40, k40, n40⟩, -, X40, ⟨Lc40, hQ40, l40, y40, z40⟩, st40⟩ := Jvm.LawKit.callS X32 hx (y := yy_8) hown (mvT hZ (own_t hw 60 rfl)) (mvT hZ (own_t hw 61 rfl)) (mvT hZ (own_t hw 25 rfl)) (mvT hZ (own_t hw 62 rfl)) (by decide) (backOf (W := 0) (rm13_4 l Z a0 hw []  ra2 ue kx2 (.int (own_lo ua)) (.int (own_hi ua)) (.int (own_lo ub)) (.int (own_hi ub)) (.int (own_lo uc)) (.int (own_hi uc)) (.int (own_lo ud)) (.int (own_hi ud)) (.int (0 : Int32)) (.int (0 : Int32)) T32.heap n0 f38 Vq32 g_ra2 (SA.ext f39.2) (SH.ext f39.2) (SL.ext f39.2)) hZ (own_t hw 62 rfl) (own_t hw 25 rfl) (by decide) (by decide)) (g := (mkF m 20 #[oa r0, oi 4, oi 5, oa ra2, oi 4] [(.int ue), (.int (4 : Int32)), (.ref ra2)])) rfl (by rw [hml]; rfl) (argsL := [(.ref ra2), (.int (4 : Int32)), (.int ue)]) (rest := []) (lenOf pd_6 rfl) rfl (by show 2 * 0 + _ ≤ _; exact Nat.le_of_eq rfl) (hb hby d10_20) (fun _ _ => ⟨rfl, rfl, (by decide : 1 + 0 ≤ _), (by decide : 10 + 0 ≤ _)⟩)
  dsimp only [Pt.U, Pt.locs, Pt.cells, Pt.slots] at X40 l40 y40 z40 st40 hQ40
  subst l40 y40 z40
  obtain ⟨rfl, N40q, Kq40, Vq40⟩ := hQ40
  have N40 := Fr.app N32 N40q
  have c41 : own_G p e below T40 (mkF m 33 #[oa r0, oi ((4 : Int32) + (1 : Int32)), oi 5, oa ra2, oi ((4 : Int32) + (1 : Int32))] [(.ref ra2)]) (mkF m 23 #[oa r0, oi 4, oi 5, oa ra2, oi 4] []) := by
    intro t kt
    show oS T40 (mkF m 23 #[oa r0, oi 4, oi 5, oa ra2, oi 4] []) _
    refine XS.iinc X40.here hx rfl (hb hby d10_23) rfl (l' := #[oa r0, oi ((4 : Int32) + (1 : Int32)), oi 5, oa ra2, oi 4]) rfl ?_
    show oS T40 (mkF m 26 #[oa r0, oi ((4 : Int32) + (1 : Int32)), oi 5, oa ra2, oi 4] []) _
    refine XS.iinc X40.here hx rfl (hb hby d10_26) rfl (l' := #[oa r0, oi ((4 : Int32) + (1 : Int32)), oi 5, oa ra2, oi ((4 : Int32) + (1 : Int32))]) rfl ?_
    show oS T40 (mkF m 29 #[oa r0, oi ((4 : Int32) + (1 : Int32)), oi 5, oa ra2, oi ((4 : Int32) + (1 : Int32))] []) _
    refine XS.goto X40.here hx rfl (pc0 := 29) (pc' := 8) rfl (hb hby d10_29) (by decide) (by decide) ?_
    show oS T40 (mkF m 8 #[oa r0, oi ((4 : Int32) + (1 : Int32)), oi 5, oa ra2, oi ((4 : Int32) + (1 : Int32))] []) _
    refine XS.iload X40.here hx rfl (hb hby d10_8) rfl ?_
    show oS T40 (mkF m 10 #[oa r0, oi ((4 : Int32) + (1 : Int32)), oi 5, oa ra2, oi ((4 : Int32) + (1 : Int32))] [(.int ((4 : Int32) + (1 : Int32)))]) _
    refine XS.iloadN X40.here hx rfl (hb hby d10_10) rfl ?_
    show oS T40 (mkF m 11 #[oa r0, oi ((4 : Int32) + (1 : Int32)), oi 5, oa ra2, oi ((4 : Int32) + (1 : Int32))] [(.int (5 : Int32)), (.int ((4 : Int32) + (1 : Int32)))]) _
    refine XS.icmpYes X40.here hx rfl (pc0 := 11) (pc' := 32) rfl (hb hby d10_11) rfl (flt (by decide : ¬ (((4 : Int32) + (1 : Int32)) < (5 : Int32)))).2.1 (by decide) (by decide) ?_
    show oS T40 (mkF m 32 #[oa r0, oi ((4 : Int32) + (1 : Int32)), oi 5, oa ra2, oi ((4 : Int32) + (1 : Int32))] []) _
    refine XS.aloadN X40.here hx rfl (hb hby d10_32) rfl rfl ?_
    exact kt
  obtain ⟨fs, hr, hrun, hended, hW, hsame⟩ := X40.leave (v := some (.ref ra2)) (fun h => by rw [Bd.returns] at h; cases h)
  have f43 := (((((((Keep.refl h0 []).trans Kq2 all0).trans Kq8 (allS (Or.inr sz_ra2) all0)).trans Kq16 (allS (Or.inr sz_ra2) all0)).trans Kq24 (allS (Or.inr sz_ra2) all0)).trans Kq32 (allS (Or.inr sz_ra2) all0)).trans Kq40 (allS (Or.inr sz_ra2) all0))
  refine ⟨_, _, pre0 _ (c1 _ (st2 _ (c5 _ (st8 _ (c9 _ (c10 _ (c13 _ (st16 _ (c17 _ (c18 _ (c21 _ (st24 _ (c25 _ (c26 _ (c29 _ (st32 _ (c33 _ (c34 _ (c37 _ (st40 _ (c41 _ (?_)))))))))))))))))))))), hrun, hended, _, _, rfl, ?_, ⟨_, rfl⟩, hW, hsame.mono (by decide) (by decide)⟩
  · show Steps p.tables e below (T40.setTop (mkF m 33 #[oa r0, oi ((4 : Int32) + (1 : Int32)), oi 5, oa ra2, oi ((4 : Int32) + (1 : Int32))] [(.ref ra2)])) _
    jvm_step X40.here [X40.here.top, hx, (hb hby d10_33), X40.method', Bd.returns, Value.isRef, FieldType.isReference]
    first | (intro acts; rw [hr _ acts rfl rfl rfl]) | rw [hr _ _ rfl rfl rfl]
    exact Steps.refl _
  · show Q10 Z r0 ka ua ub uc ud ue cs fm h0 n0 _ T40.heap _
    exact ⟨ra2, kx2, rfl, N40, f43, sz_ra2, g_ra2, Vq40⟩
theorem d14_0 : decode jdk_52_method_5_code 0 = .ok (.getstatic 44, 3) := by decide +kernel
theorem d14_3 : decode jdk_52_method_5_code 3 = .ok (.ifCond .ne 25, 3) := by decide +kernel
theorem d14_28 : decode jdk_52_method_5_code 28 = .ok (.iload_n 1, 1) := by decide +kernel
theorem d14_29 : decode jdk_52_method_5_code 29 = .ok (.iconst 1, 1) := by decide +kernel
theorem d14_30 : decode jdk_52_method_5_code 30 = .ok (.ishl, 1) := by decide +kernel
theorem d14_31 : decode jdk_52_method_5_code 31 = .ok (.istore_n 1, 1) := by decide +kernel
theorem d14_32 : decode jdk_52_method_5_code 32 = .ok (.aload_n 0, 1) := by decide +kernel
theorem d14_33 : decode jdk_52_method_5_code 33 = .ok (.iload_n 1, 1) := by decide +kernel
theorem d14_34 : decode jdk_52_method_5_code 34 = .ok (.iinc 1 1, 3) := by decide +kernel
theorem d14_37 : decode jdk_52_method_5_code 37 = .ok (.baload, 1) := by decide +kernel
theorem d14_38 : decode jdk_52_method_5_code 38 = .ok (.sipush 255, 3) := by decide +kernel
theorem d14_41 : decode jdk_52_method_5_code 41 = .ok (.iand, 1) := by decide +kernel
theorem d14_42 : decode jdk_52_method_5_code 42 = .ok (.getstatic 59, 3) := by decide +kernel
theorem d14_45 : decode jdk_52_method_5_code 45 = .ok (.ishl, 1) := by decide +kernel
theorem d14_46 : decode jdk_52_method_5_code 46 = .ok (.aload_n 0, 1) := by decide +kernel
theorem d14_47 : decode jdk_52_method_5_code 47 = .ok (.iload_n 1, 1) := by decide +kernel
theorem d14_48 : decode jdk_52_method_5_code 48 = .ok (.baload, 1) := by decide +kernel
theorem d14_49 : decode jdk_52_method_5_code 49 = .ok (.sipush 255, 3) := by decide +kernel
theorem d14_52 : decode jdk_52_method_5_code 52 = .ok (.iand, 1) := by decide +kernel
theorem d14_53 : decode jdk_52_method_5_code 53 = .ok (.getstatic 63, 3) := by decide +kernel
theorem d14_56 : decode jdk_52_method_5_code 56 = .ok (.ishl, 1) := by decide +kernel
theorem d14_57 : decode jdk_52_method_5_code 57 = .ok (.ior, 1) := by decide +kernel
theorem d14_58 : decode jdk_52_method_5_code 58 = .ok (.i2c, 1) := by decide +kernel
theorem d14_59 : decode jdk_52_method_5_code 59 = .ok (.ireturn, 1) := by decide +kernel
theorem pn_14 : plainName "java/lang/StringUTF16" = true := by first | (simp [plainName, overriddenIn]; done) | decide +kernel
theorem ef_14 (m : MethodId) (x0 : Addr) (x1 : Int32) : entryFrame m #[(.ref x0), (.int x1)] 2 = mkF m 0 #[.val (.ref x0), .val (.int x1)] [] := by first | (simp [entryFrame, mkF, argsToLocals, Value.category]; done) | rfl
def Q14 (Z : State) (r0 : Addr) (p1 : Int32) (ka : ClassId) (vs : List Value) (dv : Value) (u0 : Int32) (h0 : Heap) (n0 : Nat) (v : Option Value) (h : Heap) (L : List Loc) : Prop := v = some (.int u0) ∧ Fr n0 L ∧ h = h0
set_option maxRecDepth 65536 in
set_option maxHeartbeats 40000000 in
theorem rm14 (l : Launch) (Z : State) (a0 : Array Value) (hw : ∀ d ∈ tables_1, d.before a0 Z = true) (ws : List Jvm.Cond) (r0 : Addr) (p1 : Int32) (ka : ClassId) (vs : List Value) (dv : Value) (u0 : Int32) (h0 : Heap) (n0 : Nat) (Z0 : n0 ≤ h0.size) (V : Arv Z h0 r0 ka .byte (10 : Int32) vs dv) (hi0 : ¬ (p1 <<< ((1 : Int32) &&& 31)) < 0 ∧ (p1 <<< ((1 : Int32) &&& 31)) < (10 : Int32)) (hi1 : ¬ ((p1 <<< ((1 : Int32) &&& 31)) + (1 : Int32)) < 0 ∧ ((p1 <<< ((1 : Int32) &&& 31)) + (1 : Int32)) < (10 : Int32)) (ha0 : vs.getD (p1 <<< ((1 : Int32) &&& 31)).toNatClampNeg dv = .int (own_lo u0)) (ha1 : vs.getD ((p1 <<< ((1 : Int32) &&& 31)) + (1 : Int32)).toNatClampNeg dv = .int (own_hi u0)) (hru0 : own_r16 u0) (SA : Sta Z h0 "java/lang/StringUTF16" "$assertionsDisabled" "Z" (.int (1 : Int32))) (SH : Sta Z h0 "java/lang/StringUTF16" "HI_BYTE_SHIFT" "I" (.int (0 : Int32))) (SL : Sta Z h0 "java/lang/StringUTF16" "LO_BYTE_SHIFT" "I" (.int (8 : Int32))) :
    MetFree l yy_10 (head1 (Jvm.Cond.code yy_10 jdk_52_method_5_code 2 (some .char) :: ws) ({ frames := 0, cells := 0, slots := 0, locals := 0 } : Room)) (fun a U => a = #[(.ref r0), (.int p1)] ∧ Z.Warmed39 U.vm ∧ U.heap = h0) (fun _ _ _ _ _ => True) (fun _ U o U' => ∃ v L, o = .returned v ∧ Q14 Z r0 p1 ka vs dv u0 h0 n0 v U'.heap L ∧ FrameEnd U o U' L ({ frames := 0, cells := 0, slots := 0, locals := 0 } : Room).cells ({ frames := 0, cells := 0, slots := 0, locals := 0 } : Room).slots) := by
  refine MetFree.of_bodySF (plainFor_of_name pn_14) hisR ?_
  intro p e s m args below meth c s₁ Bd hml0 hP hK
  obtain ⟨rfl, hZ, hh⟩ := hP
  have hx := Bd.exec
  have hby := Bd.bytes
  have hml : c.maxLocals = 2 := hml0
  have hown : s.vm.findClass "java/lang/StringUTF16" = some m.cls := findClass_of_methodNamed Bd.named
  have hnm := (name_of_methodNamed Bd.named Bd.method).1
  have X0 : Stand p l e ({ frames := 0, cells := 0, slots := 0, locals := 0 } : Room) s m #[(.ref r0), (.int p1)] below meth c s₁ [] 0 0 := Stand.of_body Bd
  have e0 : s₁.heap = h0 := by rw [← hh, Bd.state]; rfl
  have N0 := Fr.nil n0
  have pre0 : ∀ t, Steps p.tables e below (s₁.setTop (mkF m 0 #[oa r0, oi p1] [])) t → Steps p.tables e below (s₁.setTop (entryFrame m #[(.ref r0), (.int p1)] 2)) t := fun t k => castTop (ef_14 m r0 p1) k
  obtain ⟨T1, X1, e1, st1⟩ := getS2 X0 hx hZ hown (host := "") (Or.inl (own_t hw 63 rfl)) Via.refl e0 SA (g := (mkF m 0 #[oa r0, oi p1] [])) rfl (hb hby d14_0)
  have Vc2 := V
  obtain ⟨cl2, Ar2, qk2, S2, M2, H2, G2⟩ := Vc2
  have hin2 : ¬ ((p1 <<< ((1 : Int32) &&& 31)) < 0 ∨ cl2.slots.size ≤ ((p1 <<< ((1 : Int32) &&& 31))).toNatClampNeg) := inb_of S2 hi0
  have hat2 : cl2.slots[((p1 <<< ((1 : Int32) &&& 31))).toNatClampNeg]? = some (.int (own_lo u0)) := H2.at hin2 ha0
  have c4 : own_G p e below T1 (mkF m 42 #[oa r0, oi ((p1 <<< ((1 : Int32) &&& 31)) + (1 : Int32))] [(.int ((own_lo u0) &&& (255 : Int32)))]) (mkF m 3 #[oa r0, oi p1] [(.int (1 : Int32))]) := by
    intro t kt
    show oS T1 (mkF m 3 #[oa r0, oi p1] [(.int (1 : Int32))]) _
    refine XS.ifYes X1.here hx rfl (pc0 := 3) (pc' := 28) rfl (hb hby d14_3) rfl ((if0 _ _).trans (feq (by decide : ¬ ((1 : Int32) = (0 : Int32)))).2) (by decide) (by decide) ?_
    show oS T1 (mkF m 28 #[oa r0, oi p1] []) _
    refine XS.iloadN X1.here hx rfl (hb hby d14_28) rfl ?_
    show oS T1 (mkF m 29 #[oa r0, oi p1] [(.int p1)]) _
    refine XS.iconst X1.here hx rfl (hb hby d14_29) ?_
    show oS T1 (mkF m 30 #[oa r0, oi p1] [(.int (1 : Int32)), (.int p1)]) _
    refine XS.ishl X1.here hx rfl (hb hby d14_30) rfl ?_
    show oS T1 (mkF m 31 #[oa r0, oi p1] [(.int (p1 <<< ((1 : Int32) &&& 31)))]) _
    refine XS.istoreN X1.here hx rfl (hb hby d14_31) rfl (l' := #[oa r0, oi (p1 <<< ((1 : Int32) &&& 31))]) rfl ?_
    show oS T1 (mkF m 32 #[oa r0, oi (p1 <<< ((1 : Int32) &&& 31))] []) _
    refine XS.aloadN X1.here hx rfl (hb hby d14_32) rfl rfl ?_
    show oS T1 (mkF m 33 #[oa r0, oi (p1 <<< ((1 : Int32) &&& 31))] [(.ref r0)]) _
    refine XS.iloadN X1.here hx rfl (hb hby d14_33) rfl ?_
    show oS T1 (mkF m 34 #[oa r0, oi (p1 <<< ((1 : Int32) &&& 31))] [(.int (p1 <<< ((1 : Int32) &&& 31))), (.ref r0)]) _
    refine XS.iinc X1.here hx rfl (hb hby d14_34) rfl (l' := #[oa r0, oi ((p1 <<< ((1 : Int32) &&& 31)) + (1 : Int32))]) rfl ?_
    show oS T1 (mkF m 37 #[oa r0, oi ((p1 <<< ((1 : Int32) &&& 31)) + (1 : Int32))] [(.int (p1 <<< ((1 : Int32) &&& 31))), (.ref r0)]) _
    refine X1.baloadBytes hx (j := (p1 <<< ((1 : Int32) &&& 31))) (v := (.int (own_lo u0))) (by rw [e1]; exact Ar2.1) (State.isArrayOf_alike hZ.alike Ar2.2.1) Ar2.2.2 hin2 hat2 (g := (mkF m 37 #[oa r0, oi ((p1 <<< ((1 : Int32) &&& 31)) + (1 : Int32))] [(.int (p1 <<< ((1 : Int32) &&& 31))), (.ref r0)])) rfl rfl (hb hby d14_37) _ ?_
    show oS T1 (mkF m 38 #[oa r0, oi ((p1 <<< ((1 : Int32) &&& 31)) + (1 : Int32))] [(.int (own_lo u0))]) _
    refine XS.sipush X1.here hx rfl (hb hby d14_38) ?_
    show oS T1 (mkF m 41 #[oa r0, oi ((p1 <<< ((1 : Int32) &&& 31)) + (1 : Int32))] [(.int (255 : Int32)), (.int (own_lo u0))]) _
    refine XS.iand X1.here hx rfl (hb hby d14_41) rfl ?_
    exact kt
  obtain ⟨T3, X3, e3, st3⟩ := getS2 X1 hx hZ hown (host := "") (Or.inl (own_t hw 64 rfl)) Via.refl e1 SH (g := (mkF m 42 #[oa r0, oi ((p1 <<< ((1 : Int32) &&& 31)) + (1 : Int32))] [(.int ((own_lo u0) &&& (255 : Int32)))])) rfl (hb hby d14_42)
  have Vc5 := V
  obtain ⟨cl5, Ar5, qk5, S5, M5, H5, G5⟩ := Vc5
  have hin5 : ¬ (((p1 <<< ((1 : Int32) &&& 31)) + (1 : Int32)) < 0 ∨ cl5.slots.size ≤ (((p1 <<< ((1 : Int32) &&& 31)) + (1 : Int32))).toNatClampNeg) := inb_of S5 hi1
  have hat5 : cl5.slots[(((p1 <<< ((1 : Int32) &&& 31)) + (1 : Int32))).toNatClampNeg]? = some (.int (own_hi u0)) := H5.at hin5 ha1
  have c7 : own_G p e below T3 (mkF m 53 #[oa r0, oi ((p1 <<< ((1 : Int32) &&& 31)) + (1 : Int32))] [(.int ((own_hi u0) &&& (255 : Int32))), (.int (((own_lo u0) &&& (255 : Int32)) <<< ((0 : Int32) &&& 31)))]) (mkF m 45 #[oa r0, oi ((p1 <<< ((1 : Int32) &&& 31)) + (1 : Int32))] [(.int (0 : Int32)), (.int ((own_lo u0) &&& (255 : Int32)))]) := by
    intro t kt
    show oS T3 (mkF m 45 #[oa r0, oi ((p1 <<< ((1 : Int32) &&& 31)) + (1 : Int32))] [(.int (0 : Int32)), (.int ((own_lo u0) &&& (255 : Int32)))]) _
    refine XS.ishl X3.here hx rfl (hb hby d14_45) rfl ?_
    show oS T3 (mkF m 46 #[oa r0, oi ((p1 <<< ((1 : Int32) &&& 31)) + (1 : Int32))] [(.int (((own_lo u0) &&& (255 : Int32)) <<< ((0 : Int32) &&& 31)))]) _
    refine XS.aloadN X3.here hx rfl (hb hby d14_46) rfl rfl ?_
    show oS T3 (mkF m 47 #[oa r0, oi ((p1 <<< ((1 : Int32) &&& 31)) + (1 : Int32))] [(.ref r0), (.int (((own_lo u0) &&& (255 : Int32)) <<< ((0 : Int32) &&& 31)))]) _
    refine XS.iloadN X3.here hx rfl (hb hby d14_47) rfl ?_
    show oS T3 (mkF m 48 #[oa r0, oi ((p1 <<< ((1 : Int32) &&& 31)) + (1 : Int32))] [(.int ((p1 <<< ((1 : Int32) &&& 31)) + (1 : Int32))), (.ref r0), (.int (((own_lo u0) &&& (255 : Int32)) <<< ((0 : Int32) &&& 31)))]) _
    refine X3.baloadBytes hx (j := ((p1 <<< ((1 : Int32) &&& 31)) + (1 : Int32))) (v := (.int (own_hi u0))) (by rw [e3]; exact Ar5.1) (State.isArrayOf_alike hZ.alike Ar5.2.1) Ar5.2.2 hin5 hat5 (g := (mkF m 48 #[oa r0, oi ((p1 <<< ((1 : Int32) &&& 31)) + (1 : Int32))] [(.int ((p1 <<< ((1 : Int32) &&& 31)) + (1 : Int32))), (.ref r0), (.int (((own_lo u0) &&& (255 : Int32)) <<< ((0 : Int32) &&& 31)))])) rfl rfl (hb hby d14_48) _ ?_
    show oS T3 (mkF m 49 #[oa r0, oi ((p1 <<< ((1 : Int32) &&& 31)) + (1 : Int32))] [(.int (own_hi u0)), (.int (((own_lo u0) &&& (255 : Int32)) <<< ((0 : Int32) &&& 31)))]) _
    refine XS.sipush X3.here hx rfl (hb hby d14_49) ?_
    show oS T3 (mkF m 52 #[oa r0, oi ((p1 <<< ((1 : Int32) &&& 31)) + (1 : Int32))] [(.int (255 : Int32)), (.int (own_hi u0)), (.int (((own_lo u0) &&& (255 : Int32)) <<< ((0 : Int32) &&& 31)))]) _
    refine XS.iand X3.here hx rfl (hb hby d14_52) rfl ?_
    exact kt
  obtain ⟨T6, X6, e6, st6⟩ := getS2 X3 hx hZ hown (host := "") (Or.inl (own_t hw 65 rfl)) Via.refl e3 SL (g := (mkF m 53 #[oa r0, oi ((p1 <<< ((1 : Int32) &&& 31)) + (1 : Int32))] [(.int ((own_hi u0) &&& (255 : Int32))), (.int (((own_lo u0) &&& (255 : Int32)) <<< ((0 : Int32) &&& 31)))])) rfl (hb hby d14_53)
  have c8 : own_G p e below T6 (mkF m 59 #[oa r0, oi ((p1 <<< ((1 : Int32) &&& 31)) + (1 : Int32))] [(.int (((((own_lo u0) &&& (255 : Int32)) <<< ((0 : Int32) &&& 31)) ||| (((own_hi u0) &&& (255 : Int32)) <<< ((8 : Int32) &&& 31))).toUInt32.toUInt16.toUInt32.toInt32))]) (mkF m 56 #[oa r0, oi ((p1 <<< ((1 : Int32) &&& 31)) + (1 : Int32))] [(.int (8 : Int32)), (.int ((own_hi u0) &&& (255 : Int32))), (.int (((own_lo u0) &&& (255 : Int32)) <<< ((0 : Int32) &&& 31)))]) := by
    intro t kt
    show oS T6 (mkF m 56 #[oa r0, oi ((p1 <<< ((1 : Int32) &&& 31)) + (1 : Int32))] [(.int (8 : Int32)), (.int ((own_hi u0) &&& (255 : Int32))), (.int (((own_lo u0) &&& (255 : Int32)) <<< ((0 : Int32) &&& 31)))]) _
    refine XS.ishl X6.here hx rfl (hb hby d14_56) rfl ?_
    show oS T6 (mkF m 57 #[oa r0, oi ((p1 <<< ((1 : Int32) &&& 31)) + (1 : Int32))] [(.int (((own_hi u0) &&& (255 : Int32)) <<< ((8 : Int32) &&& 31))), (.int (((own_lo u0) &&& (255 : Int32)) <<< ((0 : Int32) &&& 31)))]) _
    refine XS.ior X6.here hx rfl (hb hby d14_57) rfl ?_
    show oS T6 (mkF m 58 #[oa r0, oi ((p1 <<< ((1 : Int32) &&& 31)) + (1 : Int32))] [(.int ((((own_lo u0) &&& (255 : Int32)) <<< ((0 : Int32) &&& 31)) ||| (((own_hi u0) &&& (255 : Int32)) <<< ((8 : Int32) &&& 31))))]) _
    refine XS.i2c X6.here hx rfl (hb hby d14_58) rfl ?_
    exact kt
  obtain ⟨fs, hr, hrun, hended, hW, hsame⟩ := X6.leave (v := some (.int ((((((own_lo u0) &&& (255 : Int32)) <<< ((0 : Int32) &&& 31)) ||| (((own_hi u0) &&& (255 : Int32)) <<< ((8 : Int32) &&& 31))).toUInt32.toUInt16.toUInt32.toInt32).toUInt32.toUInt16.toUInt32.toInt32))) (fun h => by rw [Bd.returns] at h; cases h)
  refine ⟨_, _, pre0 _ (st1 _ (c4 _ (st3 _ (c7 _ (st6 _ (c8 _ (?_))))))), hrun, hended, _, _, rfl, ?_, ⟨_, rfl⟩, hW, hsame.mono (by decide) (by decide)⟩
  · show Steps p.tables e below (T6.setTop (mkF m 59 #[oa r0, oi ((p1 <<< ((1 : Int32) &&& 31)) + (1 : Int32))] [(.int (((((own_lo u0) &&& (255 : Int32)) <<< ((0 : Int32) &&& 31)) ||| (((own_hi u0) &&& (255 : Int32)) <<< ((8 : Int32) &&& 31))).toUInt32.toUInt16.toUInt32.toInt32))])) _
    exact retN X6 hx (t := .char) Bd.returns (by simp) (hb hby d14_59) hr
  · show Q14 Z r0 p1 ka vs dv u0 h0 n0 _ T6.heap _
    rw [e6]
    exact ⟨congrArg (fun z => some (Value.int z)) (show ((((((own_lo u0) &&& (255 : Int32)) <<< ((0 : Int32) &&& 31)) ||| (((own_hi u0) &&& (255 : Int32)) <<< ((8 : Int32) &&& 31))).toUInt32.toUInt16.toUInt32.toInt32).toUInt32.toUInt16.toUInt32.toInt32) = u0 from by exact own_gcv u0 hru0), N0, rfl⟩
theorem d6_0 : decode jdk_52_method_21_code 0 = .ok (.iconst 0, 1) := by decide +kernel
theorem d6_1 : decode jdk_52_method_21_code 1 = .ok (.istore 5, 2) := by decide +kernel
theorem d6_3 : decode jdk_52_method_21_code 3 = .ok (.iload 5, 2) := by decide +kernel
theorem d6_5 : decode jdk_52_method_21_code 5 = .ok (.iload 4, 2) := by decide +kernel
theorem d6_7 : decode jdk_52_method_21_code 7 = .ok (.if_icmp .ge 37, 3) := by decide +kernel
theorem d6_10 : decode jdk_52_method_21_code 10 = .ok (.aload_n 0, 1) := by decide +kernel
theorem d6_11 : decode jdk_52_method_21_code 11 = .ok (.iload_n 1, 1) := by decide +kernel
theorem d6_12 : decode jdk_52_method_21_code 12 = .ok (.caload, 1) := by decide +kernel
theorem d6_13 : decode jdk_52_method_21_code 13 = .ok (.istore 6, 2) := by decide +kernel
theorem d6_15 : decode jdk_52_method_21_code 15 = .ok (.iload 6, 2) := by decide +kernel
theorem d6_17 : decode jdk_52_method_21_code 17 = .ok (.sipush 255, 3) := by decide +kernel
theorem d6_20 : decode jdk_52_method_21_code 20 = .ok (.if_icmp .le 6, 3) := by decide +kernel
theorem d6_23 : decode jdk_52_method_21_code 23 = .ok (.iload 5, 2) := by decide +kernel
theorem d6_25 : decode jdk_52_method_21_code 25 = .ok (.ireturn, 1) := by decide +kernel
theorem d6_26 : decode jdk_52_method_21_code 26 = .ok (.aload_n 2, 1) := by decide +kernel
theorem d6_27 : decode jdk_52_method_21_code 27 = .ok (.iload_n 3, 1) := by decide +kernel
theorem d6_28 : decode jdk_52_method_21_code 28 = .ok (.iload 6, 2) := by decide +kernel
theorem d6_30 : decode jdk_52_method_21_code 30 = .ok (.i2b, 1) := by decide +kernel
theorem d6_31 : decode jdk_52_method_21_code 31 = .ok (.bastore, 1) := by decide +kernel
theorem d6_32 : decode jdk_52_method_21_code 32 = .ok (.iinc 1 1, 3) := by decide +kernel
theorem d6_35 : decode jdk_52_method_21_code 35 = .ok (.iinc 3 1, 3) := by decide +kernel
theorem d6_38 : decode jdk_52_method_21_code 38 = .ok (.iinc 5 1, 3) := by decide +kernel
theorem d6_41 : decode jdk_52_method_21_code 41 = .ok (.goto (-38), 3) := by decide +kernel
theorem d6_44 : decode jdk_52_method_21_code 44 = .ok (.iload 4, 2) := by decide +kernel
theorem d6_46 : decode jdk_52_method_21_code 46 = .ok (.ireturn, 1) := by decide +kernel
theorem pn_6 : plainName "java/lang/StringUTF16" = true := by first | (simp [plainName, overriddenIn]; done) | decide +kernel
theorem ef_6 (m : MethodId) (x0 : Addr) (x1 : Int32) (x2 : Addr) (x3 : Int32) (x4 : Int32) : entryFrame m #[(.ref x0), (.int x1), (.ref x2), (.int x3), (.int x4)] 7 = mkF m 0 #[.val (.ref x0), .val (.int x1), .val (.ref x2), .val (.int x3), .val (.int x4), .unset, .unset] [] := by first | (simp [entryFrame, mkF, argsToLocals, Value.category]; done) | rfl
def Q6 (Z : State) (r0 : Addr) (r2 : Addr) (ka kb : ClassId) (ua ub uc ud ue : Int32) (h0 : Heap) (n0 : Nat) (v : Option Value) (h : Heap) (L : List Loc) : Prop := v = some (.int (own_cnt ua ub uc ud ue)) ∧ Fr n0 L ∧ Keep h0 h [r2] ∧ (own_all ua ub uc ud ue → Arv Z h r2 kb .byte (5 : Int32) [(.int (own_bb ua)), (.int (own_bb ub)), (.int (own_bb uc)), (.int (own_bb ud)), (.int (own_bb ue))] (.int (0 : Int32)))
set_option maxRecDepth 65536 in
set_option maxHeartbeats 40000000 in
theorem rm6 (l : Launch) (Z : State) (a0 : Array Value) (hw : ∀ d ∈ tables_1, d.before a0 Z = true) (ws : List Jvm.Cond) (r0 : Addr) (r2 : Addr) (ka kb : ClassId) (ua ub uc ud ue : Int32) (h0 : Heap) (n0 : Nat) (Z0 : n0 ≤ h0.size) (V : Arv Z h0 r0 ka .char (5 : Int32) [(.int ua), (.int ub), (.int uc), (.int ud), (.int ue)] (.int (0 : Int32))) (W : Arv Z h0 r2 kb .byte (5 : Int32) [(.int (0 : Int32)), (.int (0 : Int32)), (.int (0 : Int32)), (.int (0 : Int32)), (.int (0 : Int32))] (.int (0 : Int32))) (g_r2 : n0 ≤ r2) (hne : r0 ≠ r2) :
    MetFree l yy_11 (head1 (Jvm.Cond.code yy_11 jdk_52_method_21_code 7 (some .int) :: ws) ({ frames := 0, cells := 0, slots := 0, locals := 0 } : Room)) (fun a U => a = #[(.ref r0), (.int (0 : Int32)), (.ref r2), (.int (0 : Int32)), (.int (5 : Int32))] ∧ Z.Warmed39 U.vm ∧ U.heap = h0) (fun _ _ _ _ _ => True) (fun _ U o U' => ∃ v L, o = .returned v ∧ Q6 Z r0 r2 ka kb ua ub uc ud ue h0 n0 v U'.heap L ∧ FrameEnd U o U' L ({ frames := 0, cells := 0, slots := 0, locals := 0 } : Room).cells ({ frames := 0, cells := 0, slots := 0, locals := 0 } : Room).slots) := by
  refine MetFree.of_bodySF (plainFor_of_name pn_6) hisR ?_
  intro p e s m args below meth c s₁ Bd hml0 hP hK
  obtain ⟨rfl, hZ, hh⟩ := hP
  have hx := Bd.exec
  have hby := Bd.bytes
  have hml : c.maxLocals = 7 := hml0
  have hown : s.vm.findClass "java/lang/StringUTF16" = some m.cls := findClass_of_methodNamed Bd.named
  have hnm := (name_of_methodNamed Bd.named Bd.method).1
  have X0 : Stand p l e ({ frames := 0, cells := 0, slots := 0, locals := 0 } : Room) s m #[(.ref r0), (.int (0 : Int32)), (.ref r2), (.int (0 : Int32)), (.int (5 : Int32))] below meth c s₁ [] 0 0 := Stand.of_body Bd
  have e0 : s₁.heap = h0 := by rw [← hh, Bd.state]; rfl
  have N0 := Fr.nil n0
  have pre0 : ∀ t, Steps p.tables e below (s₁.setTop (mkF m 0 #[oa r0, oi 0, oa r2, oi 0, oi 5, .unset, .unset] [])) t → Steps p.tables e below (s₁.setTop (entryFrame m #[(.ref r0), (.int (0 : Int32)), (.ref r2), (.int (0 : Int32)), (.int (5 : Int32))] 7)) t := fun t k => castTop (ef_6 m r0 (0 : Int32) r2 (0 : Int32) (5 : Int32)) k
  have Vc1 := V
  obtain ⟨cl1, Ar1, qk1, S1, M1, H1, G1⟩ := Vc1
  have hin1 : ¬ ((0 : Int32) < 0 ∨ cl1.slots.size ≤ ((0 : Int32)).toNatClampNeg) := inb_of S1 ⟨by decide, by decide⟩
  have hat1 : cl1.slots[((0 : Int32)).toNatClampNeg]? = some (.int ua) := H1.at hin1 rfl
  have c2 : own_G p e below s₁ (mkF m 20 #[oa r0, oi 0, oa r2, oi 0, oi 5, oi 0, oi ua] [(.int (255 : Int32)), (.int ua)]) (mkF m 0 #[oa r0, oi 0, oa r2, oi 0, oi 5, .unset, .unset] []) := by
    intro t kt
    show oS s₁ (mkF m 0 #[oa r0, oi 0, oa r2, oi 0, oi 5, .unset, .unset] []) _
    refine XS.iconst X0.here hx rfl (hb hby d6_0) ?_
    show oS s₁ (mkF m 1 #[oa r0, oi 0, oa r2, oi 0, oi 5, .unset, .unset] [(.int (0 : Int32))]) _
    refine XS.istore X0.here hx rfl (hb hby d6_1) rfl (l' := #[oa r0, oi 0, oa r2, oi 0, oi 5, oi 0, .unset]) rfl ?_
    show oS s₁ (mkF m 3 #[oa r0, oi 0, oa r2, oi 0, oi 5, oi 0, .unset] []) _
    refine XS.iload X0.here hx rfl (hb hby d6_3) rfl ?_
    show oS s₁ (mkF m 5 #[oa r0, oi 0, oa r2, oi 0, oi 5, oi 0, .unset] [(.int (0 : Int32))]) _
    refine XS.iload X0.here hx rfl (hb hby d6_5) rfl ?_
    show oS s₁ (mkF m 7 #[oa r0, oi 0, oa r2, oi 0, oi 5, oi 0, .unset] [(.int (5 : Int32)), (.int (0 : Int32))]) _
    refine XS.icmpNo X0.here hx rfl (hb hby d6_7) rfl (tlt (by decide : (0 : Int32) < (5 : Int32))).2.1 ?_
    show oS s₁ (mkF m 10 #[oa r0, oi 0, oa r2, oi 0, oi 5, oi 0, .unset] []) _
    refine XS.aloadN X0.here hx rfl (hb hby d6_10) rfl rfl ?_
    show oS s₁ (mkF m 11 #[oa r0, oi 0, oa r2, oi 0, oi 5, oi 0, .unset] [(.ref r0)]) _
    refine XS.iloadN X0.here hx rfl (hb hby d6_11) rfl ?_
    show oS s₁ (mkF m 12 #[oa r0, oi 0, oa r2, oi 0, oi 5, oi 0, .unset] [(.int (0 : Int32)), (.ref r0)]) _
    refine X0.caload hx (j := (0 : Int32)) (v := (.int ua)) (by rw [e0]; exact Ar1.1) (State.isArrayOf_alike hZ.alike Ar1.2.1) Ar1.2.2 hin1 hat1 (g := (mkF m 12 #[oa r0, oi 0, oa r2, oi 0, oi 5, oi 0, .unset] [(.int (0 : Int32)), (.ref r0)])) rfl rfl (hb hby d6_12) _ ?_
    show oS s₁ (mkF m 13 #[oa r0, oi 0, oa r2, oi 0, oi 5, oi 0, .unset] [(.int ua)]) _
    refine XS.istore X0.here hx rfl (hb hby d6_13) rfl (l' := #[oa r0, oi 0, oa r2, oi 0, oi 5, oi 0, oi ua]) rfl ?_
    show oS s₁ (mkF m 15 #[oa r0, oi 0, oa r2, oi 0, oi 5, oi 0, oi ua] []) _
    refine XS.iload X0.here hx rfl (hb hby d6_15) rfl ?_
    show oS s₁ (mkF m 17 #[oa r0, oi 0, oa r2, oi 0, oi 5, oi 0, oi ua] [(.int ua)]) _
    refine XS.sipush X0.here hx rfl (hb hby d6_17) ?_
    exact kt
  by_cases hc20 : (255 : Int32) < ua
  · -- it is
    have c3 : own_G p e below s₁ (mkF m 25 #[oa r0, oi 0, oa r2, oi 0, oi 5, oi 0, oi ua] [(.int (0 : Int32))]) (mkF m 20 #[oa r0, oi 0, oa r2, oi 0, oi 5, oi 0, oi ua] [(.int (255 : Int32)), (.int ua)]) := by
      intro t kt
      show oS s₁ (mkF m 20 #[oa r0, oi 0, oa r2, oi 0, oi 5, oi 0, oi ua] [(.int (255 : Int32)), (.int ua)]) _
      refine XS.icmpNo X0.here hx rfl (hb hby d6_20) rfl (tlt hc20).2.2.2 ?_
      show oS s₁ (mkF m 23 #[oa r0, oi 0, oa r2, oi 0, oi 5, oi 0, oi ua] []) _
      refine XS.iload X0.here hx rfl (hb hby d6_23) rfl ?_
      exact kt
    obtain ⟨fs, hr, hrun, hended, hW, hsame⟩ := X0.leave (v := some (.int (0 : Int32))) (fun h => by rw [Bd.returns] at h; cases h)
    refine ⟨_, _, pre0 _ (c2 _ (c3 _ (?_))), hrun, hended, _, _, rfl, ?_, ⟨_, rfl⟩, hW, hsame.mono (by decide) (by decide)⟩
    · show Steps p.tables e below (s₁.setTop (mkF m 25 #[oa r0, oi 0, oa r2, oi 0, oi 5, oi 0, oi ua] [(.int (0 : Int32))])) _
      exact retI X0 hx Bd.returns (hb hby d6_25) hr
    · show Q6 Z r0 r2 ka kb ua ub uc ud ue h0 n0 _ s₁.heap _
      rw [e0]
      exact ⟨congrArg (fun z => some (Value.int z)) (show (0 : Int32) = own_cnt ua ub uc ud ue from by unfold own_cnt; rw [if_pos hc20]), N0, (Keep.refl h0 [r2]), fun q => absurd hc20 (q.1)⟩
  · -- it isn't
    have c5 : own_G p e below s₁ (mkF m 31 #[oa r0, oi 0, oa r2, oi 0, oi 5, oi 0, oi ua] [(.int (ua.toInt8.toInt32)), (.int (0 : Int32)), (.ref r2)]) (mkF m 20 #[oa r0, oi 0, oa r2, oi 0, oi 5, oi 0, oi ua] [(.int (255 : Int32)), (.int ua)]) := by
      intro t kt
      show oS s₁ (mkF m 20 #[oa r0, oi 0, oa r2, oi 0, oi 5, oi 0, oi ua] [(.int (255 : Int32)), (.int ua)]) _
      refine XS.icmpYes X0.here hx rfl (pc0 := 20) (pc' := 26) rfl (hb hby d6_20) rfl (flt hc20).2.2.2 (by decide) (by decide) ?_
      show oS s₁ (mkF m 26 #[oa r0, oi 0, oa r2, oi 0, oi 5, oi 0, oi ua] []) _
      refine XS.aloadN X0.here hx rfl (hb hby d6_26) rfl rfl ?_
      show oS s₁ (mkF m 27 #[oa r0, oi 0, oa r2, oi 0, oi 5, oi 0, oi ua] [(.ref r2)]) _
      refine XS.iloadN X0.here hx rfl (hb hby d6_27) rfl ?_
      show oS s₁ (mkF m 28 #[oa r0, oi 0, oa r2, oi 0, oi 5, oi 0, oi ua] [(.int (0 : Int32)), (.ref r2)]) _
      refine XS.iload X0.here hx rfl (hb hby d6_28) rfl ?_
      show oS s₁ (mkF m 30 #[oa r0, oi 0, oa r2, oi 0, oi 5, oi 0, oi ua] [(.int ua), (.int (0 : Int32)), (.ref r2)]) _
      refine XS.i2b X0.here hx rfl (hb hby d6_30) rfl ?_
      exact kt
    have Vc6 := W
    obtain ⟨cl6, Ar6, qk6, S6, M6, H6, G6⟩ := Vc6
    have hin6 : ¬ ((0 : Int32) < 0 ∨ cl6.slots.size ≤ ((0 : Int32)).toNatClampNeg) := inb_of S6 ⟨by decide, by decide⟩
    obtain ⟨T7, h7, X7, e7, W7, st7⟩ := stB X0 hx hZ e0 Ar6 (j := (0 : Int32)) hin6 (g := (mkF m 31 #[oa r0, oi 0, oa r2, oi 0, oi 5, oi 0, oi ua] [(.int (ua.toInt8.toInt32)), (.int (0 : Int32)), (.ref r2)])) rfl rfl (hb hby d6_31)
    have V7 : Arv Z h7 r2 kb .byte (5 : Int32) [(.int ((ua.toInt8.toInt32).toInt8.toInt32)), (.int (0 : Int32)), (.int (0 : Int32)), (.int (0 : Int32)), (.int (0 : Int32))] (.int (0 : Int32)) := Arv.set Ar6 qk6 S6 M6 H6 G6 (fits_nar_byte _) W7 0 rfl (Nat.le_of_ble_eq_true rfl)
    have N7 := Fr.snoc X7 N0 g_r2
    have c8 : own_G p e below T7 (mkF m 12 #[oa r0, oi ((0 : Int32) + (1 : Int32)), oa r2, oi ((0 : Int32) + (1 : Int32)), oi 5, oi ((0 : Int32) + (1 : Int32)), oi ua] [(.int ((0 : Int32) + (1 : Int32))), (.ref r0)]) (mkF m 32 #[oa r0, oi 0, oa r2, oi 0, oi 5, oi 0, oi ua] []) := by
      intro t kt
      show oS T7 (mkF m 32 #[oa r0, oi 0, oa r2, oi 0, oi 5, oi 0, oi ua] []) _
      refine XS.iinc X7.here hx rfl (hb hby d6_32) rfl (l' := #[oa r0, oi ((0 : Int32) + (1 : Int32)), oa r2, oi 0, oi 5, oi 0, oi ua]) rfl ?_
      show oS T7 (mkF m 35 #[oa r0, oi ((0 : Int32) + (1 : Int32)), oa r2, oi 0, oi 5, oi 0, oi ua] []) _
      refine XS.iinc X7.here hx rfl (hb hby d6_35) rfl (l' := #[oa r0, oi ((0 : Int32) + (1 : Int32)), oa r2, oi ((0 : Int32) + (1 : Int32)), oi 5, oi 0, oi ua]) rfl ?_
      show oS T7 (mkF m 38 #[oa r0, oi ((0 : Int32) + (1 : Int32)), oa r2, oi ((0 : Int32) + (1 : Int32)), oi 5, oi 0, oi ua] []) _
      refine XS.iinc X7.here hx rfl (hb hby d6_38) rfl (l' := #[oa r0, oi ((0 : Int32) + (1 : Int32)), oa r2, oi ((0 : Int32) + (1 : Int32)), oi 5, oi ((0 : Int32) + (1 : Int32)), oi ua]) rfl ?_
      show oS T7 (mkF m 41 #[oa r0, oi ((0 : Int32) + (1 : Int32)), oa r2, oi ((0 : Int32) + (1 : Int32)), oi 5, oi ((0 : Int32) + (1 : Int32)), oi ua] []) _
      refine XS.goto X7.here hx rfl (pc0 := 41) (pc' := 3) rfl (hb hby d6_41) (by decide) (by decide) ?_
      show oS T7 (mkF m 3 #[oa r0, oi ((0 : Int32) + (1 : Int32)), oa r2, oi ((0 : Int32) + (1 : Int32)), oi 5, oi ((0 : Int32) + (1 : Int32)), oi ua] []) _
      refine XS.iload X7.here hx rfl (hb hby d6_3) rfl ?_
      show oS T7 (mkF m 5 #[oa r0, oi ((0 : Int32) + (1 : Int32)), oa r2, oi ((0 : Int32) + (1 : Int32)), oi 5, oi ((0 : Int32) + (1 : Int32)), oi ua] [(.int ((0 : Int32) + (1 : Int32)))]) _
      refine XS.iload X7.here hx rfl (hb hby d6_5) rfl ?_
      show oS T7 (mkF m 7 #[oa r0, oi ((0 : Int32) + (1 : Int32)), oa r2, oi ((0 : Int32) + (1 : Int32)), oi 5, oi ((0 : Int32) + (1 : Int32)), oi ua] [(.int (5 : Int32)), (.int ((0 : Int32) + (1 : Int32)))]) _
      refine XS.icmpNo X7.here hx rfl (hb hby d6_7) rfl (tlt (by decide : ((0 : Int32) + (1 : Int32)) < (5 : Int32))).2.1 ?_
      show oS T7 (mkF m 10 #[oa r0, oi ((0 : Int32) + (1 : Int32)), oa r2, oi ((0 : Int32) + (1 : Int32)), oi 5, oi ((0 : Int32) + (1 : Int32)), oi ua] []) _
      refine XS.aloadN X7.here hx rfl (hb hby d6_10) rfl rfl ?_
      show oS T7 (mkF m 11 #[oa r0, oi ((0 : Int32) + (1 : Int32)), oa r2, oi ((0 : Int32) + (1 : Int32)), oi 5, oi ((0 : Int32) + (1 : Int32)), oi ua] [(.ref r0)]) _
      refine XS.iloadN X7.here hx rfl (hb hby d6_11) rfl ?_
      exact kt
    have c9 : own_G p e below T7 (mkF m 12 #[oa r0, oi 1, oa r2, oi 1, oi 5, oi 1, oi ua] [(.int (1 : Int32)), (.ref r0)]) (mkF m 12 #[oa r0, oi ((0 : Int32) + (1 : Int32)), oa r2, oi ((0 : Int32) + (1 : Int32)), oi 5, oi ((0 : Int32) + (1 : Int32)), oi ua] [(.int ((0 : Int32) + (1 : Int32))), (.ref r0)]) := fun t kt => castTop (congrArg (fun zv => (mkF m 12 #[oa r0, oi zv, oa r2, oi zv, oi 5, oi zv, oi ua] [(.int zv), (.ref r0)])) (show ((0 : Int32) + (1 : Int32)) = (1 : Int32) from by decide)) kt
    have f10 := (V.other W7 hne)
    have Vc11 := f10
    obtain ⟨cl11, Ar11, qk11, S11, M11, H11, G11⟩ := Vc11
    have hin11 : ¬ ((1 : Int32) < 0 ∨ cl11.slots.size ≤ ((1 : Int32)).toNatClampNeg) := inb_of S11 ⟨by decide, by decide⟩
    have hat11 : cl11.slots[((1 : Int32)).toNatClampNeg]? = some (.int ub) := H11.at hin11 rfl
    have c12 : own_G p e below T7 (mkF m 20 #[oa r0, oi 1, oa r2, oi 1, oi 5, oi 1, oi ub] [(.int (255 : Int32)), (.int ub)]) (mkF m 12 #[oa r0, oi 1, oa r2, oi 1, oi 5, oi 1, oi ua] [(.int (1 : Int32)), (.ref r0)]) := by
      intro t kt
      show oS T7 (mkF m 12 #[oa r0, oi 1, oa r2, oi 1, oi 5, oi 1, oi ua] [(.int (1 : Int32)), (.ref r0)]) _
      refine X7.caload hx (j := (1 : Int32)) (v := (.int ub)) (by rw [e7]; exact Ar11.1) (State.isArrayOf_alike hZ.alike Ar11.2.1) Ar11.2.2 hin11 hat11 (g := (mkF m 12 #[oa r0, oi 1, oa r2, oi 1, oi 5, oi 1, oi ua] [(.int (1 : Int32)), (.ref r0)])) rfl rfl (hb hby d6_12) _ ?_
      show oS T7 (mkF m 13 #[oa r0, oi 1, oa r2, oi 1, oi 5, oi 1, oi ua] [(.int ub)]) _
      refine XS.istore X7.here hx rfl (hb hby d6_13) rfl (l' := #[oa r0, oi 1, oa r2, oi 1, oi 5, oi 1, oi ub]) rfl ?_
      show oS T7 (mkF m 15 #[oa r0, oi 1, oa r2, oi 1, oi 5, oi 1, oi ub] []) _
      refine XS.iload X7.here hx rfl (hb hby d6_15) rfl ?_
      show oS T7 (mkF m 17 #[oa r0, oi 1, oa r2, oi 1, oi 5, oi 1, oi ub] [(.int ub)]) _
      refine XS.sipush X7.here hx rfl (hb hby d6_17) ?_
      exact kt
    by_cases hc20_2 : (255 : Int32) < ub
    · -- it is
      have c13 : own_G p e below T7 (mkF m 25 #[oa r0, oi 1, oa r2, oi 1, oi 5, oi 1, oi ub] [(.int (1 : Int32))]) (mkF m 20 #[oa r0, oi 1, oa r2, oi 1, oi 5, oi 1, oi ub] [(.int (255 : Int32)), (.int ub)]) := by
        intro t kt
        show oS T7 (mkF m 20 #[oa r0, oi 1, oa r2, oi 1, oi 5, oi 1, oi ub] [(.int (255 : Int32)), (.int ub)]) _
        refine XS.icmpNo X7.here hx rfl (hb hby d6_20) rfl (tlt hc20_2).2.2.2 ?_
        show oS T7 (mkF m 23 #[oa r0, oi 1, oa r2, oi 1, oi 5, oi 1, oi ub] []) _
        refine XS.iload X7.here hx rfl (hb hby d6_23) rfl ?_
        exact kt
      obtain ⟨fs, hr, hrun, hended, hW, hsame⟩ := X7.leave (v := some (.int (1 : Int32))) (fun h => by rw [Bd.returns] at h; cases h)
      have f15 := ((Keep.refl h0 [r2]).wr W7 (Or.inl (List.mem_of_getElem? (i := 0) rfl)))
      refine ⟨_, _, pre0 _ (c2 _ (c5 _ (st7 _ (c8 _ (c9 _ (c12 _ (c13 _ (?_)))))))), hrun, hended, _, _, rfl, ?_, ⟨_, rfl⟩, hW, hsame.mono (by decide) (by decide)⟩
      · show Steps p.tables e below (T7.setTop (mkF m 25 #[oa r0, oi 1, oa r2, oi 1, oi 5, oi 1, oi ub] [(.int (1 : Int32))])) _
        exact retI X7 hx Bd.returns (hb hby d6_25) hr
      · show Q6 Z r0 r2 ka kb ua ub uc ud ue h0 n0 _ T7.heap _
        rw [e7]
        exact ⟨congrArg (fun z => some (Value.int z)) (show (1 : Int32) = own_cnt ua ub uc ud ue from by unfold own_cnt; rw [if_neg hc20, if_pos hc20_2]), N7, f15, fun q => absurd hc20_2 (q.2.1)⟩
    · -- it isn't
      have c16 : own_G p e below T7 (mkF m 31 #[oa r0, oi 1, oa r2, oi 1, oi 5, oi 1, oi ub] [(.int (ub.toInt8.toInt32)), (.int (1 : Int32)), (.ref r2)]) (mkF m 20 #[oa r0, oi 1, oa r2, oi 1, oi 5, oi 1, oi ub] [(.int (255 : Int32)), (.int ub)]) := by
        intro t kt
        show oS T7 (mkF m 20 #[oa r0, oi 1, oa r2, oi 1, oi 5, oi 1, oi ub] [(.int (255 : Int32)), (.int ub)]) _
        refine XS.icmpYes X7.here hx rfl (pc0 := 20) (pc' := 26) rfl (hb hby d6_20) rfl (flt hc20_2).2.2.2 (by decide) (by decide) ?_
        show oS T7 (mkF m 26 #[oa r0, oi 1, oa r2, oi 1, oi 5, oi 1, oi ub] []) _
        refine XS.aloadN X7.here hx rfl (hb hby d6_26) rfl rfl ?_
        show oS T7 (mkF m 27 #[oa r0, oi 1, oa r2, oi 1, oi 5, oi 1, oi ub] [(.ref r2)]) _
        refine XS.iloadN X7.here hx rfl (hb hby d6_27) rfl ?_
        show oS T7 (mkF m 28 #[oa r0, oi 1, oa r2, oi 1, oi 5, oi 1, oi ub] [(.int (1 : Int32)), (.ref r2)]) _
        refine XS.iload X7.here hx rfl (hb hby d6_28) rfl ?_
        show oS T7 (mkF m 30 #[oa r0, oi 1, oa r2, oi 1, oi 5, oi 1, oi ub] [(.int ub), (.int (1 : Int32)), (.ref r2)]) _
        refine XS.i2b X7.here hx rfl (hb hby d6_30) rfl ?_
        exact kt
      have Vc17 := V7
      obtain ⟨cl17, Ar17, qk17, S17, M17, H17, G17⟩ := Vc17
      have hin17 : ¬ ((1 : Int32) < 0 ∨ cl17.slots.size ≤ ((1 : Int32)).toNatClampNeg) := inb_of S17 ⟨by decide, by decide⟩
      obtain ⟨T18, h18, X18, e18, W18, st18⟩ := stB X7 hx hZ e7 Ar17 (j := (1 : Int32)) hin17 (g := (mkF m 31 #[oa r0, oi 1, oa r2, oi 1, oi 5, oi 1, oi ub] [(.int (ub.toInt8.toInt32)), (.int (1 : Int32)), (.ref r2)])) rfl rfl (hb hby d6_31)
      have V18 : Arv Z h18 r2 kb .byte (5 : Int32) [(.int ((ua.toInt8.toInt32).toInt8.toInt32)), (.int ((ub.toInt8.toInt32).toInt8.toInt32)), (.int (0 : Int32)), (.int (0 : Int32)), (.int (0 : Int32))] (.int (0 : Int32)) := Arv.set Ar17 qk17 S17 M17 H17 G17 (fits_nar_byte _) W18 1 rfl (Nat.le_of_ble_eq_true rfl)
      have N18 := Fr.snoc X18 N7 g_r2
      have c19 : own_G p e below T18 (mkF m 12 #[oa r0, oi ((1 : Int32) + (1 : Int32)), oa r2, oi ((1 : Int32) + (1 : Int32)), oi 5, oi ((1 : Int32) + (1 : Int32)), oi ub] [(.int ((1 : Int32) + (1 : Int32))), (.ref r0)]) (mkF m 32 #[oa r0, oi 1, oa r2, oi 1, oi 5, oi 1, oi ub] []) := by
        intro t kt
        show oS T18 (mkF m 32 #[oa r0, oi 1, oa r2, oi 1, oi 5, oi 1, oi ub] []) _
        refine XS.iinc X18.here hx rfl (hb hby d6_32) rfl (l' := #[oa r0, oi ((1 : Int32) + (1 : Int32)), oa r2, oi 1, oi 5, oi 1, oi ub]) rfl ?_
        show oS T18 (mkF m 35 #[oa r0, oi ((1 : Int32) + (1 : Int32)), oa r2, oi 1, oi 5, oi 1, oi ub] []) _
        refine XS.iinc X18.here hx rfl (hb hby d6_35) rfl (l' := #[oa r0, oi ((1 : Int32) + (1 : Int32)), oa r2, oi ((1 : Int32) + (1 : Int32)), oi 5, oi 1, oi ub]) rfl ?_
        show oS T18 (mkF m 38 #[oa r0, oi ((1 : Int32) + (1 : Int32)), oa r2, oi ((1 : Int32) + (1 : Int32)), oi 5, oi 1, oi ub] []) _
        refine XS.iinc X18.here hx rfl (hb hby d6_38) rfl (l' := #[oa r0, oi ((1 : Int32) + (1 : Int32)), oa r2, oi ((1 : Int32) + (1 : Int32)), oi 5, oi ((1 : Int32) + (1 : Int32)), oi ub]) rfl ?_
        show oS T18 (mkF m 41 #[oa r0, oi ((1 : Int32) + (1 : Int32)), oa r2, oi ((1 : Int32) + (1 : Int32)), oi 5, oi ((1 : Int32) + (1 : Int32)), oi ub] []) _
        refine XS.goto X18.here hx rfl (pc0 := 41) (pc' := 3) rfl (hb hby d6_41) (by decide) (by decide) ?_
        show oS T18 (mkF m 3 #[oa r0, oi ((1 : Int32) + (1 : Int32)), oa r2, oi ((1 : Int32) + (1 : Int32)), oi 5, oi ((1 : Int32) + (1 : Int32)), oi ub] []) _
        refine XS.iload X18.here hx rfl (hb hby d6_3) rfl ?_
        show oS T18 (mkF m 5 #[oa r0, oi ((1 : Int32) + (1 : Int32)), oa r2, oi ((1 : Int32) + (1 : Int32)), oi 5, oi ((1 : Int32) + (1 : Int32)), oi ub] [(.int ((1 : Int32) + (1 : Int32)))]) _
        refine XS.iload X18.here hx rfl (hb hby d6_5) rfl ?_
        show oS T18 (mkF m 7 #[oa r0, oi ((1 : Int32) + (1 : Int32)), oa r2, oi ((1 : Int32) + (1 : Int32)), oi 5, oi ((1 : Int32) + (1 : Int32)), oi ub] [(.int (5 : Int32)), (.int ((1 : Int32) + (1 : Int32)))]) _
        refine XS.icmpNo X18.here hx rfl (hb hby d6_7) rfl (tlt (by decide : ((1 : Int32) + (1 : Int32)) < (5 : Int32))).2.1 ?_
        show oS T18 (mkF m 10 #[oa r0, oi ((1 : Int32) + (1 : Int32)), oa r2, oi ((1 : Int32) + (1 : Int32)), oi 5, oi ((1 : Int32) + (1 : Int32)), oi ub] []) _
        refine XS.aloadN X18.here hx rfl (hb hby d6_10) rfl rfl ?_
        show oS T18 (mkF m 11 #[oa r0, oi ((1 : Int32) + (1 : Int32)), oa r2, oi ((1 : Int32) + (1 : Int32)), oi 5, oi ((1 : Int32) + (1 : Int32)), oi ub] [(.ref r0)]) _
        refine XS.iloadN X18.here hx rfl (hb hby d6_11) rfl ?_
        exact kt
      have c20 : own_G p e below T18 (mkF m 12 #[oa r0, oi 2, oa r2, oi 2, oi 5, oi 2, oi ub] [(.int (2 : Int32)), (.ref r0)]) (mkF m 12 #[oa r0, oi ((1 : Int32) + (1 : Int32)), oa r2, oi ((1 : Int32) + (1 : Int32)), oi 5, oi ((1 : Int32) + (1 : Int32)), oi ub] [(.int ((1 : Int32) + (1 : Int32))), (.ref r0)]) := fun t kt => castTop (congrArg (fun zv => (mkF m 12 #[oa r0, oi zv, oa r2, oi zv, oi 5, oi zv, oi ub] [(.int zv), (.ref r0)])) (show ((1 : Int32) + (1 : Int32)) = (2 : Int32) from by decide)) kt
      have f21 := (f10.other W18 hne)
      have Vc22 := f21
      obtain ⟨cl22, Ar22, qk22, S22, M22, H22, G22⟩ := Vc22
      have hin22 : ¬ ((2 : Int32) < 0 ∨ cl22.slots.size ≤ ((2 : Int32)).toNatClampNeg) := inb_of S22 ⟨by decide, by decide⟩
      have hat22 : cl22.slots[((2 : Int32)).toNatClampNeg]? = some (.int uc) := H22.at hin22 rfl
      have c23 : own_G p e below T18 (mkF m 20 #[oa r0, oi 2, oa r2, oi 2, oi 5, oi 2, oi uc] [(.int (255 : Int32)), (.int uc)]) (mkF m 12 #[oa r0, oi 2, oa r2, oi 2, oi 5, oi 2, oi ub] [(.int (2 : Int32)), (.ref r0)]) := by
        intro t kt
        show oS T18 (mkF m 12 #[oa r0, oi 2, oa r2, oi 2, oi 5, oi 2, oi ub] [(.int (2 : Int32)), (.ref r0)]) _
        refine X18.caload hx (j := (2 : Int32)) (v := (.int uc)) (by rw [e18]; exact Ar22.1) (State.isArrayOf_alike hZ.alike Ar22.2.1) Ar22.2.2 hin22 hat22 (g := (mkF m 12 #[oa r0, oi 2, oa r2, oi 2, oi 5, oi 2, oi ub] [(.int (2 : Int32)), (.ref r0)])) rfl rfl (hb hby d6_12) _ ?_
        show oS T18 (mkF m 13 #[oa r0, oi 2, oa r2, oi 2, oi 5, oi 2, oi ub] [(.int uc)]) _
        refine XS.istore X18.here hx rfl (hb hby d6_13) rfl (l' := #[oa r0, oi 2, oa r2, oi 2, oi 5, oi 2, oi uc]) rfl ?_
        show oS T18 (mkF m 15 #[oa r0, oi 2, oa r2, oi 2, oi 5, oi 2, oi uc] []) _
        refine XS.iload X18.here hx rfl (hb hby d6_15) rfl ?_
        show oS T18 (mkF m 17 #[oa r0, oi 2, oa r2, oi 2, oi 5, oi 2, oi uc] [(.int uc)]) _
        refine XS.sipush X18.here hx rfl (hb hby d6_17) ?_
        exact kt
      by_cases hc20_3 : (255 : Int32) < uc
      · -- it is
        have c24 : own_G p e below T18 (mkF m 25 #[oa r0, oi 2, oa r2, oi 2, oi 5, oi 2, oi uc] [(.int (2 : Int32))]) (mkF m 20 #[oa r0, oi 2, oa r2, oi 2, oi 5, oi 2, oi uc] [(.int (255 : Int32)), (.int uc)]) := by
          intro t kt
          show oS T18 (mkF m 20 #[oa r0, oi 2, oa r2, oi 2, oi 5, oi 2, oi uc] [(.int (255 : Int32)), (.int uc)]) _
          refine XS.icmpNo X18.here hx rfl (hb hby d6_20) rfl (tlt hc20_3).2.2.2 ?_
          show oS T18 (mkF m 23 #[oa r0, oi 2, oa r2, oi 2, oi 5, oi 2, oi uc] []) _
          refine XS.iload X18.here hx rfl (hb hby d6_23) rfl ?_
          exact kt
        obtain ⟨fs, hr, hrun, hended, hW, hsame⟩ := X18.leave (v := some (.int (2 : Int32))) (fun h => by rw [Bd.returns] at h; cases h)
        have f26 := (((Keep.refl h0 [r2]).wr W7 (Or.inl (List.mem_of_getElem? (i := 0) rfl))).wr W18 (Or.inl (List.mem_of_getElem? (i := 0) rfl)))
        refine ⟨_, _, pre0 _ (c2 _ (c5 _ (st7 _ (c8 _ (c9 _ (c12 _ (c16 _ (st18 _ (c19 _ (c20 _ (c23 _ (c24 _ (?_))))))))))))), hrun, hended, _, _, rfl, ?_, ⟨_, rfl⟩, hW, hsame.mono (by decide) (by decide)⟩
        · show Steps p.tables e below (T18.setTop (mkF m 25 #[oa r0, oi 2, oa r2, oi 2, oi 5, oi 2, oi uc] [(.int (2 : Int32))])) _
          exact retI X18 hx Bd.returns (hb hby d6_25) hr
        · show Q6 Z r0 r2 ka kb ua ub uc ud ue h0 n0 _ T18.heap _
          rw [e18]
          exact ⟨congrArg (fun z => some (Value.int z)) (show (2 : Int32) = own_cnt ua ub uc ud ue from by unfold own_cnt; rw [if_neg hc20, if_neg hc20_2, if_pos hc20_3]), N18, f26, fun q => absurd hc20_3 (q.2.2.1)⟩
      · -- it isn't
        have c27 : own_G p e below T18 (mkF m 31 #[oa r0, oi 2, oa r2, oi 2, oi 5, oi 2, oi uc] [(.int (uc.toInt8.toInt32)), (.int (2 : Int32)), (.ref r2)]) (mkF m 20 #[oa r0, oi 2, oa r2, oi 2, oi 5, oi 2, oi uc] [(.int (255 : Int32)), (.int uc)]) := by
          intro t kt
          show oS T18 (mkF m 20 #[oa r0, oi 2, oa r2, oi 2, oi 5, oi 2, oi uc] [(.int (255 : Int32)), (.int uc)]) _
          refine XS.icmpYes X18.here hx rfl (pc0 := 20) (pc' := 26) rfl (hb hby d6_20) rfl (flt hc20_3).2.2.2 (by decide) (by decide) ?_
          show oS T18 (mkF m 26 #[oa r0, oi 2, oa r2, oi 2, oi 5, oi 2, oi uc] []) _
          refine XS.aloadN X18.here hx rfl (hb hby d6_26) rfl rfl ?_
          show oS T18 (mkF m 27 #[oa r0, oi 2, oa r2, oi 2, oi 5, oi 2, oi uc] [(.ref r2)]) _
          refine XS.iloadN X18.here hx rfl (hb hby d6_27) rfl ?_
          show oS T18 (mkF m 28 #[oa r0, oi 2, oa r2, oi 2, oi 5, oi 2, oi uc] [(.int (2 : Int32)), (.ref r2)]) _
          refine XS.iload X18.here hx rfl (hb hby d6_28) rfl ?_
          show oS T18 (mkF m 30 #[oa r0, oi 2, oa r2, oi 2, oi 5, oi 2, oi uc] [(.int uc), (.int (2 : Int32)), (.ref r2)]) _
          refine XS.i2b X18.here hx rfl (hb hby d6_30) rfl ?_
          exact kt
        have Vc28 := V18
        obtain ⟨cl28, Ar28, qk28, S28, M28, H28, G28⟩ := Vc28
        have hin28 : ¬ ((2 : Int32) < 0 ∨ cl28.slots.size ≤ ((2 : Int32)).toNatClampNeg) := inb_of S28 ⟨by decide, by decide⟩
        obtain ⟨T29, h29, X29, e29, W29, st29⟩ := stB X18 hx hZ e18 Ar28 (j := (2 : Int32)) hin28 (g := (mkF m 31 #[oa r0, oi 2, oa r2, oi 2, oi 5, oi 2, oi uc] [(.int (uc.toInt8.toInt32)), (.int (2 : Int32)), (.ref r2)])) rfl rfl (hb hby d6_31)
        have V29 : Arv Z h29 r2 kb .byte (5 : Int32) [(.int ((ua.toInt8.toInt32).toInt8.toInt32)), (.int ((ub.toInt8.toInt32).toInt8.toInt32)), (.int ((uc.toInt8.toInt32).toInt8.toInt32)), (.int (0 : Int32)), (.int (0 : Int32))] (.int (0 : Int32)) := Arv.set Ar28 qk28 S28 M28 H28 G28 (fits_nar_byte _) W29 2 rfl (Nat.le_of_ble_eq_true rfl)
        have N29 := Fr.snoc X29 N18 g_r2
        have c30 : own_G p e below T29 (mkF m 12 #[oa r0, oi ((2 : Int32) + (1 : Int32)), oa r2, oi ((2 : Int32) + (1 : Int32)), oi 5, oi ((2 : Int32) + (1 : Int32)), oi uc] [(.int ((2 : Int32) + (1 : Int32))), (.ref r0)]) (mkF m 32 #[oa r0, oi 2, oa r2, oi 2, oi 5, oi 2, oi uc] []) := by
          intro t kt
          show oS T29 (mkF m 32 #[oa r0, oi 2, oa r2, oi 2, oi 5, oi 2, oi uc] []) _
          refine XS.iinc X29.here hx rfl (hb hby d6_32) rfl (l' := #[oa r0, oi ((2 : Int32) + (1 : Int32)), oa r2, oi 2, oi 5, oi 2, oi uc]) rfl ?_
          show oS T29 (mkF m 35 #[oa r0, oi ((2 : Int32) + (1 : Int32)), oa r2, oi 2, oi 5, oi 2, oi uc] []) _
          refine XS.iinc X29.here hx rfl (hb hby d6_35) rfl (l' := #[oa r0, oi ((2 : Int32) + (1 : Int32)), oa r2, oi ((2 : Int32) + (1 : Int32)), oi 5, oi 2, oi uc]) rfl ?_
          show oS T29 (mkF m 38 #[oa r0, oi ((2 : Int32) + (1 : Int32)), oa r2, oi ((2 : Int32) + (1 : Int32)), oi 5, oi 2, oi uc] []) _
          refine XS.iinc X29.here hx rfl (hb hby d6_38) rfl (l' := #[oa r0, oi ((2 : Int32) + (1 : Int32)), oa r2, oi ((2 : Int32) + (1 : Int32)), oi 5, oi ((2 : Int32) + (1 : Int32)), oi uc]) rfl ?_
          show oS T29 (mkF m 41 #[oa r0, oi ((2 : Int32) + (1 : Int32)), oa r2, oi ((2 : Int32) + (1 : Int32)), oi 5, oi ((2 : Int32) + (1 : Int32)), oi uc] []) _
          refine XS.goto X29.here hx rfl (pc0 := 41) (pc' := 3) rfl (hb hby d6_41) (by decide) (by decide) ?_
          show oS T29 (mkF m 3 #[oa r0, oi ((2 : Int32) + (1 : Int32)), oa r2, oi ((2 : Int32) + (1 : Int32)), oi 5, oi ((2 : Int32) + (1 : Int32)), oi uc] []) _
          refine XS.iload X29.here hx rfl (hb hby d6_3) rfl ?_
          show oS T29 (mkF m 5 #[oa r0, oi ((2 : Int32) + (1 : Int32)), oa r2, oi ((2 : Int32) + (1 : Int32)), oi 5, oi ((2 : Int32) + (1 : Int32)), oi uc] [(.int ((2 : Int32) + (1 : Int32)))]) _
          refine XS.iload X29.here hx rfl (hb hby d6_5) rfl ?_
          show oS T29 (mkF m 7 #[oa r0, oi ((2 : Int32) + (1 : Int32)), oa r2, oi ((2 : Int32) + (1 : Int32)), oi 5, oi ((2 : Int32) + (1 : Int32)), oi uc] [(.int (5 : Int32)), (.int ((2 : Int32) + (1 : Int32)))]) _
          refine XS.icmpNo X29.here hx rfl (hb hby d6_7) rfl (tlt (by decide : ((2 : Int32) + (1 : Int32)) < (5 : Int32))).2.1 ?_
          show oS T29 (mkF m 10 #[oa r0, oi ((2 : Int32) + (1 : Int32)), oa r2, oi ((2 : Int32) + (1 : Int32)), oi 5, oi ((2 : Int32) + (1 : Int32)), oi uc] []) _
          refine XS.aloadN X29.here hx rfl (hb hby d6_10) rfl rfl ?_
          show oS T29 (mkF m 11 #[oa r0, oi ((2 : Int32) + (1 : Int32)), oa r2, oi ((2 : Int32) + (1 : Int32)), oi 5, oi ((2 : Int32) + (1 : Int32)), oi uc] [(.ref r0)]) _
          refine XS.iloadN X29.here hx rfl (hb hby d6_11) rfl ?_
          exact kt
        have c31 : own_G p e below T29 (mkF m 12 #[oa r0, oi 3, oa r2, oi 3, oi 5, oi 3, oi uc] [(.int (3 : Int32)), (.ref r0)]) (mkF m 12 #[oa r0, oi ((2 : Int32) + (1 : Int32)), oa r2, oi ((2 : Int32) + (1 : Int32)), oi 5, oi ((2 : Int32) + (1 : Int32)), oi uc] [(.int ((2 : Int32) + (1 : Int32))), (.ref r0)]) := fun t kt => castTop (congrArg (fun zv => (mkF m 12 #[oa r0, oi zv, oa r2, oi zv, oi 5, oi zv, oi uc] [(.int zv), (.ref r0)])) (show ((2 : Int32) + (1 : Int32)) = (3 : Int32) from by decide)) kt
        have f32 := (f21.other W29 hne)
        have Vc33 := f32
        obtain ⟨cl33, Ar33, qk33, S33, M33, H33, G33⟩ := Vc33
        have hin33 : ¬ ((3 : Int32) < 0 ∨ cl33.slots.size ≤ ((3 : Int32)).toNatClampNeg) := inb_of S33 ⟨by decide, by decide⟩
        have hat33 : cl33.slots[((3 : Int32)).toNatClampNeg]? = some (.int ud) := H33.at hin33 rfl
        have c34 : own_G p e below T29 (mkF m 20 #[oa r0, oi 3, oa r2, oi 3, oi 5, oi 3, oi ud] [(.int (255 : Int32)), (.int ud)]) (mkF m 12 #[oa r0, oi 3, oa r2, oi 3, oi 5, oi 3, oi uc] [(.int (3 : Int32)), (.ref r0)]) := by
          intro t kt
          show oS T29 (mkF m 12 #[oa r0, oi 3, oa r2, oi 3, oi 5, oi 3, oi uc] [(.int (3 : Int32)), (.ref r0)]) _
          refine X29.caload hx (j := (3 : Int32)) (v := (.int ud)) (by rw [e29]; exact Ar33.1) (State.isArrayOf_alike hZ.alike Ar33.2.1) Ar33.2.2 hin33 hat33 (g := (mkF m 12 #[oa r0, oi 3, oa r2, oi 3, oi 5, oi 3, oi uc] [(.int (3 : Int32)), (.ref r0)])) rfl rfl (hb hby d6_12) _ ?_
          show oS T29 (mkF m 13 #[oa r0, oi 3, oa r2, oi 3, oi 5, oi 3, oi uc] [(.int ud)]) _
          refine XS.istore X29.here hx rfl (hb hby d6_13) rfl (l' := #[oa r0, oi 3, oa r2, oi 3, oi 5, oi 3, oi ud]) rfl ?_
          show oS T29 (mkF m 15 #[oa r0, oi 3, oa r2, oi 3, oi 5, oi 3, oi ud] []) _
          refine XS.iload X29.here hx rfl (hb hby d6_15) rfl ?_
          show oS T29 (mkF m 17 #[oa r0, oi 3, oa r2, oi 3, oi 5, oi 3, oi ud] [(.int ud)]) _
          refine XS.sipush X29.here hx rfl (hb hby d6_17) ?_
          exact kt
        by_cases hc20_4 : (255 : Int32) < ud
        · -- it is
          have c35 : own_G p e below T29 (mkF m 25 #[oa r0, oi 3, oa r2, oi 3, oi 5, oi 3, oi ud] [(.int (3 : Int32))]) (mkF m 20 #[oa r0, oi 3, oa r2, oi 3, oi 5, oi 3, oi ud] [(.int (255 : Int32)), (.int ud)]) := by
            intro t kt
            show oS T29 (mkF m 20 #[oa r0, oi 3, oa r2, oi 3, oi 5, oi 3, oi ud] [(.int (255 : Int32)), (.int ud)]) _
            refine XS.icmpNo X29.here hx rfl (hb hby d6_20) rfl (tlt hc20_4).2.2.2 ?_
            show oS T29 (mkF m 23 #[oa r0, oi 3, oa r2, oi 3, oi 5, oi 3, oi ud] []) _
            refine XS.iload X29.here hx rfl (hb hby d6_23) rfl ?_
            exact kt
          obtain ⟨fs, hr, hrun, hended, hW, hsame⟩ := X29.leave (v := some (.int (3 : Int32))) (fun h => by rw [Bd.returns] at h; cases h)
          have f37 := ((((Keep.refl h0 [r2]).wr W7 (Or.inl (List.mem_of_getElem? (i := 0) rfl))).wr W18 (Or.inl (List.mem_of_getElem? (i := 0) rfl))).wr W29 (Or.inl (List.mem_of_getElem? (i := 0) rfl)))
          refine ⟨_, _, pre0 _ (c2 _ (c5 _ (st7 _ (c8 _ (c9 _ (c12 _ (c16 _ (st18 _ (c19 _ (c20 _ (c23 _ (c27 _ (st29 _ (c30 _ (c31 _ (c34 _ (c35 _ (?_)))))))))))))))))), hrun, hended, _, _, rfl, ?_, ⟨_, rfl⟩, hW, hsame.mono (by decide) (by decide)⟩
          · show Steps p.tables e below (T29.setTop (mkF m 25 #[oa r0, oi 3, oa r2, oi 3, oi 5, oi 3, oi ud] [(.int (3 : Int32))])) _
            exact retI X29 hx Bd.returns (hb hby d6_25) hr
          · show Q6 Z r0 r2 ka kb ua ub uc ud ue h0 n0 _ T29.heap _
            rw [e29]
            exact ⟨congrArg (fun z => some (Value.int z)) (show (3 : Int32) = own_cnt ua ub uc ud ue from by unfold own_cnt; rw [if_neg hc20, if_neg hc20_2, if_neg hc20_3, if_pos hc20_4]), N29, f37, fun q => absurd hc20_4 (q.2.2.2.1)⟩
        · -- it isn't
          have c38 : own_G p e below T29 (mkF m 31 #[oa r0, oi 3, oa r2, oi 3, oi 5, oi 3, oi ud] [(.int (ud.toInt8.toInt32)), (.int (3 : Int32)), (.ref r2)]) (mkF m 20 #[oa r0, oi 3, oa r2, oi 3, oi 5, oi 3, oi ud] [(.int (255 : Int32)), (.int ud)]) := by
            intro t kt
            show oS T29 (mkF m 20 #[oa r0, oi 3, oa r2, oi 3, oi 5, oi 3, oi ud] [(.int (255 : Int32)), (.int ud)]) _
            refine XS.icmpYes X29.here hx rfl (pc0 := 20) (pc' := 26) rfl (hb hby d6_20) rfl (flt hc20_4).2.2.2 (by decide) (by decide) ?_
            show oS T29 (mkF m 26 #[oa r0, oi 3, oa r2, oi 3, oi 5, oi 3, oi ud] []) _
            refine XS.aloadN X29.here hx rfl (hb hby d6_26) rfl rfl ?_
            show oS T29 (mkF m 27 #[oa r0, oi 3, oa r2, oi 3, oi 5, oi 3, oi ud] [(.ref r2)]) _
            refine XS.iloadN X29.here hx rfl (hb hby d6_27) rfl ?_
            show oS T29 (mkF m 28 #[oa r0, oi 3, oa r2, oi 3, oi 5, oi 3, oi ud] [(.int (3 : Int32)), (.ref r2)]) _
            refine XS.iload X29.here hx rfl (hb hby d6_28) rfl ?_
            show oS T29 (mkF m 30 #[oa r0, oi 3, oa r2, oi 3, oi 5, oi 3, oi ud] [(.int ud), (.int (3 : Int32)), (.ref r2)]) _
            refine XS.i2b X29.here hx rfl (hb hby d6_30) rfl ?_
            exact kt
          have Vc39 := V29
          obtain ⟨cl39, Ar39, qk39, S39, M39, H39, G39⟩ := Vc39
          have hin39 : ¬ ((3 : Int32) < 0 ∨ cl39.slots.size ≤ ((3 : Int32)).toNatClampNeg) := inb_of S39 ⟨by decide, by decide⟩
          obtain ⟨T40, h40, X40, e40, W40, st40⟩ := stB X29 hx hZ e29 Ar39 (j := (3 : Int32)) hin39 (g := (mkF m 31 #[oa r0, oi 3, oa r2, oi 3, oi 5, oi 3, oi ud] [(.int (ud.toInt8.toInt32)), (.int (3 : Int32)), (.ref r2)])) rfl rfl (hb hby d6_31)
          have V40 : Arv Z h40 r2 kb .byte (5 : Int32) [(.int ((ua.toInt8.toInt32).toInt8.toInt32)), (.int ((ub.toInt8.toInt32).toInt8.toInt32)), (.int ((uc.toInt8.toInt32).toInt8.toInt32)), (.int ((ud.toInt8.toInt32).toInt8.toInt32)), (.int (0 : Int32))] (.int (0 : Int32)) := Arv.set Ar39 qk39 S39 M39 H39 G39 (fits_nar_byte _) W40 3 rfl (Nat.le_of_ble_eq_true rfl)
          have N40 := Fr.snoc X40 N29 g_r2
          have c41 : own_G p e below T40 (mkF m 12 #[oa r0, oi ((3 : Int32) + (1 : Int32)), oa r2, oi ((3 : Int32) + (1 : Int32)), oi 5, oi ((3 : Int32) + (1 : Int32)), oi ud] [(.int ((3 : Int32) + (1 : Int32))), (.ref r0)]) (mkF m 32 #[oa r0, oi 3, oa r2, oi 3, oi 5, oi 3, oi ud] []) := by
            intro t kt
            show oS T40 (mkF m 32 #[oa r0, oi 3, oa r2, oi 3, oi 5, oi 3, oi ud] []) _
            refine XS.iinc X40.here hx rfl (hb hby d6_32) rfl (l' := #[oa r0, oi ((3 : Int32) + (1 : Int32)), oa r2, oi 3, oi 5, oi 3, oi ud]) rfl ?_
            show oS T40 (mkF m 35 #[oa r0, oi ((3 : Int32) + (1 : Int32)), oa r2, oi 3, oi 5, oi 3, oi ud] []) _
            refine XS.iinc X40.here hx rfl (hb hby d6_35) rfl (l' := #[oa r0, oi ((3 : Int32) + (1 : Int32)), oa r2, oi ((3 : Int32) + (1 : Int32)), oi 5, oi 3, oi ud]) rfl ?_
            show oS T40 (mkF m 38 #[oa r0, oi ((3 : Int32) + (1 : Int32)), oa r2, oi ((3 : Int32) + (1 : Int32)), oi 5, oi 3, oi ud] []) _
            refine XS.iinc X40.here hx rfl (hb hby d6_38) rfl (l' := #[oa r0, oi ((3 : Int32) + (1 : Int32)), oa r2, oi ((3 : Int32) + (1 : Int32)), oi 5, oi ((3 : Int32) + (1 : Int32)), oi ud]) rfl ?_
            show oS T40 (mkF m 41 #[oa r0, oi ((3 : Int32) + (1 : Int32)), oa r2, oi ((3 : Int32) + (1 : Int32)), oi 5, oi ((3 : Int32) + (1 : Int32)), oi ud] []) _
            refine XS.goto X40.here hx rfl (pc0 := 41) (pc' := 3) rfl (hb hby d6_41) (by decide) (by decide) ?_
            show oS T40 (mkF m 3 #[oa r0, oi ((3 : Int32) + (1 : Int32)), oa r2, oi ((3 : Int32) + (1 : Int32)), oi 5, oi ((3 : Int32) + (1 : Int32)), oi ud] []) _
            refine XS.iload X40.here hx rfl (hb hby d6_3) rfl ?_
            show oS T40 (mkF m 5 #[oa r0, oi ((3 : Int32) + (1 : Int32)), oa r2, oi ((3 : Int32) + (1 : Int32)), oi 5, oi ((3 : Int32) + (1 : Int32)), oi ud] [(.int ((3 : Int32) + (1 : Int32)))]) _
            refine XS.iload X40.here hx rfl (hb hby d6_5) rfl ?_
            show oS T40 (mkF m 7 #[oa r0, oi ((3 : Int32) + (1 : Int32)), oa r2, oi ((3 : Int32) + (1 : Int32)), oi 5, oi ((3 : Int32) + (1 : Int32)), oi ud] [(.int (5 : Int32)), (.int ((3 : Int32) + (1 : Int32)))]) _
            refine XS.icmpNo X40.here hx rfl (hb hby d6_7) rfl (tlt (by decide : ((3 : Int32) + (1 : Int32)) < (5 : Int32))).2.1 ?_
            show oS T40 (mkF m 10 #[oa r0, oi ((3 : Int32) + (1 : Int32)), oa r2, oi ((3 : Int32) + (1 : Int32)), oi 5, oi ((3 : Int32) + (1 : Int32)), oi ud] []) _
            refine XS.aloadN X40.here hx rfl (hb hby d6_10) rfl rfl ?_
            show oS T40 (mkF m 11 #[oa r0, oi ((3 : Int32) + (1 : Int32)), oa r2, oi ((3 : Int32) + (1 : Int32)), oi 5, oi ((3 : Int32) + (1 : Int32)), oi ud] [(.ref r0)]) _
            refine XS.iloadN X40.here hx rfl (hb hby d6_11) rfl ?_
            exact kt
          have c42 : own_G p e below T40 (mkF m 12 #[oa r0, oi 4, oa r2, oi 4, oi 5, oi 4, oi ud] [(.int (4 : Int32)), (.ref r0)]) (mkF m 12 #[oa r0, oi ((3 : Int32) + (1 : Int32)), oa r2, oi ((3 : Int32) + (1 : Int32)), oi 5, oi ((3 : Int32) + (1 : Int32)), oi ud] [(.int ((3 : Int32) + (1 : Int32))), (.ref r0)]) := fun t kt => castTop (congrArg (fun zv => (mkF m 12 #[oa r0, oi zv, oa r2, oi zv, oi 5, oi zv, oi ud] [(.int zv), (.ref r0)])) (show ((3 : Int32) + (1 : Int32)) = (4 : Int32) from by decide)) kt
          have f43 := (f32.other W40 hne)
          have Vc44 := f43
          obtain ⟨cl44, Ar44, qk44, S44, M44, H44, G44⟩ := Vc44
          have hin44 : ¬ ((4 : Int32) < 0 ∨ cl44.slots.size ≤ ((4 : Int32)).toNatClampNeg) := inb_of S44 ⟨by decide, by decide⟩
          have hat44 : cl44.slots[((4 : Int32)).toNatClampNeg]? = some (.int ue) := H44.at hin44 rfl
          have c45 : own_G p e below T40 (mkF m 20 #[oa r0, oi 4, oa r2, oi 4, oi 5, oi 4, oi ue] [(.int (255 : Int32)), (.int ue)]) (mkF m 12 #[oa r0, oi 4, oa r2, oi 4, oi 5, oi 4, oi ud] [(.int (4 : Int32)), (.ref r0)]) := by
            intro t kt
            show oS T40 (mkF m 12 #[oa r0, oi 4, oa r2, oi 4, oi 5, oi 4, oi ud] [(.int (4 : Int32)), (.ref r0)]) _
            refine X40.caload hx (j := (4 : Int32)) (v := (.int ue)) (by rw [e40]; exact Ar44.1) (State.isArrayOf_alike hZ.alike Ar44.2.1) Ar44.2.2 hin44 hat44 (g := (mkF m 12 #[oa r0, oi 4, oa r2, oi 4, oi 5, oi 4, oi ud] [(.int (4 : Int32)), (.ref r0)])) rfl rfl (hb hby d6_12) _ ?_
            show oS T40 (mkF m 13 #[oa r0, oi 4, oa r2, oi 4, oi 5, oi 4, oi ud] [(.int ue)]) _
            refine XS.istore X40.here hx rfl (hb hby d6_13) rfl (l' := #[oa r0, oi 4, oa r2, oi 4, oi 5, oi 4, oi ue]) rfl ?_
            show oS T40 (mkF m 15 #[oa r0, oi 4, oa r2, oi 4, oi 5, oi 4, oi ue] []) _
            refine XS.iload X40.here hx rfl (hb hby d6_15) rfl ?_
            show oS T40 (mkF m 17 #[oa r0, oi 4, oa r2, oi 4, oi 5, oi 4, oi ue] [(.int ue)]) _
            refine XS.sipush X40.here hx rfl (hb hby d6_17) ?_
            exact kt
          by_cases hc20_5 : (255 : Int32) < ue
          · -- it is
            have c46 : own_G p e below T40 (mkF m 25 #[oa r0, oi 4, oa r2, oi 4, oi 5, oi 4, oi ue] [(.int (4 : Int32))]) (mkF m 20 #[oa r0, oi 4, oa r2, oi 4, oi 5, oi 4, oi ue] [(.int (255 : Int32)), (.int ue)]) := by
              intro t kt
              show oS T40 (mkF m 20 #[oa r0, oi 4, oa r2, oi 4, oi 5, oi 4, oi ue] [(.int (255 : Int32)), (.int ue)]) _
              refine XS.icmpNo X40.here hx rfl (hb hby d6_20) rfl (tlt hc20_5).2.2.2 ?_
              show oS T40 (mkF m 23 #[oa r0, oi 4, oa r2, oi 4, oi 5, oi 4, oi ue] []) _
              refine XS.iload X40.here hx rfl (hb hby d6_23) rfl ?_
              exact kt
            obtain ⟨fs, hr, hrun, hended, hW, hsame⟩ := X40.leave (v := some (.int (4 : Int32))) (fun h => by rw [Bd.returns] at h; cases h)
            have f48 := (((((Keep.refl h0 [r2]).wr W7 (Or.inl (List.mem_of_getElem? (i := 0) rfl))).wr W18 (Or.inl (List.mem_of_getElem? (i := 0) rfl))).wr W29 (Or.inl (List.mem_of_getElem? (i := 0) rfl))).wr W40 (Or.inl (List.mem_of_getElem? (i := 0) rfl)))
            refine ⟨_, _, pre0 _ (c2 _ (c5 _ (st7 _ (c8 _ (c9 _ (c12 _ (c16 _ (st18 _ (c19 _ (c20 _ (c23 _ (c27 _ (st29 _ (c30 _ (c31 _ (c34 _ (c38 _ (st40 _ (c41 _ (c42 _ (c45 _ (c46 _ (?_))))))))))))))))))))))), hrun, hended, _, _, rfl, ?_, ⟨_, rfl⟩, hW, hsame.mono (by decide) (by decide)⟩
            · show Steps p.tables e below (T40.setTop (mkF m 25 #[oa r0, oi 4, oa r2, oi 4, oi 5, oi 4, oi ue] [(.int (4 : Int32))])) _
              exact retI X40 hx Bd.returns (hb hby d6_25) hr
            · show Q6 Z r0 r2 ka kb ua ub uc ud ue h0 n0 _ T40.heap _
              rw [e40]
              exact ⟨congrArg (fun z => some (Value.int z)) (show (4 : Int32) = own_cnt ua ub uc ud ue from by unfold own_cnt; rw [if_neg hc20, if_neg hc20_2, if_neg hc20_3, if_neg hc20_4, if_pos hc20_5]), N40, f48, fun q => absurd hc20_5 (q.2.2.2.2)⟩
          · -- it isn't
            have c49 : own_G p e below T40 (mkF m 31 #[oa r0, oi 4, oa r2, oi 4, oi 5, oi 4, oi ue] [(.int (ue.toInt8.toInt32)), (.int (4 : Int32)), (.ref r2)]) (mkF m 20 #[oa r0, oi 4, oa r2, oi 4, oi 5, oi 4, oi ue] [(.int (255 : Int32)), (.int ue)]) := by
              intro t kt
              show oS T40 (mkF m 20 #[oa r0, oi 4, oa r2, oi 4, oi 5, oi 4, oi ue] [(.int (255 : Int32)), (.int ue)]) _
              refine XS.icmpYes X40.here hx rfl (pc0 := 20) (pc' := 26) rfl (hb hby d6_20) rfl (flt hc20_5).2.2.2 (by decide) (by decide) ?_
              show oS T40 (mkF m 26 #[oa r0, oi 4, oa r2, oi 4, oi 5, oi 4, oi ue] []) _
              refine XS.aloadN X40.here hx rfl (hb hby d6_26) rfl rfl ?_
              show oS T40 (mkF m 27 #[oa r0, oi 4, oa r2, oi 4, oi 5, oi 4, oi ue] [(.ref r2)]) _
              refine XS.iloadN X40.here hx rfl (hb hby d6_27) rfl ?_
              show oS T40 (mkF m 28 #[oa r0, oi 4, oa r2, oi 4, oi 5, oi 4, oi ue] [(.int (4 : Int32)), (.ref r2)]) _
              refine XS.iload X40.here hx rfl (hb hby d6_28) rfl ?_
              show oS T40 (mkF m 30 #[oa r0, oi 4, oa r2, oi 4, oi 5, oi 4, oi ue] [(.int ue), (.int (4 : Int32)), (.ref r2)]) _
              refine XS.i2b X40.here hx rfl (hb hby d6_30) rfl ?_
              exact kt
            have Vc50 := V40
            obtain ⟨cl50, Ar50, qk50, S50, M50, H50, G50⟩ := Vc50
            have hin50 : ¬ ((4 : Int32) < 0 ∨ cl50.slots.size ≤ ((4 : Int32)).toNatClampNeg) := inb_of S50 ⟨by decide, by decide⟩
            obtain ⟨T51, h51, X51, e51, W51, st51⟩ := stB X40 hx hZ e40 Ar50 (j := (4 : Int32)) hin50 (g := (mkF m 31 #[oa r0, oi 4, oa r2, oi 4, oi 5, oi 4, oi ue] [(.int (ue.toInt8.toInt32)), (.int (4 : Int32)), (.ref r2)])) rfl rfl (hb hby d6_31)
            have V51 : Arv Z h51 r2 kb .byte (5 : Int32) [(.int ((ua.toInt8.toInt32).toInt8.toInt32)), (.int ((ub.toInt8.toInt32).toInt8.toInt32)), (.int ((uc.toInt8.toInt32).toInt8.toInt32)), (.int ((ud.toInt8.toInt32).toInt8.toInt32)), (.int ((ue.toInt8.toInt32).toInt8.toInt32))] (.int (0 : Int32)) := Arv.set Ar50 qk50 S50 M50 H50 G50 (fits_nar_byte _) W51 4 rfl (Nat.le_of_ble_eq_true rfl)
            have N51 := Fr.snoc X51 N40 g_r2
            have c52 : own_G p e below T51 (mkF m 46 #[oa r0, oi ((4 : Int32) + (1 : Int32)), oa r2, oi ((4 : Int32) + (1 : Int32)), oi 5, oi ((4 : Int32) + (1 : Int32)), oi ue] [(.int (5 : Int32))]) (mkF m 32 #[oa r0, oi 4, oa r2, oi 4, oi 5, oi 4, oi ue] []) := by
              intro t kt
              show oS T51 (mkF m 32 #[oa r0, oi 4, oa r2, oi 4, oi 5, oi 4, oi ue] []) _
              refine XS.iinc X51.here hx rfl (hb hby d6_32) rfl (l' := #[oa r0, oi ((4 : Int32) + (1 : Int32)), oa r2, oi 4, oi 5, oi 4, oi ue]) rfl ?_
              show oS T51 (mkF m 35 #[oa r0, oi ((4 : Int32) + (1 : Int32)), oa r2, oi 4, oi 5, oi 4, oi ue] []) _
              refine XS.iinc X51.here hx rfl (hb hby d6_35) rfl (l' := #[oa r0, oi ((4 : Int32) + (1 : Int32)), oa r2, oi ((4 : Int32) + (1 : Int32)), oi 5, oi 4, oi ue]) rfl ?_
              show oS T51 (mkF m 38 #[oa r0, oi ((4 : Int32) + (1 : Int32)), oa r2, oi ((4 : Int32) + (1 : Int32)), oi 5, oi 4, oi ue] []) _
              refine XS.iinc X51.here hx rfl (hb hby d6_38) rfl (l' := #[oa r0, oi ((4 : Int32) + (1 : Int32)), oa r2, oi ((4 : Int32) + (1 : Int32)), oi 5, oi ((4 : Int32) + (1 : Int32)), oi ue]) rfl ?_
              show oS T51 (mkF m 41 #[oa r0, oi ((4 : Int32) + (1 : Int32)), oa r2, oi ((4 : Int32) + (1 : Int32)), oi 5, oi ((4 : Int32) + (1 : Int32)), oi ue] []) _
              refine XS.goto X51.here hx rfl (pc0 := 41) (pc' := 3) rfl (hb hby d6_41) (by decide) (by decide) ?_
              show oS T51 (mkF m 3 #[oa r0, oi ((4 : Int32) + (1 : Int32)), oa r2, oi ((4 : Int32) + (1 : Int32)), oi 5, oi ((4 : Int32) + (1 : Int32)), oi ue] []) _
              refine XS.iload X51.here hx rfl (hb hby d6_3) rfl ?_
              show oS T51 (mkF m 5 #[oa r0, oi ((4 : Int32) + (1 : Int32)), oa r2, oi ((4 : Int32) + (1 : Int32)), oi 5, oi ((4 : Int32) + (1 : Int32)), oi ue] [(.int ((4 : Int32) + (1 : Int32)))]) _
              refine XS.iload X51.here hx rfl (hb hby d6_5) rfl ?_
              show oS T51 (mkF m 7 #[oa r0, oi ((4 : Int32) + (1 : Int32)), oa r2, oi ((4 : Int32) + (1 : Int32)), oi 5, oi ((4 : Int32) + (1 : Int32)), oi ue] [(.int (5 : Int32)), (.int ((4 : Int32) + (1 : Int32)))]) _
              refine XS.icmpYes X51.here hx rfl (pc0 := 7) (pc' := 44) rfl (hb hby d6_7) rfl (flt (by decide : ¬ (((4 : Int32) + (1 : Int32)) < (5 : Int32)))).2.1 (by decide) (by decide) ?_
              show oS T51 (mkF m 44 #[oa r0, oi ((4 : Int32) + (1 : Int32)), oa r2, oi ((4 : Int32) + (1 : Int32)), oi 5, oi ((4 : Int32) + (1 : Int32)), oi ue] []) _
              refine XS.iload X51.here hx rfl (hb hby d6_44) rfl ?_
              exact kt
            obtain ⟨fs, hr, hrun, hended, hW, hsame⟩ := X51.leave (v := some (.int (5 : Int32))) (fun h => by rw [Bd.returns] at h; cases h)
            have f54 := ((((((Keep.refl h0 [r2]).wr W7 (Or.inl (List.mem_of_getElem? (i := 0) rfl))).wr W18 (Or.inl (List.mem_of_getElem? (i := 0) rfl))).wr W29 (Or.inl (List.mem_of_getElem? (i := 0) rfl))).wr W40 (Or.inl (List.mem_of_getElem? (i := 0) rfl))).wr W51 (Or.inl (List.mem_of_getElem? (i := 0) rfl)))
            refine ⟨_, _, pre0 _ (c2 _ (c5 _ (st7 _ (c8 _ (c9 _ (c12 _ (c16 _ (st18 _ (c19 _ (c20 _ (c23 _ (c27 _ (st29 _ (c30 _ (c31 _ (c34 _ (c38 _ (st40 _ (c41 _ (c42 _ (c45 _ (c49 _ (st51 _ (c52 _ (?_))))))))))))))))))))))))), hrun, hended, _, _, rfl, ?_, ⟨_, rfl⟩, hW, hsame.mono (by decide) (by decide)⟩
            · show Steps p.tables e below (T51.setTop (mkF m 46 #[oa r0, oi ((4 : Int32) + (1 : Int32)), oa r2, oi ((4 : Int32) + (1 : Int32)), oi 5, oi ((4 : Int32) + (1 : Int32)), oi ue] [(.int (5 : Int32))])) _
              exact retI X51 hx Bd.returns (hb hby d6_46) hr
            · show Q6 Z r0 r2 ka kb ua ub uc ud ue h0 n0 _ T51.heap _
              rw [e51]
              exact ⟨congrArg (fun z => some (Value.int z)) (show (5 : Int32) = own_cnt ua ub uc ud ue from by unfold own_cnt; rw [if_neg hc20, if_neg hc20_2, if_neg hc20_3, if_neg hc20_4, if_neg hc20_5]), N51, f54, fun _ => V51⟩
theorem d5_0 : decode jdk_52_method_16_code 0 = .ok (.iload_n 2, 1) := by decide +kernel
theorem d5_1 : decode jdk_52_method_16_code 1 = .ok (.newarray .byte, 2) := by decide +kernel
theorem d5_3 : decode jdk_52_method_16_code 3 = .ok (.astore_n 3, 1) := by decide +kernel
theorem d5_4 : decode jdk_52_method_16_code 4 = .ok (.aload_n 0, 1) := by decide +kernel
theorem d5_5 : decode jdk_52_method_16_code 5 = .ok (.iload_n 1, 1) := by decide +kernel
theorem d5_6 : decode jdk_52_method_16_code 6 = .ok (.aload_n 3, 1) := by decide +kernel
theorem d5_7 : decode jdk_52_method_16_code 7 = .ok (.iconst 0, 1) := by decide +kernel
theorem d5_8 : decode jdk_52_method_16_code 8 = .ok (.iload_n 2, 1) := by decide +kernel
theorem d5_9 : decode jdk_52_method_16_code 9 = .ok (.invokestatic 115, 3) := by decide +kernel
theorem d5_12 : decode jdk_52_method_16_code 12 = .ok (.istore 4, 2) := by decide +kernel
theorem d5_14 : decode jdk_52_method_16_code 14 = .ok (.iload 4, 2) := by decide +kernel
theorem d5_16 : decode jdk_52_method_16_code 16 = .ok (.iload_n 2, 1) := by decide +kernel
theorem d5_17 : decode jdk_52_method_16_code 17 = .ok (.if_icmp .eq 40, 3) := by decide +kernel
theorem d5_20 : decode jdk_52_method_16_code 20 = .ok (.aload_n 0, 1) := by decide +kernel
theorem d5_21 : decode jdk_52_method_16_code 21 = .ok (.iload_n 1, 1) := by decide +kernel
theorem d5_22 : decode jdk_52_method_16_code 22 = .ok (.iload_n 2, 1) := by decide +kernel
theorem d5_23 : decode jdk_52_method_16_code 23 = .ok (.invokestatic 119, 3) := by decide +kernel
theorem d5_26 : decode jdk_52_method_16_code 26 = .ok (.astore 5, 2) := by decide +kernel
theorem d5_28 : decode jdk_52_method_16_code 28 = .ok (.aload 5, 2) := by decide +kernel
theorem d5_30 : decode jdk_52_method_16_code 30 = .ok (.iload 4, 2) := by decide +kernel
theorem d5_32 : decode jdk_52_method_16_code 32 = .ok (.invokestatic 71, 3) := by decide +kernel
theorem d5_35 : decode jdk_52_method_16_code 35 = .ok (.sipush 255, 3) := by decide +kernel
theorem d5_38 : decode jdk_52_method_16_code 38 = .ok (.if_icmp .gt 16, 3) := by decide +kernel
theorem d5_54 : decode jdk_52_method_16_code 54 = .ok (.aload 5, 2) := by decide +kernel
theorem d5_56 : decode jdk_52_method_16_code 56 = .ok (.areturn, 1) := by decide +kernel
theorem d5_57 : decode jdk_52_method_16_code 57 = .ok (.aload_n 3, 1) := by decide +kernel
theorem d5_58 : decode jdk_52_method_16_code 58 = .ok (.areturn, 1) := by decide +kernel
theorem pn_5 : plainName "java/lang/StringUTF16" = true := by first | (simp [plainName, overriddenIn]; done) | decide +kernel
theorem ef_5 (m : MethodId) (x0 : Addr) (x1 : Int32) (x2 : Int32) : entryFrame m #[(.ref x0), (.int x1), (.int x2)] 6 = mkF m 0 #[.val (.ref x0), .val (.int x1), .val (.int x2), .unset, .unset, .unset] [] := by first | (simp [entryFrame, mkF, argsToLocals, Value.category]; done) | rfl
def Q5 (Z : State) (r0 : Addr) (ka : ClassId) (ua ub uc ud ue : Int32) (cs : Int32) (fm : Value) (h0 : Heap) (n0 : Nat) (v : Option Value) (h : Heap) (L : List Loc) : Prop := ∃ ra kx, v = some (.ref ra) ∧ Fr n0 L ∧ Keep h0 h [] ∧ h0.size ≤ ra ∧ n0 ≤ ra ∧ ((own_all ua ub uc ud ue ∧ Arv Z h ra kx .byte (5 : Int32) [(.int (own_bb ua)), (.int (own_bb ub)), (.int (own_bb uc)), (.int (own_bb ud)), (.int (own_bb ue))] (.int (0 : Int32))) ∨ Arv Z h ra kx .byte (10 : Int32) [(.int (own_lo ua)), (.int (own_hi ua)), (.int (own_lo ub)), (.int (own_hi ub)), (.int (own_lo uc)), (.int (own_hi uc)), (.int (own_lo ud)), (.int (own_hi ud)), (.int (own_lo ue)), (.int (own_hi ue))] (.int (0 : Int32)))
set_option maxRecDepth 65536 in
set_option maxHeartbeats 40000000 in
theorem rm5 (l : Launch) (Z : State) (a0 : Array Value) (hw : ∀ d ∈ tables_1, d.before a0 Z = true) (ws : List Jvm.Cond) (r0 : Addr) (ka : ClassId) (ua ub uc ud ue : Int32) (cs : Int32) (fm : Value) (h0 : Heap) (n0 : Nat) (Z0 : n0 ≤ h0.size) (V : Arv Z h0 r0 ka .char (5 : Int32) [(.int ua), (.int ub), (.int uc), (.int ud), (.int ue)] (.int (0 : Int32))) (O0 : Old Z n0 h0) (SC : Sta Z Z.heap "java/lang/String" "COMPACT_STRINGS" "Z" (.int cs)) (hcs : ¬ cs = (0 : Int32)) (SF : Sta Z Z.heap "jdk/internal/util/Preconditions" "SIOOBE_FORMATTER" "Ljava/util/function/BiFunction;" fm) (hfm : fm.isRef = true) (SA : Sta Z Z.heap "java/lang/StringUTF16" "$assertionsDisabled" "Z" (.int (1 : Int32))) (SH : Sta Z Z.heap "java/lang/StringUTF16" "HI_BYTE_SHIFT" "I" (.int (0 : Int32))) (SL : Sta Z Z.heap "java/lang/StringUTF16" "LO_BYTE_SHIFT" "I" (.int (8 : Int32))) (hru : own_ru ua ub uc ud ue) :
    MetFree l yy_12 (head1 (Jvm.Cond.code yy_12 jdk_52_method_16_code 6 (some (.array .byte)) :: ws) ({ frames := 3, cells := 2, slots := 15, locals := 40 } : Room)) (fun a U => a = #[(.ref r0), (.int (0 : Int32)), (.int (5 : Int32))] ∧ Z.Warmed39 U.vm ∧ U.heap = h0) (fun _ _ _ _ _ => True) (fun _ U o U' => ∃ v L, o = .returned v ∧ Q5 Z r0 ka ua ub uc ud ue cs fm h0 n0 v U'.heap L ∧ FrameEnd U o U' L ({ frames := 3, cells := 2, slots := 15, locals := 40 } : Room).cells ({ frames := 3, cells := 2, slots := 15, locals := 40 } : Room).slots) := by
  refine MetFree.of_bodySF (plainFor_of_name pn_5) hisR ?_
  intro p e s m args below meth c s₁ Bd hml0 hP hK
  obtain ⟨rfl, hZ, hh⟩ := hP
  have hx := Bd.exec
  have hby := Bd.bytes
  have hml : c.maxLocals = 6 := hml0
  have hown : s.vm.findClass "java/lang/StringUTF16" = some m.cls := findClass_of_methodNamed Bd.named
  have hnm := (name_of_methodNamed Bd.named Bd.method).1
  have X0 : Stand p l e ({ frames := 3, cells := 2, slots := 15, locals := 40 } : Room) s m #[(.ref r0), (.int (0 : Int32)), (.int (5 : Int32))] below meth c s₁ [] 0 0 := Stand.of_body Bd
  have e0 : s₁.heap = h0 := by rw [← hh, Bd.state]; rfl
  have N0 := Fr.nil n0
  have pre0 : ∀ t, Steps p.tables e below (s₁.setTop (mkF m 0 #[oa r0, oi 0, oi 5, .unset, .unset, .unset] [])) t → Steps p.tables e below (s₁.setTop (entryFrame m #[(.ref r0), (.int (0 : Int32)), (.int (5 : Int32))] 6)) t := fun t k => castTop (ef_5 m r0 (0 : Int32) (5 : Int32)) k
  have c2 : own_G p e below s₁ (mkF m 1 #[oa r0, oi 0, oi 5, .unset, .unset, .unset] [(.int (5 : Int32))]) (mkF m 0 #[oa r0, oi 0, oi 5, .unset, .unset, .unset] []) := by
    intro t kt
    show oS s₁ (mkF m 0 #[oa r0, oi 0, oi 5, .unset, .unset, .unset] []) _
    refine XS.iloadN X0.here hx rfl (hb hby d5_0) rfl ?_
    exact kt
  obtain ⟨T1, h1, k1, X1, e1, E1, A1, st1⟩ := newP X0 hx hZ (own_t hw 27 rfl) e0 (g := (mkF m 1 #[oa r0, oi 0, oi 5, .unset, .unset, .unset] [(.int (5 : Int32))])) rfl (hb hby d5_1) rfl (by decide) (cap := 5) (by decide) (by decide) (by decide) (by decide)
  obtain ⟨b1, g1⟩ : ∃ z, z = h0.size := ⟨_, rfl⟩
  rw [← g1] at A1 st1
  have g_b1 : n0 ≤ b1 := Nat.le_trans Z0 (Nat.le_of_eq g1.symm)
  have sz_b1 : h0.size ≤ b1 := Nat.le_trans (Keep.refl h0 []).1 (Nat.le_of_eq g1.symm)
  have lt_r0_1 := V.lt
  have V1 : Arv Z h1 b1 k1 .byte (5 : Int32) [(.int (0 : Int32)), (.int (0 : Int32)), (.int (0 : Int32)), (.int (0 : Int32)), (.int (0 : Int32))] (.int (0 : Int32)) := (Arv.new A1 (by decide)).pad (pad_rep [] (.int (0 : Int32)) 5)
  have c3 : own_G p e below T1 (mkF m 9 #[oa r0, oi 0, oi 5, oa b1, .unset, .unset] [(.int (5 : Int32)), (.int (0 : Int32)), (.ref b1), (.int (0 : Int32)), (.ref r0)]) (mkF m 3 #[oa r0, oi 0, oi 5, .unset, .unset, .unset] [(.ref b1)]) := by
    intro t kt
    show oS T1 (mkF m 3 #[oa r0, oi 0, oi 5, .unset, .unset, .unset] [(.ref b1)]) _
    refine XS.astoreN X1.here hx rfl (hb hby d5_3) rfl rfl (l' := #[oa r0, oi 0, oi 5, oa b1, .unset, .unset]) rfl ?_
    show oS T1 (mkF m 4 #[oa r0, oi 0, oi 5, oa b1, .unset, .unset] []) _
    refine XS.aloadN X1.here hx rfl (hb hby d5_4) rfl rfl ?_
    show oS T1 (mkF m 5 #[oa r0, oi 0, oi 5, oa b1, .unset, .unset] [(.ref r0)]) _
    refine XS.iloadN X1.here hx rfl (hb hby d5_5) rfl ?_
    show oS T1 (mkF m 6 #[oa r0, oi 0, oi 5, oa b1, .unset, .unset] [(.int (0 : Int32)), (.ref r0)]) _
    refine XS.aloadN X1.here hx rfl (hb hby d5_6) rfl rfl ?_
    show oS T1 (mkF m 7 #[oa r0, oi 0, oi 5, oa b1, .unset, .unset] [(.ref b1), (.int (0 : Int32)), (.ref r0)]) _
    refine XS.iconst X1.here hx rfl (hb hby d5_7) ?_
    show oS T1 (mkF m 8 #[oa r0, oi 0, oi 5, oa b1, .unset, .unset] [(.int (0 : Int32)), (.ref b1), (.int (0 : Int32)), (.ref r0)]) _
    refine XS.iloadN X1.here hx rfl (hb hby d5_8) rfl ?_
    exact kt
  have f4 := (Nat.le_trans Z0 E1.1)
  have f5 := (V.ext E1)
  obtain ⟨_, _, ⟨T6, L6, k6, n6⟩, -, X6, ⟨Lc6, hQ6, l6, y6, z6⟩, st6⟩ := Jvm.LawKit.callS X1 hx (y := yy_11) hown (mvT hZ (own_t hw 28 rfl)) (mvT hZ (own_t hw 29 rfl)) (mvT hZ (own_t hw 25 rfl)) (mvT hZ (own_t hw 30 rfl)) (by decide) (backOf (W := 0) (rm6 l Z a0 hw []  r0 b1 ka k1 ua ub uc ud ue h1 n0 f4 f5 V1 g_b1 (Nat.ne_of_lt (Nat.lt_of_lt_of_le lt_r0_1 (Nat.le_of_eq g1.symm)))) hZ (own_t hw 30 rfl) (own_t hw 25 rfl) (by decide) (by decide)) (g := (mkF m 9 #[oa r0, oi 0, oi 5, oa b1, .unset, .unset] [(.int (5 : Int32)), (.int (0 : Int32)), (.ref b1), (.int (0 : Int32)), (.ref r0)])) rfl (by rw [hml]; rfl) (argsL := [(.ref r0), (.int (0 : Int32)), (.ref b1), (.int (0 : Int32)), (.int (5 : Int32))]) (rest := []) (lenOf pd_7 rfl) rfl (by show 2 * 0 + _ ≤ _; exact Nat.le_of_eq rfl) (hb hby d5_9) (fun _ _ => ⟨rfl, e1, (by decide : 1 + 0 ≤ _), (by decide : 5 + 0 ≤ _)⟩)
  dsimp only [Pt.U, Pt.locs, Pt.cells, Pt.slots] at X6 l6 y6 z6 st6 hQ6
  subst l6 y6 z6
  obtain ⟨rfl, N6q, Kq6, Vq6⟩ := hQ6
  have N6 := Fr.app N0 N6q
  rcases own_first ua ub uc ud ue with hq | hq | hq | hq | hq | hq
  · skip
    have c7 : own_G p e below T6 (mkF m 12 #[oa r0, oi 0, oi 5, oa b1, .unset, .unset] [(.int (0 : Int32))]) (mkF m 12 #[oa r0, oi 0, oi 5, oa b1, .unset, .unset] [(.int (own_cnt ua ub uc ud ue))]) := fun t kt => castTop (congrArg (fun zv => (mkF m 12 #[oa r0, oi 0, oi 5, oa b1, .unset, .unset] [(.int zv)])) (show (own_cnt ua ub uc ud ue) = (0 : Int32) from hq.2)) kt
    have c8 : own_G p e below T6 (mkF m 23 #[oa r0, oi 0, oi 5, oa b1, oi 0, .unset] [(.int (5 : Int32)), (.int (0 : Int32)), (.ref r0)]) (mkF m 12 #[oa r0, oi 0, oi 5, oa b1, .unset, .unset] [(.int (0 : Int32))]) := by
      intro t kt
      show oS T6 (mkF m 12 #[oa r0, oi 0, oi 5, oa b1, .unset, .unset] [(.int (0 : Int32))]) _
      refine XS.istore X6.here hx rfl (hb hby d5_12) rfl (l' := #[oa r0, oi 0, oi 5, oa b1, oi 0, .unset]) rfl ?_
      show oS T6 (mkF m 14 #[oa r0, oi 0, oi 5, oa b1, oi 0, .unset] []) _
      refine XS.iload X6.here hx rfl (hb hby d5_14) rfl ?_
      show oS T6 (mkF m 16 #[oa r0, oi 0, oi 5, oa b1, oi 0, .unset] [(.int (0 : Int32))]) _
      refine XS.iloadN X6.here hx rfl (hb hby d5_16) rfl ?_
      show oS T6 (mkF m 17 #[oa r0, oi 0, oi 5, oa b1, oi 0, .unset] [(.int (5 : Int32)), (.int (0 : Int32))]) _
      refine XS.icmpNo X6.here hx rfl (hb hby d5_17) rfl (feq (by decide : ¬ ((0 : Int32) = (5 : Int32)))).1 ?_
      show oS T6 (mkF m 20 #[oa r0, oi 0, oi 5, oa b1, oi 0, .unset] []) _
      refine XS.aloadN X6.here hx rfl (hb hby d5_20) rfl rfl ?_
      show oS T6 (mkF m 21 #[oa r0, oi 0, oi 5, oa b1, oi 0, .unset] [(.ref r0)]) _
      refine XS.iloadN X6.here hx rfl (hb hby d5_21) rfl ?_
      show oS T6 (mkF m 22 #[oa r0, oi 0, oi 5, oa b1, oi 0, .unset] [(.int (0 : Int32)), (.ref r0)]) _
      refine XS.iloadN X6.here hx rfl (hb hby d5_22) rfl ?_
      exact kt
    have f9 := (Nat.le_trans f4 Kq6.1)
    have f10 := (f5.keep Kq6 (ninS (Nat.ne_of_lt (Nat.lt_of_lt_of_le lt_r0_1 (Nat.le_of_eq g1.symm))) nin0))
    have f11 := ((O0.ext E1).keep Kq6 (allS g_b1 all0))
    obtain ⟨_, _, ⟨T12, L12, k12, n12⟩, -, X12, ⟨Lc12, hQ12, l12, y12, z12⟩, st12⟩ := Jvm.LawKit.callS X6 hx (y := yy_9) hown (mvT hZ (own_t hw 50 rfl)) (mvT hZ (own_t hw 51 rfl)) (mvT hZ (own_t hw 25 rfl)) (mvT hZ (own_t hw 52 rfl)) (by decide) (backOf (W := 0) (rm10 l Z a0 hw []  r0 ka ua ub uc ud ue cs fm T6.heap n0 f9 f10 f11 SC hcs SF hfm SA SH SL) hZ (own_t hw 52 rfl) (own_t hw 25 rfl) (by decide) (by decide)) (g := (mkF m 23 #[oa r0, oi 0, oi 5, oa b1, oi 0, .unset] [(.int (5 : Int32)), (.int (0 : Int32)), (.ref r0)])) rfl (by rw [hml]; rfl) (argsL := [(.ref r0), (.int (0 : Int32)), (.int (5 : Int32))]) (rest := []) (lenOf pd_8 rfl) rfl (by show 2 * 0 + _ ≤ _; exact Nat.le_of_eq rfl) (hb hby d5_23) (fun _ _ => ⟨rfl, rfl, (by decide : 1 + 1 ≤ _), (by decide : 5 + 10 ≤ _)⟩)
    dsimp only [Pt.U, Pt.locs, Pt.cells, Pt.slots] at X12 l12 y12 z12 st12 hQ12
    subst l12 y12 z12
    obtain ⟨ra12, kx12, rfl, N12q, Kq12, szq12, g_ra12, Vq12⟩ := hQ12
    have N12 := Fr.app N6 N12q
    have lt_r0_12 := f10.lt
    have f13 := (((Keep.refl h0 []).ext E1).trans Kq6 (allS (Or.inr sz_b1) all0))
    have sz_ra12 : h0.size ≤ ra12 := Nat.le_trans f13.1 szq12
    have c14 : own_G p e below T12 (mkF m 32 #[oa r0, oi 0, oi 5, oa b1, oi 0, oa ra12] [(.int (0 : Int32)), (.ref ra12)]) (mkF m 26 #[oa r0, oi 0, oi 5, oa b1, oi 0, .unset] [(.ref ra12)]) := by
      intro t kt
      show oS T12 (mkF m 26 #[oa r0, oi 0, oi 5, oa b1, oi 0, .unset] [(.ref ra12)]) _
      refine XS.astore X12.here hx rfl (hb hby d5_26) rfl rfl (l' := #[oa r0, oi 0, oi 5, oa b1, oi 0, oa ra12]) rfl ?_
      show oS T12 (mkF m 28 #[oa r0, oi 0, oi 5, oa b1, oi 0, oa ra12] []) _
      refine XS.aload X12.here hx rfl (hb hby d5_28) rfl rfl ?_
      show oS T12 (mkF m 30 #[oa r0, oi 0, oi 5, oa b1, oi 0, oa ra12] [(.ref ra12)]) _
      refine XS.iload X12.here hx rfl (hb hby d5_30) rfl ?_
      exact kt
    have f15 := (Nat.le_trans f9 Kq12.1)
    have f16 := (f11.keep Kq12 all0)
    obtain ⟨_, _, ⟨T17, L17, k17, n17⟩, -, X17, ⟨Lc17, hQ17, l17, y17, z17⟩, st17⟩ := Jvm.LawKit.callS X12 hx (y := yy_10) hown (mvT hZ (own_t hw 66 rfl)) (mvT hZ (own_t hw 67 rfl)) (mvT hZ (own_t hw 25 rfl)) (mvT hZ (own_t hw 68 rfl)) (by decide) (backOf (W := 0) (rm14 l Z a0 hw [] ra12 (0 : Int32) kx12 [(.int (own_lo ua)), (.int (own_hi ua)), (.int (own_lo ub)), (.int (own_hi ub)), (.int (own_lo uc)), (.int (own_hi uc)), (.int (own_lo ud)), (.int (own_hi ud)), (.int (own_lo ue)), (.int (own_hi ue))] (.int (0 : Int32)) ua T12.heap n0 f15 Vq12 (by decide) (by decide) rfl rfl hru.1 (SA.ext f16.2) (SH.ext f16.2) (SL.ext f16.2)) hZ (own_t hw 68 rfl) (own_t hw 25 rfl) (by decide) (by decide)) (g := (mkF m 32 #[oa r0, oi 0, oi 5, oa b1, oi 0, oa ra12] [(.int (0 : Int32)), (.ref ra12)])) rfl (by rw [hml]; rfl) (argsL := [(.ref ra12), (.int (0 : Int32))]) (rest := []) (lenOf pd_3 rfl) rfl (by show 2 * 0 + _ ≤ _; exact Nat.le_of_eq rfl) (hb hby d5_32) (fun _ _ => ⟨rfl, rfl, (by decide : 2 + 0 ≤ _), (by decide : 15 + 0 ≤ _)⟩)
    dsimp only [Pt.U, Pt.locs, Pt.cells, Pt.slots] at X17 l17 y17 z17 st17 hQ17
    subst l17 y17 z17
    obtain ⟨rfl, N17q, e17⟩ := hQ17
    have N17 := Fr.app N12 N17q
    have c19 : own_G p e below T17 (mkF m 38 #[oa r0, oi 0, oi 5, oa b1, oi 0, oa ra12] [(.int (255 : Int32)), (.int ua)]) (mkF m 35 #[oa r0, oi 0, oi 5, oa b1, oi 0, oa ra12] [(.int ua)]) := by
      intro t kt
      show oS T17 (mkF m 35 #[oa r0, oi 0, oi 5, oa b1, oi 0, oa ra12] [(.int ua)]) _
      refine XS.sipush X17.here hx rfl (hb hby d5_35) ?_
      exact kt
    have hd18 : (255 : Int32) < ua := hq.1
    have c20 : own_G p e below T17 (mkF m 56 #[oa r0, oi 0, oi 5, oa b1, oi 0, oa ra12] [(.ref ra12)]) (mkF m 38 #[oa r0, oi 0, oi 5, oa b1, oi 0, oa ra12] [(.int (255 : Int32)), (.int ua)]) := by
      intro t kt
      show oS T17 (mkF m 38 #[oa r0, oi 0, oi 5, oa b1, oi 0, oa ra12] [(.int (255 : Int32)), (.int ua)]) _
      refine XS.icmpYes X17.here hx rfl (pc0 := 38) (pc' := 54) rfl (hb hby d5_38) rfl (tlt hd18).2.2.1 (by decide) (by decide) ?_
      show oS T17 (mkF m 54 #[oa r0, oi 0, oi 5, oa b1, oi 0, oa ra12] []) _
      refine XS.aload X17.here hx rfl (hb hby d5_54) rfl rfl ?_
      exact kt
    obtain ⟨fs, hr, hrun, hended, hW, hsame⟩ := X17.leave (v := some (.ref ra12)) (fun h => by rw [Bd.returns] at h; cases h)
    have f22 := (f13.trans Kq12 all0)
    refine ⟨_, _, pre0 _ (c2 _ (st1 _ (c3 _ (st6 _ (c7 _ (c8 _ (st12 _ (c14 _ (st17 _ (c19 _ (c20 _ (?_)))))))))))), hrun, hended, _, _, rfl, ?_, ⟨_, rfl⟩, hW, hsame.mono (by decide) (by decide)⟩
    · show Steps p.tables e below (T17.setTop (mkF m 56 #[oa r0, oi 0, oi 5, oa b1, oi 0, oa ra12] [(.ref ra12)])) _
      jvm_step X17.here [X17.here.top, hx, (hb hby d5_56), X17.method', Bd.returns, Value.isRef, FieldType.isReference]
      first | (intro acts; rw [hr _ acts rfl rfl rfl]) | rw [hr _ _ rfl rfl rfl]
      exact Steps.refl _
    · show Q5 Z r0 ka ua ub uc ud ue cs fm h0 n0 _ T17.heap _
      rw [e17]
      exact ⟨ra12, kx12, rfl, N17, f22, sz_ra12, g_ra12, Or.inr Vq12⟩
  · skip
    have c23 : own_G p e below T6 (mkF m 12 #[oa r0, oi 0, oi 5, oa b1, .unset, .unset] [(.int (1 : Int32))]) (mkF m 12 #[oa r0, oi 0, oi 5, oa b1, .unset, .unset] [(.int (own_cnt ua ub uc ud ue))]) := fun t kt => castTop (congrArg (fun zv => (mkF m 12 #[oa r0, oi 0, oi 5, oa b1, .unset, .unset] [(.int zv)])) (show (own_cnt ua ub uc ud ue) = (1 : Int32) from hq.2)) kt
    have c24 : own_G p e below T6 (mkF m 23 #[oa r0, oi 0, oi 5, oa b1, oi 1, .unset] [(.int (5 : Int32)), (.int (0 : Int32)), (.ref r0)]) (mkF m 12 #[oa r0, oi 0, oi 5, oa b1, .unset, .unset] [(.int (1 : Int32))]) := by
      intro t kt
      show oS T6 (mkF m 12 #[oa r0, oi 0, oi 5, oa b1, .unset, .unset] [(.int (1 : Int32))]) _
      refine XS.istore X6.here hx rfl (hb hby d5_12) rfl (l' := #[oa r0, oi 0, oi 5, oa b1, oi 1, .unset]) rfl ?_
      show oS T6 (mkF m 14 #[oa r0, oi 0, oi 5, oa b1, oi 1, .unset] []) _
      refine XS.iload X6.here hx rfl (hb hby d5_14) rfl ?_
      show oS T6 (mkF m 16 #[oa r0, oi 0, oi 5, oa b1, oi 1, .unset] [(.int (1 : Int32))]) _
      refine XS.iloadN X6.here hx rfl (hb hby d5_16) rfl ?_
      show oS T6 (mkF m 17 #[oa r0, oi 0, oi 5, oa b1, oi 1, .unset] [(.int (5 : Int32)), (.int (1 : Int32))]) _
      refine XS.icmpNo X6.here hx rfl (hb hby d5_17) rfl (feq (by decide : ¬ ((1 : Int32) = (5 : Int32)))).1 ?_
      show oS T6 (mkF m 20 #[oa r0, oi 0, oi 5, oa b1, oi 1, .unset] []) _
      refine XS.aloadN X6.here hx rfl (hb hby d5_20) rfl rfl ?_
      show oS T6 (mkF m 21 #[oa r0, oi 0, oi 5, oa b1, oi 1, .unset] [(.ref r0)]) _
      refine XS.iloadN X6.here hx rfl (hb hby d5_21) rfl ?_
      show oS T6 (mkF m 22 #[oa r0, oi 0, oi 5, oa b1, oi 1, .unset] [(.int (0 : Int32)), (.ref r0)]) _
      refine XS.iloadN X6.here hx rfl (hb hby d5_22) rfl ?_
      exact kt
    have f25 := (Nat.le_trans f4 Kq6.1)
    have f26 := (f5.keep Kq6 (ninS (Nat.ne_of_lt (Nat.lt_of_lt_of_le lt_r0_1 (Nat.le_of_eq g1.symm))) nin0))
    have f27 := ((O0.ext E1).keep Kq6 (allS g_b1 all0))
    obtain ⟨_, _, ⟨T28, L28, k28, n28⟩, -, X28, ⟨Lc28, hQ28, l28, y28, z28⟩, st28⟩ := Jvm.LawKit.callS X6 hx (y := yy_9) hown (mvT hZ (own_t hw 50 rfl)) (mvT hZ (own_t hw 51 rfl)) (mvT hZ (own_t hw 25 rfl)) (mvT hZ (own_t hw 52 rfl)) (by decide) (backOf (W := 0) (rm10 l Z a0 hw []  r0 ka ua ub uc ud ue cs fm T6.heap n0 f25 f26 f27 SC hcs SF hfm SA SH SL) hZ (own_t hw 52 rfl) (own_t hw 25 rfl) (by decide) (by decide)) (g := (mkF m 23 #[oa r0, oi 0, oi 5, oa b1, oi 1, .unset] [(.int (5 : Int32)), (.int (0 : Int32)), (.ref r0)])) rfl (by rw [hml]; rfl) (argsL := [(.ref r0), (.int (0 : Int32)), (.int (5 : Int32))]) (rest := []) (lenOf pd_8 rfl) rfl (by show 2 * 0 + _ ≤ _; exact Nat.le_of_eq rfl) (hb hby d5_23) (fun _ _ => ⟨rfl, rfl, (by decide : 1 + 1 ≤ _), (by decide : 5 + 10 ≤ _)⟩)
    dsimp only [Pt.U, Pt.locs, Pt.cells, Pt.slots] at X28 l28 y28 z28 st28 hQ28
    subst l28 y28 z28
    obtain ⟨ra28, kx28, rfl, N28q, Kq28, szq28, g_ra28, Vq28⟩ := hQ28
    have N28 := Fr.app N6 N28q
    have lt_r0_28 := f26.lt
    have f29 := (((Keep.refl h0 []).ext E1).trans Kq6 (allS (Or.inr sz_b1) all0))
    have sz_ra28 : h0.size ≤ ra28 := Nat.le_trans f29.1 szq28
    have c30 : own_G p e below T28 (mkF m 32 #[oa r0, oi 0, oi 5, oa b1, oi 1, oa ra28] [(.int (1 : Int32)), (.ref ra28)]) (mkF m 26 #[oa r0, oi 0, oi 5, oa b1, oi 1, .unset] [(.ref ra28)]) := by
      intro t kt
      show oS T28 (mkF m 26 #[oa r0, oi 0, oi 5, oa b1, oi 1, .unset] [(.ref ra28)]) _
      refine XS.astore X28.here hx rfl (hb hby d5_26) rfl rfl (l' := #[oa r0, oi 0, oi 5, oa b1, oi 1, oa ra28]) rfl ?_
      show oS T28 (mkF m 28 #[oa r0, oi 0, oi 5, oa b1, oi 1, oa ra28] []) _
      refine XS.aload X28.here hx rfl (hb hby d5_28) rfl rfl ?_
      show oS T28 (mkF m 30 #[oa r0, oi 0, oi 5, oa b1, oi 1, oa ra28] [(.ref ra28)]) _
      refine XS.iload X28.here hx rfl (hb hby d5_30) rfl ?_
      exact kt
    have f31 := (Nat.le_trans f25 Kq28.1)
    have f32 := (f27.keep Kq28 all0)
    obtain ⟨_, _, ⟨T33, L33, k33, n33⟩, -, X33, ⟨Lc33, hQ33, l33, y33, z33⟩, st33⟩ := Jvm.LawKit.callS X28 hx (y := yy_10) hown (mvT hZ (own_t hw 66 rfl)) (mvT hZ (own_t hw 67 rfl)) (mvT hZ (own_t hw 25 rfl)) (mvT hZ (own_t hw 68 rfl)) (by decide) (backOf (W := 0) (rm14 l Z a0 hw [] ra28 (1 : Int32) kx28 [(.int (own_lo ua)), (.int (own_hi ua)), (.int (own_lo ub)), (.int (own_hi ub)), (.int (own_lo uc)), (.int (own_hi uc)), (.int (own_lo ud)), (.int (own_hi ud)), (.int (own_lo ue)), (.int (own_hi ue))] (.int (0 : Int32)) ub T28.heap n0 f31 Vq28 (by decide) (by decide) rfl rfl hru.2.1 (SA.ext f32.2) (SH.ext f32.2) (SL.ext f32.2)) hZ (own_t hw 68 rfl) (own_t hw 25 rfl) (by decide) (by decide)) (g := (mkF m 32 #[oa r0, oi 0, oi 5, oa b1, oi 1, oa ra28] [(.int (1 : Int32)), (.ref ra28)])) rfl (by rw [hml]; rfl) (argsL := [(.ref ra28), (.int (1 : Int32))]) (rest := []) (lenOf pd_3 rfl) rfl (by show 2 * 0 + _ ≤ _; exact Nat.le_of_eq rfl) (hb hby d5_32) (fun _ _ => ⟨rfl, rfl, (by decide : 2 + 0 ≤ _), (by decide : 15 + 0 ≤ _)⟩)
    dsimp only [Pt.U, Pt.locs, Pt.cells, Pt.slots] at X33 l33 y33 z33 st33 hQ33
    subst l33 y33 z33
    obtain ⟨rfl, N33q, e33⟩ := hQ33
    have N33 := Fr.app N28 N33q
    have c35 : own_G p e below T33 (mkF m 38 #[oa r0, oi 0, oi 5, oa b1, oi 1, oa ra28] [(.int (255 : Int32)), (.int ub)]) (mkF m 35 #[oa r0, oi 0, oi 5, oa b1, oi 1, oa ra28] [(.int ub)]) := by
      intro t kt
      show oS T33 (mkF m 35 #[oa r0, oi 0, oi 5, oa b1, oi 1, oa ra28] [(.int ub)]) _
      refine XS.sipush X33.here hx rfl (hb hby d5_35) ?_
      exact kt
    have hd34 : (255 : Int32) < ub := hq.1
    have c36 : own_G p e below T33 (mkF m 56 #[oa r0, oi 0, oi 5, oa b1, oi 1, oa ra28] [(.ref ra28)]) (mkF m 38 #[oa r0, oi 0, oi 5, oa b1, oi 1, oa ra28] [(.int (255 : Int32)), (.int ub)]) := by
      intro t kt
      show oS T33 (mkF m 38 #[oa r0, oi 0, oi 5, oa b1, oi 1, oa ra28] [(.int (255 : Int32)), (.int ub)]) _
      refine XS.icmpYes X33.here hx rfl (pc0 := 38) (pc' := 54) rfl (hb hby d5_38) rfl (tlt hd34).2.2.1 (by decide) (by decide) ?_
      show oS T33 (mkF m 54 #[oa r0, oi 0, oi 5, oa b1, oi 1, oa ra28] []) _
      refine XS.aload X33.here hx rfl (hb hby d5_54) rfl rfl ?_
      exact kt
    obtain ⟨fs, hr, hrun, hended, hW, hsame⟩ := X33.leave (v := some (.ref ra28)) (fun h => by rw [Bd.returns] at h; cases h)
    have f38 := (f29.trans Kq28 all0)
    refine ⟨_, _, pre0 _ (c2 _ (st1 _ (c3 _ (st6 _ (c23 _ (c24 _ (st28 _ (c30 _ (st33 _ (c35 _ (c36 _ (?_)))))))))))), hrun, hended, _, _, rfl, ?_, ⟨_, rfl⟩, hW, hsame.mono (by decide) (by decide)⟩
    · show Steps p.tables e below (T33.setTop (mkF m 56 #[oa r0, oi 0, oi 5, oa b1, oi 1, oa ra28] [(.ref ra28)])) _
      jvm_step X33.here [X33.here.top, hx, (hb hby d5_56), X33.method', Bd.returns, Value.isRef, FieldType.isReference]
      first | (intro acts; rw [hr _ acts rfl rfl rfl]) | rw [hr _ _ rfl rfl rfl]
      exact Steps.refl _
    · show Q5 Z r0 ka ua ub uc ud ue cs fm h0 n0 _ T33.heap _
      rw [e33]
      exact ⟨ra28, kx28, rfl, N33, f38, sz_ra28, g_ra28, Or.inr Vq28⟩
  · skip
    have c39 : own_G p e below T6 (mkF m 12 #[oa r0, oi 0, oi 5, oa b1, .unset, .unset] [(.int (2 : Int32))]) (mkF m 12 #[oa r0, oi 0, oi 5, oa b1, .unset, .unset] [(.int (own_cnt ua ub uc ud ue))]) := fun t kt => castTop (congrArg (fun zv => (mkF m 12 #[oa r0, oi 0, oi 5, oa b1, .unset, .unset] [(.int zv)])) (show (own_cnt ua ub uc ud ue) = (2 : Int32) from hq.2)) kt
    have c40 : own_G p e below T6 (mkF m 23 #[oa r0, oi 0, oi 5, oa b1, oi 2, .unset] [(.int (5 : Int32)), (.int (0 : Int32)), (.ref r0)]) (mkF m 12 #[oa r0, oi 0, oi 5, oa b1, .unset, .unset] [(.int (2 : Int32))]) := by
      intro t kt
      show oS T6 (mkF m 12 #[oa r0, oi 0, oi 5, oa b1, .unset, .unset] [(.int (2 : Int32))]) _
      refine XS.istore X6.here hx rfl (hb hby d5_12) rfl (l' := #[oa r0, oi 0, oi 5, oa b1, oi 2, .unset]) rfl ?_
      show oS T6 (mkF m 14 #[oa r0, oi 0, oi 5, oa b1, oi 2, .unset] []) _
      refine XS.iload X6.here hx rfl (hb hby d5_14) rfl ?_
      show oS T6 (mkF m 16 #[oa r0, oi 0, oi 5, oa b1, oi 2, .unset] [(.int (2 : Int32))]) _
      refine XS.iloadN X6.here hx rfl (hb hby d5_16) rfl ?_
      show oS T6 (mkF m 17 #[oa r0, oi 0, oi 5, oa b1, oi 2, .unset] [(.int (5 : Int32)), (.int (2 : Int32))]) _
      refine XS.icmpNo X6.here hx rfl (hb hby d5_17) rfl (feq (by decide : ¬ ((2 : Int32) = (5 : Int32)))).1 ?_
      show oS T6 (mkF m 20 #[oa r0, oi 0, oi 5, oa b1, oi 2, .unset] []) _
      refine XS.aloadN X6.here hx rfl (hb hby d5_20) rfl rfl ?_
      show oS T6 (mkF m 21 #[oa r0, oi 0, oi 5, oa b1, oi 2, .unset] [(.ref r0)]) _
      refine XS.iloadN X6.here hx rfl (hb hby d5_21) rfl ?_
      show oS T6 (mkF m 22 #[oa r0, oi 0, oi 5, oa b1, oi 2, .unset] [(.int (0 : Int32)), (.ref r0)]) _
      refine XS.iloadN X6.here hx rfl (hb hby d5_22) rfl ?_
      exact kt
    have f41 := (Nat.le_trans f4 Kq6.1)
    have f42 := (f5.keep Kq6 (ninS (Nat.ne_of_lt (Nat.lt_of_lt_of_le lt_r0_1 (Nat.le_of_eq g1.symm))) nin0))
    have f43 := ((O0.ext E1).keep Kq6 (allS g_b1 all0))
    obtain ⟨_, _, ⟨T44, L44, k44, n44⟩, -, X44, ⟨Lc44, hQ44, l44, y44, z44⟩, st44⟩ := Jvm.LawKit.callS X6 hx (y := yy_9) hown (mvT hZ (own_t hw 50 rfl)) (mvT hZ (own_t hw 51 rfl)) (mvT hZ (own_t hw 25 rfl)) (mvT hZ (own_t hw 52 rfl)) (by decide) (backOf (W := 0) (rm10 l Z a0 hw []  r0 ka ua ub uc ud ue cs fm T6.heap n0 f41 f42 f43 SC hcs SF hfm SA SH SL) hZ (own_t hw 52 rfl) (own_t hw 25 rfl) (by decide) (by decide)) (g := (mkF m 23 #[oa r0, oi 0, oi 5, oa b1, oi 2, .unset] [(.int (5 : Int32)), (.int (0 : Int32)), (.ref r0)])) rfl (by rw [hml]; rfl) (argsL := [(.ref r0), (.int (0 : Int32)), (.int (5 : Int32))]) (rest := []) (lenOf pd_8 rfl) rfl (by show 2 * 0 + _ ≤ _; exact Nat.le_of_eq rfl) (hb hby d5_23) (fun _ _ => ⟨rfl, rfl, (by decide : 1 + 1 ≤ _), (by decide : 5 + 10 ≤ _)⟩)
    dsimp only [Pt.U, Pt.locs, Pt.cells, Pt.slots] at X44 l44 y44 z44 st44 hQ44
    subst l44 y44 z44
    obtain ⟨ra44, kx44, rfl, N44q, Kq44, szq44, g_ra44, Vq44⟩ := hQ44
    have N44 := Fr.app N6 N44q
    have lt_r0_44 := f42.lt
    have f45 := (((Keep.refl h0 []).ext E1).trans Kq6 (allS (Or.inr sz_b1) all0))
    have sz_ra44 : h0.size ≤ ra44 := Nat.le_trans f45.1 szq44
    have c46 : own_G p e below T44 (mkF m 32 #[oa r0, oi 0, oi 5, oa b1, oi 2, oa ra44] [(.int (2 : Int32)), (.ref ra44)]) (mkF m 26 #[oa r0, oi 0, oi 5, oa b1, oi 2, .unset] [(.ref ra44)]) := by
      intro t kt
      show oS T44 (mkF m 26 #[oa r0, oi 0, oi 5, oa b1, oi 2, .unset] [(.ref ra44)]) _
      refine XS.astore X44.here hx rfl (hb hby d5_26) rfl rfl (l' := #[oa r0, oi 0, oi 5, oa b1, oi 2, oa ra44]) rfl ?_
      show oS T44 (mkF m 28 #[oa r0, oi 0, oi 5, oa b1, oi 2, oa ra44] []) _
      refine XS.aload X44.here hx rfl (hb hby d5_28) rfl rfl ?_
      show oS T44 (mkF m 30 #[oa r0, oi 0, oi 5, oa b1, oi 2, oa ra44] [(.ref ra44)]) _
      refine XS.iload X44.here hx rfl (hb hby d5_30) rfl ?_
      exact kt
    have f47 := (Nat.le_trans f41 Kq44.1)
    have f48 := (f43.keep Kq44 all0)
    obtain ⟨_, _, ⟨T49, L49, k49, n49⟩, -, X49, ⟨Lc49, hQ49, l49, y49, z49⟩, st49⟩ := Jvm.LawKit.callS X44 hx (y := yy_10) hown (mvT hZ (own_t hw 66 rfl)) (mvT hZ (own_t hw 67 rfl)) (mvT hZ (own_t hw 25 rfl)) (mvT hZ (own_t hw 68 rfl)) (by decide) (backOf (W := 0) (rm14 l Z a0 hw [] ra44 (2 : Int32) kx44 [(.int (own_lo ua)), (.int (own_hi ua)), (.int (own_lo ub)), (.int (own_hi ub)), (.int (own_lo uc)), (.int (own_hi uc)), (.int (own_lo ud)), (.int (own_hi ud)), (.int (own_lo ue)), (.int (own_hi ue))] (.int (0 : Int32)) uc T44.heap n0 f47 Vq44 (by decide) (by decide) rfl rfl hru.2.2.1 (SA.ext f48.2) (SH.ext f48.2) (SL.ext f48.2)) hZ (own_t hw 68 rfl) (own_t hw 25 rfl) (by decide) (by decide)) (g := (mkF m 32 #[oa r0, oi 0, oi 5, oa b1, oi 2, oa ra44] [(.int (2 : Int32)), (.ref ra44)])) rfl (by rw [hml]; rfl) (argsL := [(.ref ra44), (.int (2 : Int32))]) (rest := []) (lenOf pd_3 rfl) rfl (by show 2 * 0 + _ ≤ _; exact Nat.le_of_eq rfl) (hb hby d5_32) (fun _ _ => ⟨rfl, rfl, (by decide : 2 + 0 ≤ _), (by decide : 15 + 0 ≤ _)⟩)
    dsimp only [Pt.U, Pt.locs, Pt.cells, Pt.slots] at X49 l49 y49 z49 st49 hQ49
    subst l49 y49 z49
    obtain ⟨rfl, N49q, e49⟩ := hQ49
    have N49 := Fr.app N44 N49q
    have c51 : own_G p e below T49 (mkF m 38 #[oa r0, oi 0, oi 5, oa b1, oi 2, oa ra44] [(.int (255 : Int32)), (.int uc)]) (mkF m 35 #[oa r0, oi 0, oi 5, oa b1, oi 2, oa ra44] [(.int uc)]) := by
      intro t kt
      show oS T49 (mkF m 35 #[oa r0, oi 0, oi 5, oa b1, oi 2, oa ra44] [(.int uc)]) _
      refine XS.sipush X49.here hx rfl (hb hby d5_35) ?_
      exact kt
    have hd50 : (255 : Int32) < uc := hq.1
    have c52 : own_G p e below T49 (mkF m 56 #[oa r0, oi 0, oi 5, oa b1, oi 2, oa ra44] [(.ref ra44)]) (mkF m 38 #[oa r0, oi 0, oi 5, oa b1, oi 2, oa ra44] [(.int (255 : Int32)), (.int uc)]) := by
      intro t kt
      show oS T49 (mkF m 38 #[oa r0, oi 0, oi 5, oa b1, oi 2, oa ra44] [(.int (255 : Int32)), (.int uc)]) _
      refine XS.icmpYes X49.here hx rfl (pc0 := 38) (pc' := 54) rfl (hb hby d5_38) rfl (tlt hd50).2.2.1 (by decide) (by decide) ?_
      show oS T49 (mkF m 54 #[oa r0, oi 0, oi 5, oa b1, oi 2, oa ra44] []) _
      refine XS.aload X49.here hx rfl (hb hby d5_54) rfl rfl ?_
      exact kt
    obtain ⟨fs, hr, hrun, hended, hW, hsame⟩ := X49.leave (v := some (.ref ra44)) (fun h => by rw [Bd.returns] at h; cases h)
    have f54 := (f45.trans Kq44 all0)
    refine ⟨_, _, pre0 _ (c2 _ (st1 _ (c3 _ (st6 _ (c39 _ (c40 _ (st44 _ (c46 _ (st49 _ (c51 _ (c52 _ (?_)))))))))))), hrun, hended, _, _, rfl, ?_, ⟨_, rfl⟩, hW, hsame.mono (by decide) (by decide)⟩
    · show Steps p.tables e below (T49.setTop (mkF m 56 #[oa r0, oi 0, oi 5, oa b1, oi 2, oa ra44] [(.ref ra44)])) _
      jvm_step X49.here [X49.here.top, hx, (hb hby d5_56), X49.method', Bd.returns, Value.isRef, FieldType.isReference]
      first | (intro acts; rw [hr _ acts rfl rfl rfl]) | rw [hr _ _ rfl rfl rfl]
      exact Steps.refl _
    · show Q5 Z r0 ka ua ub uc ud ue cs fm h0 n0 _ T49.heap _
      rw [e49]
      exact ⟨ra44, kx44, rfl, N49, f54, sz_ra44, g_ra44, Or.inr Vq44⟩
  · skip
    have c55 : own_G p e below T6 (mkF m 12 #[oa r0, oi 0, oi 5, oa b1, .unset, .unset] [(.int (3 : Int32))]) (mkF m 12 #[oa r0, oi 0, oi 5, oa b1, .unset, .unset] [(.int (own_cnt ua ub uc ud ue))]) := fun t kt => castTop (congrArg (fun zv => (mkF m 12 #[oa r0, oi 0, oi 5, oa b1, .unset, .unset] [(.int zv)])) (show (own_cnt ua ub uc ud ue) = (3 : Int32) from hq.2)) kt
    have c56 : own_G p e below T6 (mkF m 23 #[oa r0, oi 0, oi 5, oa b1, oi 3, .unset] [(.int (5 : Int32)), (.int (0 : Int32)), (.ref r0)]) (mkF m 12 #[oa r0, oi 0, oi 5, oa b1, .unset, .unset] [(.int (3 : Int32))]) := by
      intro t kt
      show oS T6 (mkF m 12 #[oa r0, oi 0, oi 5, oa b1, .unset, .unset] [(.int (3 : Int32))]) _
      refine XS.istore X6.here hx rfl (hb hby d5_12) rfl (l' := #[oa r0, oi 0, oi 5, oa b1, oi 3, .unset]) rfl ?_
      show oS T6 (mkF m 14 #[oa r0, oi 0, oi 5, oa b1, oi 3, .unset] []) _
      refine XS.iload X6.here hx rfl (hb hby d5_14) rfl ?_
      show oS T6 (mkF m 16 #[oa r0, oi 0, oi 5, oa b1, oi 3, .unset] [(.int (3 : Int32))]) _
      refine XS.iloadN X6.here hx rfl (hb hby d5_16) rfl ?_
      show oS T6 (mkF m 17 #[oa r0, oi 0, oi 5, oa b1, oi 3, .unset] [(.int (5 : Int32)), (.int (3 : Int32))]) _
      refine XS.icmpNo X6.here hx rfl (hb hby d5_17) rfl (feq (by decide : ¬ ((3 : Int32) = (5 : Int32)))).1 ?_
      show oS T6 (mkF m 20 #[oa r0, oi 0, oi 5, oa b1, oi 3, .unset] []) _
      refine XS.aloadN X6.here hx rfl (hb hby d5_20) rfl rfl ?_
      show oS T6 (mkF m 21 #[oa r0, oi 0, oi 5, oa b1, oi 3, .unset] [(.ref r0)]) _
      refine XS.iloadN X6.here hx rfl (hb hby d5_21) rfl ?_
      show oS T6 (mkF m 22 #[oa r0, oi 0, oi 5, oa b1, oi 3, .unset] [(.int (0 : Int32)), (.ref r0)]) _
      refine XS.iloadN X6.here hx rfl (hb hby d5_22) rfl ?_
      exact kt
    have f57 := (Nat.le_trans f4 Kq6.1)
    have f58 := (f5.keep Kq6 (ninS (Nat.ne_of_lt (Nat.lt_of_lt_of_le lt_r0_1 (Nat.le_of_eq g1.symm))) nin0))
    have f59 := ((O0.ext E1).keep Kq6 (allS g_b1 all0))
    obtain ⟨_, _, ⟨T60, L60, k60, n60⟩, -, X60, ⟨Lc60, hQ60, l60, y60, z60⟩, st60⟩ := Jvm.LawKit.callS X6 hx (y := yy_9) hown (mvT hZ (own_t hw 50 rfl)) (mvT hZ (own_t hw 51 rfl)) (mvT hZ (own_t hw 25 rfl)) (mvT hZ (own_t hw 52 rfl)) (by decide) (backOf (W := 0) (rm10 l Z a0 hw []  r0 ka ua ub uc ud ue cs fm T6.heap n0 f57 f58 f59 SC hcs SF hfm SA SH SL) hZ (own_t hw 52 rfl) (own_t hw 25 rfl) (by decide) (by decide)) (g := (mkF m 23 #[oa r0, oi 0, oi 5, oa b1, oi 3, .unset] [(.int (5 : Int32)), (.int (0 : Int32)), (.ref r0)])) rfl (by rw [hml]; rfl) (argsL := [(.ref r0), (.int (0 : Int32)), (.int (5 : Int32))]) (rest := []) (lenOf pd_8 rfl) rfl (by show 2 * 0 + _ ≤ _; exact Nat.le_of_eq rfl) (hb hby d5_23) (fun _ _ => ⟨rfl, rfl, (by decide : 1 + 1 ≤ _), (by decide : 5 + 10 ≤ _)⟩)
    dsimp only [Pt.U, Pt.locs, Pt.cells, Pt.slots] at X60 l60 y60 z60 st60 hQ60
    subst l60 y60 z60
    obtain ⟨ra60, kx60, rfl, N60q, Kq60, szq60, g_ra60, Vq60⟩ := hQ60
    have N60 := Fr.app N6 N60q
    have lt_r0_60 := f58.lt
    have f61 := (((Keep.refl h0 []).ext E1).trans Kq6 (allS (Or.inr sz_b1) all0))
    have sz_ra60 : h0.size ≤ ra60 := Nat.le_trans f61.1 szq60
    have c62 : own_G p e below T60 (mkF m 32 #[oa r0, oi 0, oi 5, oa b1, oi 3, oa ra60] [(.int (3 : Int32)), (.ref ra60)]) (mkF m 26 #[oa r0, oi 0, oi 5, oa b1, oi 3, .unset] [(.ref ra60)]) := by
      intro t kt
      show oS T60 (mkF m 26 #[oa r0, oi 0, oi 5, oa b1, oi 3, .unset] [(.ref ra60)]) _
      refine XS.astore X60.here hx rfl (hb hby d5_26) rfl rfl (l' := #[oa r0, oi 0, oi 5, oa b1, oi 3, oa ra60]) rfl ?_
      show oS T60 (mkF m 28 #[oa r0, oi 0, oi 5, oa b1, oi 3, oa ra60] []) _
      refine XS.aload X60.here hx rfl (hb hby d5_28) rfl rfl ?_
      show oS T60 (mkF m 30 #[oa r0, oi 0, oi 5, oa b1, oi 3, oa ra60] [(.ref ra60)]) _
      refine XS.iload X60.here hx rfl (hb hby d5_30) rfl ?_
      exact kt
    have f63 := (Nat.le_trans f57 Kq60.1)
    have f64 := (f59.keep Kq60 all0)
    obtain ⟨_, _, ⟨T65, L65, k65, n65⟩, -, X65, ⟨Lc65, hQ65, l65, y65, z65⟩, st65⟩ := Jvm.LawKit.callS X60 hx (y := yy_10) hown (mvT hZ (own_t hw 66 rfl)) (mvT hZ (own_t hw 67 rfl)) (mvT hZ (own_t hw 25 rfl)) (mvT hZ (own_t hw 68 rfl)) (by decide) (backOf (W := 0) (rm14 l Z a0 hw [] ra60 (3 : Int32) kx60 [(.int (own_lo ua)), (.int (own_hi ua)), (.int (own_lo ub)), (.int (own_hi ub)), (.int (own_lo uc)), (.int (own_hi uc)), (.int (own_lo ud)), (.int (own_hi ud)), (.int (own_lo ue)), (.int (own_hi ue))] (.int (0 : Int32)) ud T60.heap n0 f63 Vq60 (by decide) (by decide) rfl rfl hru.2.2.2.1 (SA.ext f64.2) (SH.ext f64.2) (SL.ext f64.2)) hZ (own_t hw 68 rfl) (own_t hw 25 rfl) (by decide) (by decide)) (g := (mkF m 32 #[oa r0, oi 0, oi 5, oa b1, oi 3, oa ra60] [(.int (3 : Int32)), (.ref ra60)])) rfl (by rw [hml]; rfl) (argsL := [(.ref ra60), (.int (3 : Int32))]) (rest := []) (lenOf pd_3 rfl) rfl (by show 2 * 0 + _ ≤ _; exact Nat.le_of_eq rfl) (hb hby d5_32) (fun _ _ => ⟨rfl, rfl, (by decide : 2 + 0 ≤ _), (by decide : 15 + 0 ≤ _)⟩)
    dsimp only [Pt.U, Pt.locs, Pt.cells, Pt.slots] at X65 l65 y65 z65 st65 hQ65
    subst l65 y65 z65
    obtain ⟨rfl, N65q, e65⟩ := hQ65
    have N65 := Fr.app N60 N65q
    have c67 : own_G p e below T65 (mkF m 38 #[oa r0, oi 0, oi 5, oa b1, oi 3, oa ra60] [(.int (255 : Int32)), (.int ud)]) (mkF m 35 #[oa r0, oi 0, oi 5, oa b1, oi 3, oa ra60] [(.int ud)]) := by
      intro t kt
      show oS T65 (mkF m 35 #[oa r0, oi 0, oi 5, oa b1, oi 3, oa ra60] [(.int ud)]) _
      refine XS.sipush X65.here hx rfl (hb hby d5_35) ?_
      exact kt
    have hd66 : (255 : Int32) < ud := hq.1
    have c68 : own_G p e below T65 (mkF m 56 #[oa r0, oi 0, oi 5, oa b1, oi 3, oa ra60] [(.ref ra60)]) (mkF m 38 #[oa r0, oi 0, oi 5, oa b1, oi 3, oa ra60] [(.int (255 : Int32)), (.int ud)]) := by
      intro t kt
      show oS T65 (mkF m 38 #[oa r0, oi 0, oi 5, oa b1, oi 3, oa ra60] [(.int (255 : Int32)), (.int ud)]) _
      refine XS.icmpYes X65.here hx rfl (pc0 := 38) (pc' := 54) rfl (hb hby d5_38) rfl (tlt hd66).2.2.1 (by decide) (by decide) ?_
      show oS T65 (mkF m 54 #[oa r0, oi 0, oi 5, oa b1, oi 3, oa ra60] []) _
      refine XS.aload X65.here hx rfl (hb hby d5_54) rfl rfl ?_
      exact kt
    obtain ⟨fs, hr, hrun, hended, hW, hsame⟩ := X65.leave (v := some (.ref ra60)) (fun h => by rw [Bd.returns] at h; cases h)
    have f70 := (f61.trans Kq60 all0)
    refine ⟨_, _, pre0 _ (c2 _ (st1 _ (c3 _ (st6 _ (c55 _ (c56 _ (st60 _ (c62 _ (st65 _ (c67 _ (c68 _ (?_)))))))))))), hrun, hended, _, _, rfl, ?_, ⟨_, rfl⟩, hW, hsame.mono (by decide) (by decide)⟩
    · show Steps p.tables e below (T65.setTop (mkF m 56 #[oa r0, oi 0, oi 5, oa b1, oi 3, oa ra60] [(.ref ra60)])) _
      jvm_step X65.here [X65.here.top, hx, (hb hby d5_56), X65.method', Bd.returns, Value.isRef, FieldType.isReference]
      first | (intro acts; rw [hr _ acts rfl rfl rfl]) | rw [hr _ _ rfl rfl rfl]
      exact Steps.refl _
    · show Q5 Z r0 ka ua ub uc ud ue cs fm h0 n0 _ T65.heap _
      rw [e65]
      exact ⟨ra60, kx60, rfl, N65, f70, sz_ra60, g_ra60, Or.inr Vq60⟩
  · skip
    have c71 : own_G p e below T6 (mkF m 12 #[oa r0, oi 0, oi 5, oa b1, .unset, .unset] [(.int (4 : Int32))]) (mkF m 12 #[oa r0, oi 0, oi 5, oa b1, .unset, .unset] [(.int (own_cnt ua ub uc ud ue))]) := fun t kt => castTop (congrArg (fun zv => (mkF m 12 #[oa r0, oi 0, oi 5, oa b1, .unset, .unset] [(.int zv)])) (show (own_cnt ua ub uc ud ue) = (4 : Int32) from hq.2)) kt
    have c72 : own_G p e below T6 (mkF m 23 #[oa r0, oi 0, oi 5, oa b1, oi 4, .unset] [(.int (5 : Int32)), (.int (0 : Int32)), (.ref r0)]) (mkF m 12 #[oa r0, oi 0, oi 5, oa b1, .unset, .unset] [(.int (4 : Int32))]) := by
      intro t kt
      show oS T6 (mkF m 12 #[oa r0, oi 0, oi 5, oa b1, .unset, .unset] [(.int (4 : Int32))]) _
      refine XS.istore X6.here hx rfl (hb hby d5_12) rfl (l' := #[oa r0, oi 0, oi 5, oa b1, oi 4, .unset]) rfl ?_
      show oS T6 (mkF m 14 #[oa r0, oi 0, oi 5, oa b1, oi 4, .unset] []) _
      refine XS.iload X6.here hx rfl (hb hby d5_14) rfl ?_
      show oS T6 (mkF m 16 #[oa r0, oi 0, oi 5, oa b1, oi 4, .unset] [(.int (4 : Int32))]) _
      refine XS.iloadN X6.here hx rfl (hb hby d5_16) rfl ?_
      show oS T6 (mkF m 17 #[oa r0, oi 0, oi 5, oa b1, oi 4, .unset] [(.int (5 : Int32)), (.int (4 : Int32))]) _
      refine XS.icmpNo X6.here hx rfl (hb hby d5_17) rfl (feq (by decide : ¬ ((4 : Int32) = (5 : Int32)))).1 ?_
      show oS T6 (mkF m 20 #[oa r0, oi 0, oi 5, oa b1, oi 4, .unset] []) _
      refine XS.aloadN X6.here hx rfl (hb hby d5_20) rfl rfl ?_
      show oS T6 (mkF m 21 #[oa r0, oi 0, oi 5, oa b1, oi 4, .unset] [(.ref r0)]) _
      refine XS.iloadN X6.here hx rfl (hb hby d5_21) rfl ?_
      show oS T6 (mkF m 22 #[oa r0, oi 0, oi 5, oa b1, oi 4, .unset] [(.int (0 : Int32)), (.ref r0)]) _
      refine XS.iloadN X6.here hx rfl (hb hby d5_22) rfl ?_
      exact kt
    have f73 := (Nat.le_trans f4 Kq6.1)
    have f74 := (f5.keep Kq6 (ninS (Nat.ne_of_lt (Nat.lt_of_lt_of_le lt_r0_1 (Nat.le_of_eq g1.symm))) nin0))
    have f75 := ((O0.ext E1).keep Kq6 (allS g_b1 all0))
    obtain ⟨_, _, ⟨T76, L76, k76, n76⟩, -, X76, ⟨Lc76, hQ76, l76, y76, z76⟩, st76⟩ := Jvm.LawKit.callS X6 hx (y := yy_9) hown (mvT hZ (own_t hw 50 rfl)) (mvT hZ (own_t hw 51 rfl)) (mvT hZ (own_t hw 25 rfl)) (mvT hZ (own_t hw 52 rfl)) (by decide) (backOf (W := 0) (rm10 l Z a0 hw []  r0 ka ua ub uc ud ue cs fm T6.heap n0 f73 f74 f75 SC hcs SF hfm SA SH SL) hZ (own_t hw 52 rfl) (own_t hw 25 rfl) (by decide) (by decide)) (g := (mkF m 23 #[oa r0, oi 0, oi 5, oa b1, oi 4, .unset] [(.int (5 : Int32)), (.int (0 : Int32)), (.ref r0)])) rfl (by rw [hml]; rfl) (argsL := [(.ref r0), (.int (0 : Int32)), (.int (5 : Int32))]) (rest := []) (lenOf pd_8 rfl) rfl (by show 2 * 0 + _ ≤ _; exact Nat.le_of_eq rfl) (hb hby d5_23) (fun _ _ => ⟨rfl, rfl, (by decide : 1 + 1 ≤ _), (by decide : 5 + 10 ≤ _)⟩)
    dsimp only [Pt.U, Pt.locs, Pt.cells, Pt.slots] at X76 l76 y76 z76 st76 hQ76
    subst l76 y76 z76
    obtain ⟨ra76, kx76, rfl, N76q, Kq76, szq76, g_ra76, Vq76⟩ := hQ76
    have N76 := Fr.app N6 N76q
    have lt_r0_76 := f74.lt
    have f77 := (((Keep.refl h0 []).ext E1).trans Kq6 (allS (Or.inr sz_b1) all0))
    have sz_ra76 : h0.size ≤ ra76 := Nat.le_trans f77.1 szq76
    have c78 : own_G p e below T76 (mkF m 32 #[oa r0, oi 0, oi 5, oa b1, oi 4, oa ra76] [(.int (4 : Int32)), (.ref ra76)]) (mkF m 26 #[oa r0, oi 0, oi 5, oa b1, oi 4, .unset] [(.ref ra76)]) := by
      intro t kt
      show oS T76 (mkF m 26 #[oa r0, oi 0, oi 5, oa b1, oi 4, .unset] [(.ref ra76)]) _
      refine XS.astore X76.here hx rfl (hb hby d5_26) rfl rfl (l' := #[oa r0, oi 0, oi 5, oa b1, oi 4, oa ra76]) rfl ?_
      show oS T76 (mkF m 28 #[oa r0, oi 0, oi 5, oa b1, oi 4, oa ra76] []) _
      refine XS.aload X76.here hx rfl (hb hby d5_28) rfl rfl ?_
      show oS T76 (mkF m 30 #[oa r0, oi 0, oi 5, oa b1, oi 4, oa ra76] [(.ref ra76)]) _
      refine XS.iload X76.here hx rfl (hb hby d5_30) rfl ?_
      exact kt
    have f79 := (Nat.le_trans f73 Kq76.1)
    have f80 := (f75.keep Kq76 all0)
    obtain ⟨_, _, ⟨T81, L81, k81, n81⟩, -, X81, ⟨Lc81, hQ81, l81, y81, z81⟩, st81⟩ := Jvm.LawKit.callS X76 hx (y := yy_10) hown (mvT hZ (own_t hw 66 rfl)) (mvT hZ (own_t hw 67 rfl)) (mvT hZ (own_t hw 25 rfl)) (mvT hZ (own_t hw 68 rfl)) (by decide) (backOf (W := 0) (rm14 l Z a0 hw [] ra76 (4 : Int32) kx76 [(.int (own_lo ua)), (.int (own_hi ua)), (.int (own_lo ub)), (.int (own_hi ub)), (.int (own_lo uc)), (.int (own_hi uc)), (.int (own_lo ud)), (.int (own_hi ud)), (.int (own_lo ue)), (.int (own_hi ue))] (.int (0 : Int32)) ue T76.heap n0 f79 Vq76 (by decide) (by decide) rfl rfl hru.2.2.2.2 (SA.ext f80.2) (SH.ext f80.2) (SL.ext f80.2)) hZ (own_t hw 68 rfl) (own_t hw 25 rfl) (by decide) (by decide)) (g := (mkF m 32 #[oa r0, oi 0, oi 5, oa b1, oi 4, oa ra76] [(.int (4 : Int32)), (.ref ra76)])) rfl (by rw [hml]; rfl) (argsL := [(.ref ra76), (.int (4 : Int32))]) (rest := []) (lenOf pd_3 rfl) rfl (by show 2 * 0 + _ ≤ _; exact Nat.le_of_eq rfl) (hb hby d5_32) (fun _ _ => ⟨rfl, rfl, (by decide : 2 + 0 ≤ _), (by decide : 15 + 0 ≤ _)⟩)
    dsimp only [Pt.U, Pt.locs, Pt.cells, Pt.slots] at X81 l81 y81 z81 st81 hQ81
    subst l81 y81 z81
    obtain ⟨rfl, N81q, e81⟩ := hQ81
    have N81 := Fr.app N76 N81q
    have c83 : own_G p e below T81 (mkF m 38 #[oa r0, oi 0, oi 5, oa b1, oi 4, oa ra76] [(.int (255 : Int32)), (.int ue)]) (mkF m 35 #[oa r0, oi 0, oi 5, oa b1, oi 4, oa ra76] [(.int ue)]) := by
      intro t kt
      show oS T81 (mkF m 35 #[oa r0, oi 0, oi 5, oa b1, oi 4, oa ra76] [(.int ue)]) _
      refine XS.sipush X81.here hx rfl (hb hby d5_35) ?_
      exact kt
    have hd82 : (255 : Int32) < ue := hq.1
    have c84 : own_G p e below T81 (mkF m 56 #[oa r0, oi 0, oi 5, oa b1, oi 4, oa ra76] [(.ref ra76)]) (mkF m 38 #[oa r0, oi 0, oi 5, oa b1, oi 4, oa ra76] [(.int (255 : Int32)), (.int ue)]) := by
      intro t kt
      show oS T81 (mkF m 38 #[oa r0, oi 0, oi 5, oa b1, oi 4, oa ra76] [(.int (255 : Int32)), (.int ue)]) _
      refine XS.icmpYes X81.here hx rfl (pc0 := 38) (pc' := 54) rfl (hb hby d5_38) rfl (tlt hd82).2.2.1 (by decide) (by decide) ?_
      show oS T81 (mkF m 54 #[oa r0, oi 0, oi 5, oa b1, oi 4, oa ra76] []) _
      refine XS.aload X81.here hx rfl (hb hby d5_54) rfl rfl ?_
      exact kt
    obtain ⟨fs, hr, hrun, hended, hW, hsame⟩ := X81.leave (v := some (.ref ra76)) (fun h => by rw [Bd.returns] at h; cases h)
    have f86 := (f77.trans Kq76 all0)
    refine ⟨_, _, pre0 _ (c2 _ (st1 _ (c3 _ (st6 _ (c71 _ (c72 _ (st76 _ (c78 _ (st81 _ (c83 _ (c84 _ (?_)))))))))))), hrun, hended, _, _, rfl, ?_, ⟨_, rfl⟩, hW, hsame.mono (by decide) (by decide)⟩
    · show Steps p.tables e below (T81.setTop (mkF m 56 #[oa r0, oi 0, oi 5, oa b1, oi 4, oa ra76] [(.ref ra76)])) _
      jvm_step X81.here [X81.here.top, hx, (hb hby d5_56), X81.method', Bd.returns, Value.isRef, FieldType.isReference]
      first | (intro acts; rw [hr _ acts rfl rfl rfl]) | rw [hr _ _ rfl rfl rfl]
      exact Steps.refl _
    · show Q5 Z r0 ka ua ub uc ud ue cs fm h0 n0 _ T81.heap _
      rw [e81]
      exact ⟨ra76, kx76, rfl, N81, f86, sz_ra76, g_ra76, Or.inr Vq76⟩
  · skip
    have c87 : own_G p e below T6 (mkF m 12 #[oa r0, oi 0, oi 5, oa b1, .unset, .unset] [(.int (5 : Int32))]) (mkF m 12 #[oa r0, oi 0, oi 5, oa b1, .unset, .unset] [(.int (own_cnt ua ub uc ud ue))]) := fun t kt => castTop (congrArg (fun zv => (mkF m 12 #[oa r0, oi 0, oi 5, oa b1, .unset, .unset] [(.int zv)])) (show (own_cnt ua ub uc ud ue) = (5 : Int32) from hq.2)) kt
    have V5 := Vq6 hq.1
    have c88 : own_G p e below T6 (mkF m 58 #[oa r0, oi 0, oi 5, oa b1, oi 5, .unset] [(.ref b1)]) (mkF m 12 #[oa r0, oi 0, oi 5, oa b1, .unset, .unset] [(.int (5 : Int32))]) := by
      intro t kt
      show oS T6 (mkF m 12 #[oa r0, oi 0, oi 5, oa b1, .unset, .unset] [(.int (5 : Int32))]) _
      refine XS.istore X6.here hx rfl (hb hby d5_12) rfl (l' := #[oa r0, oi 0, oi 5, oa b1, oi 5, .unset]) rfl ?_
      show oS T6 (mkF m 14 #[oa r0, oi 0, oi 5, oa b1, oi 5, .unset] []) _
      refine XS.iload X6.here hx rfl (hb hby d5_14) rfl ?_
      show oS T6 (mkF m 16 #[oa r0, oi 0, oi 5, oa b1, oi 5, .unset] [(.int (5 : Int32))]) _
      refine XS.iloadN X6.here hx rfl (hb hby d5_16) rfl ?_
      show oS T6 (mkF m 17 #[oa r0, oi 0, oi 5, oa b1, oi 5, .unset] [(.int (5 : Int32)), (.int (5 : Int32))]) _
      refine XS.icmpYes X6.here hx rfl (pc0 := 17) (pc' := 57) rfl (hb hby d5_17) rfl (teq (by decide : (5 : Int32) = (5 : Int32))).1 (by decide) (by decide) ?_
      show oS T6 (mkF m 57 #[oa r0, oi 0, oi 5, oa b1, oi 5, .unset] []) _
      refine XS.aloadN X6.here hx rfl (hb hby d5_57) rfl rfl ?_
      exact kt
    obtain ⟨fs, hr, hrun, hended, hW, hsame⟩ := X6.leave (v := some (.ref b1)) (fun h => by rw [Bd.returns] at h; cases h)
    have f90 := (((Keep.refl h0 []).ext E1).trans Kq6 (allS (Or.inr sz_b1) all0))
    refine ⟨_, _, pre0 _ (c2 _ (st1 _ (c3 _ (st6 _ (c87 _ (c88 _ (?_))))))), hrun, hended, _, _, rfl, ?_, ⟨_, rfl⟩, hW, hsame.mono (by decide) (by decide)⟩
    · show Steps p.tables e below (T6.setTop (mkF m 58 #[oa r0, oi 0, oi 5, oa b1, oi 5, .unset] [(.ref b1)])) _
      jvm_step X6.here [X6.here.top, hx, (hb hby d5_58), X6.method', Bd.returns, Value.isRef, FieldType.isReference]
      first | (intro acts; rw [hr _ acts rfl rfl rfl]) | rw [hr _ _ rfl rfl rfl]
      exact Steps.refl _
    · show Q5 Z r0 ka ua ub uc ud ue cs fm h0 n0 _ T6.heap _
      exact ⟨b1, k1, rfl, N6, f90, sz_b1, g_b1, Or.inl ⟨hq.1, V5⟩⟩
theorem d7_0 : decode jdk_52_method_15_code 0 = .ok (.iload_n 1, 1) := by decide +kernel
theorem d7_1 : decode jdk_52_method_15_code 1 = .ok (.aload_n 0, 1) := by decide +kernel
theorem d7_2 : decode jdk_52_method_15_code 2 = .ok (.arraylength, 1) := by decide +kernel
theorem d7_3 : decode jdk_52_method_15_code 3 = .ok (.isub, 1) := by decide +kernel
theorem d7_4 : decode jdk_52_method_15_code 4 = .ok (.bipush 31, 2) := by decide +kernel
theorem d7_6 : decode jdk_52_method_15_code 6 = .ok (.iushr, 1) := by decide +kernel
theorem d7_7 : decode jdk_52_method_15_code 7 = .ok (.i2b, 1) := by decide +kernel
theorem d7_8 : decode jdk_52_method_15_code 8 = .ok (.ireturn, 1) := by decide +kernel
theorem pn_7 : plainName "java/lang/StringUTF16" = true := by first | (simp [plainName, overriddenIn]; done) | decide +kernel
theorem ef_7 (m : MethodId) (x0 : Addr) (x1 : Int32) : entryFrame m #[(.ref x0), (.int x1)] 2 = mkF m 0 #[.val (.ref x0), .val (.int x1)] [] := by first | (simp [entryFrame, mkF, argsToLocals, Value.category]; done) | rfl
def Q7_5 (Z : State) (r0 : Addr) (ka : ClassId) (vs : List Value) (dv : Value) (h0 : Heap) (n0 : Nat) (v : Option Value) (h : Heap) (L : List Loc) : Prop := v = some (.int (0 : Int32)) ∧ Fr n0 L ∧ h = h0
set_option maxRecDepth 65536 in
set_option maxHeartbeats 40000000 in
theorem rm7_5 (l : Launch) (Z : State) (a0 : Array Value) (hw : ∀ d ∈ tables_1, d.before a0 Z = true) (ws : List Jvm.Cond) (r0 : Addr) (ka : ClassId) (vs : List Value) (dv : Value) (h0 : Heap) (n0 : Nat) (Z0 : n0 ≤ h0.size) (V : Arv Z h0 r0 ka .byte (5 : Int32) vs dv) :
    MetFree l yy_13 (head1 (Jvm.Cond.code yy_13 jdk_52_method_15_code 2 (some .byte) :: ws) ({ frames := 0, cells := 0, slots := 0, locals := 0 } : Room)) (fun a U => a = #[(.ref r0), (.int (5 : Int32))] ∧ Z.Warmed39 U.vm ∧ U.heap = h0) (fun _ _ _ _ _ => True) (fun _ U o U' => ∃ v L, o = .returned v ∧ Q7_5 Z r0 ka vs dv h0 n0 v U'.heap L ∧ FrameEnd U o U' L ({ frames := 0, cells := 0, slots := 0, locals := 0 } : Room).cells ({ frames := 0, cells := 0, slots := 0, locals := 0 } : Room).slots) := by
  refine MetFree.of_bodySF (plainFor_of_name pn_7) hisR ?_
  intro p e s m args below meth c s₁ Bd hml0 hP hK
  obtain ⟨rfl, hZ, hh⟩ := hP
  have hx := Bd.exec
  have hby := Bd.bytes
  have hml : c.maxLocals = 2 := hml0
  have hown : s.vm.findClass "java/lang/StringUTF16" = some m.cls := findClass_of_methodNamed Bd.named
  have hnm := (name_of_methodNamed Bd.named Bd.method).1
  have X0 : Stand p l e ({ frames := 0, cells := 0, slots := 0, locals := 0 } : Room) s m #[(.ref r0), (.int (5 : Int32))] below meth c s₁ [] 0 0 := Stand.of_body Bd
  have e0 : s₁.heap = h0 := by rw [← hh, Bd.state]; rfl
  have N0 := Fr.nil n0
  have pre0 : ∀ t, Steps p.tables e below (s₁.setTop (mkF m 0 #[oa r0, oi 5] [])) t → Steps p.tables e below (s₁.setTop (entryFrame m #[(.ref r0), (.int (5 : Int32))] 2)) t := fun t k => castTop (ef_7 m r0 (5 : Int32)) k
  have Vc1 := V
  obtain ⟨cl1, Ar1, qk1, S1, M1, H1, G1⟩ := Vc1
  have c2 : own_G p e below s₁ (mkF m 8 #[oa r0, oi 5] [(.int (((((5 : Int32) - (5 : Int32)).toUInt32 >>> ((31 : Int32) &&& 31).toUInt32).toInt32).toInt8.toInt32))]) (mkF m 0 #[oa r0, oi 5] []) := by
    intro t kt
    show oS s₁ (mkF m 0 #[oa r0, oi 5] []) _
    refine XS.iloadN X0.here hx rfl (hb hby d7_0) rfl ?_
    show oS s₁ (mkF m 1 #[oa r0, oi 5] [(.int (5 : Int32))]) _
    refine XS.aloadN X0.here hx rfl (hb hby d7_1) rfl rfl ?_
    show oS s₁ (mkF m 2 #[oa r0, oi 5] [(.ref r0), (.int (5 : Int32))]) _
    refine X0.arraylength hx (by rw [e0]; exact Ar1.1) (State.isArrayOf_alike hZ.alike Ar1.2.1) (g := (mkF m 2 #[oa r0, oi 5] [(.ref r0), (.int (5 : Int32))])) rfl rfl (hb hby d7_2) _ ?_
    rw [len_of S1 M1]
    show oS s₁ (mkF m 3 #[oa r0, oi 5] [(.int (5 : Int32)), (.int (5 : Int32))]) _
    refine XS.isub X0.here hx rfl (hb hby d7_3) rfl ?_
    show oS s₁ (mkF m 4 #[oa r0, oi 5] [(.int ((5 : Int32) - (5 : Int32)))]) _
    refine XS.bipush X0.here hx rfl (hb hby d7_4) ?_
    show oS s₁ (mkF m 6 #[oa r0, oi 5] [(.int (31 : Int32)), (.int ((5 : Int32) - (5 : Int32)))]) _
    refine XS.iushr X0.here hx rfl (hb hby d7_6) rfl ?_
    show oS s₁ (mkF m 7 #[oa r0, oi 5] [(.int ((((5 : Int32) - (5 : Int32)).toUInt32 >>> ((31 : Int32) &&& 31).toUInt32).toInt32))]) _
    refine XS.i2b X0.here hx rfl (hb hby d7_7) rfl ?_
    exact kt
  obtain ⟨fs, hr, hrun, hended, hW, hsame⟩ := X0.leave (v := some (.int (((((5 : Int32) - (5 : Int32)).toUInt32 >>> ((31 : Int32) &&& 31).toUInt32).toInt32).toInt8.toInt32))) (fun h => by rw [Bd.returns] at h; cases h)
  refine ⟨_, _, pre0 _ (c2 _ (?_)), hrun, hended, _, _, rfl, ?_, ⟨_, rfl⟩, hW, hsame.mono (by decide) (by decide)⟩
  · show Steps p.tables e below (s₁.setTop (mkF m 8 #[oa r0, oi 5] [(.int (((((5 : Int32) - (5 : Int32)).toUInt32 >>> ((31 : Int32) &&& 31).toUInt32).toInt32).toInt8.toInt32))])) _
    exact retN X0 hx (t := .byte) Bd.returns (by simp) (hb hby d7_8) hr
  · show Q7_5 Z r0 ka vs dv h0 n0 _ s₁.heap _
    rw [e0]
    exact ⟨congrArg (fun z => some (Value.int z)) (show (((((5 : Int32) - (5 : Int32)).toUInt32 >>> ((31 : Int32) &&& 31).toUInt32).toInt32).toInt8.toInt32) = (0 : Int32) from by decide), N0, rfl⟩
def Q7_10 (Z : State) (r0 : Addr) (ka : ClassId) (vs : List Value) (dv : Value) (h0 : Heap) (n0 : Nat) (v : Option Value) (h : Heap) (L : List Loc) : Prop := v = some (.int (1 : Int32)) ∧ Fr n0 L ∧ h = h0
set_option maxRecDepth 65536 in
set_option maxHeartbeats 40000000 in
theorem rm7_10 (l : Launch) (Z : State) (a0 : Array Value) (hw : ∀ d ∈ tables_1, d.before a0 Z = true) (ws : List Jvm.Cond) (r0 : Addr) (ka : ClassId) (vs : List Value) (dv : Value) (h0 : Heap) (n0 : Nat) (Z0 : n0 ≤ h0.size) (V : Arv Z h0 r0 ka .byte (10 : Int32) vs dv) :
    MetFree l yy_13 (head1 (Jvm.Cond.code yy_13 jdk_52_method_15_code 2 (some .byte) :: ws) ({ frames := 0, cells := 0, slots := 0, locals := 0 } : Room)) (fun a U => a = #[(.ref r0), (.int (5 : Int32))] ∧ Z.Warmed39 U.vm ∧ U.heap = h0) (fun _ _ _ _ _ => True) (fun _ U o U' => ∃ v L, o = .returned v ∧ Q7_10 Z r0 ka vs dv h0 n0 v U'.heap L ∧ FrameEnd U o U' L ({ frames := 0, cells := 0, slots := 0, locals := 0 } : Room).cells ({ frames := 0, cells := 0, slots := 0, locals := 0 } : Room).slots) := by
  refine MetFree.of_bodySF (plainFor_of_name pn_7) hisR ?_
  intro p e s m args below meth c s₁ Bd hml0 hP hK
  obtain ⟨rfl, hZ, hh⟩ := hP
  have hx := Bd.exec
  have hby := Bd.bytes
  have hml : c.maxLocals = 2 := hml0
  have hown : s.vm.findClass "java/lang/StringUTF16" = some m.cls := findClass_of_methodNamed Bd.named
  have hnm := (name_of_methodNamed Bd.named Bd.method).1
  have X0 : Stand p l e ({ frames := 0, cells := 0, slots := 0, locals := 0 } : Room) s m #[(.ref r0), (.int (5 : Int32))] below meth c s₁ [] 0 0 := Stand.of_body Bd
  have e0 : s₁.heap = h0 := by rw [← hh, Bd.state]; rfl
  have N0 := Fr.nil n0
  have pre0 : ∀ t, Steps p.tables e below (s₁.setTop (mkF m 0 #[oa r0, oi 5] [])) t → Steps p.tables e below (s₁.setTop (entryFrame m #[(.ref r0), (.int (5 : Int32))] 2)) t := fun t k => castTop (ef_7 m r0 (5 : Int32)) k
  have Vc1 := V
  obtain ⟨cl1, Ar1, qk1, S1, M1, H1, G1⟩ := Vc1
  have c2 : own_G p e below s₁ (mkF m 8 #[oa r0, oi 5] [(.int (((((5 : Int32) - (10 : Int32)).toUInt32 >>> ((31 : Int32) &&& 31).toUInt32).toInt32).toInt8.toInt32))]) (mkF m 0 #[oa r0, oi 5] []) := by
    intro t kt
    show oS s₁ (mkF m 0 #[oa r0, oi 5] []) _
    refine XS.iloadN X0.here hx rfl (hb hby d7_0) rfl ?_
    show oS s₁ (mkF m 1 #[oa r0, oi 5] [(.int (5 : Int32))]) _
    refine XS.aloadN X0.here hx rfl (hb hby d7_1) rfl rfl ?_
    show oS s₁ (mkF m 2 #[oa r0, oi 5] [(.ref r0), (.int (5 : Int32))]) _
    refine X0.arraylength hx (by rw [e0]; exact Ar1.1) (State.isArrayOf_alike hZ.alike Ar1.2.1) (g := (mkF m 2 #[oa r0, oi 5] [(.ref r0), (.int (5 : Int32))])) rfl rfl (hb hby d7_2) _ ?_
    rw [len_of S1 M1]
    show oS s₁ (mkF m 3 #[oa r0, oi 5] [(.int (10 : Int32)), (.int (5 : Int32))]) _
    refine XS.isub X0.here hx rfl (hb hby d7_3) rfl ?_
    show oS s₁ (mkF m 4 #[oa r0, oi 5] [(.int ((5 : Int32) - (10 : Int32)))]) _
    refine XS.bipush X0.here hx rfl (hb hby d7_4) ?_
    show oS s₁ (mkF m 6 #[oa r0, oi 5] [(.int (31 : Int32)), (.int ((5 : Int32) - (10 : Int32)))]) _
    refine XS.iushr X0.here hx rfl (hb hby d7_6) rfl ?_
    show oS s₁ (mkF m 7 #[oa r0, oi 5] [(.int ((((5 : Int32) - (10 : Int32)).toUInt32 >>> ((31 : Int32) &&& 31).toUInt32).toInt32))]) _
    refine XS.i2b X0.here hx rfl (hb hby d7_7) rfl ?_
    exact kt
  obtain ⟨fs, hr, hrun, hended, hW, hsame⟩ := X0.leave (v := some (.int (((((5 : Int32) - (10 : Int32)).toUInt32 >>> ((31 : Int32) &&& 31).toUInt32).toInt32).toInt8.toInt32))) (fun h => by rw [Bd.returns] at h; cases h)
  refine ⟨_, _, pre0 _ (c2 _ (?_)), hrun, hended, _, _, rfl, ?_, ⟨_, rfl⟩, hW, hsame.mono (by decide) (by decide)⟩
  · show Steps p.tables e below (s₁.setTop (mkF m 8 #[oa r0, oi 5] [(.int (((((5 : Int32) - (10 : Int32)).toUInt32 >>> ((31 : Int32) &&& 31).toUInt32).toInt32).toInt8.toInt32))])) _
    exact retN X0 hx (t := .byte) Bd.returns (by simp) (hb hby d7_8) hr
  · show Q7_10 Z r0 ka vs dv h0 n0 _ s₁.heap _
    rw [e0]
    exact ⟨congrArg (fun z => some (Value.int z)) (show (((((5 : Int32) - (10 : Int32)).toUInt32 >>> ((31 : Int32) &&& 31).toUInt32).toInt32).toInt8.toInt32) = (1 : Int32) from by decide), N0, rfl⟩
theorem d3_0 : decode jdk_42_method_149_code 0 = .ok (.aload_n 0, 1) := by decide +kernel
theorem d3_1 : decode jdk_42_method_149_code 1 = .ok (.invokespecial 1, 3) := by decide +kernel
theorem d3_4 : decode jdk_42_method_149_code 4 = .ok (.iload_n 3, 1) := by decide +kernel
theorem d3_5 : decode jdk_42_method_149_code 5 = .ok (.ifCond .ne 22, 3) := by decide +kernel
theorem d3_27 : decode jdk_42_method_149_code 27 = .ok (.getstatic 38, 3) := by decide +kernel
theorem d3_30 : decode jdk_42_method_149_code 30 = .ok (.ifCond .eq 28, 3) := by decide +kernel
theorem d3_33 : decode jdk_42_method_149_code 33 = .ok (.aload_n 1, 1) := by decide +kernel
theorem d3_34 : decode jdk_42_method_149_code 34 = .ok (.iload_n 2, 1) := by decide +kernel
theorem d3_35 : decode jdk_42_method_149_code 35 = .ok (.iload_n 3, 1) := by decide +kernel
theorem d3_36 : decode jdk_42_method_149_code 36 = .ok (.invokestatic 177, 3) := by decide +kernel
theorem d3_39 : decode jdk_42_method_149_code 39 = .ok (.astore 5, 2) := by decide +kernel
theorem d3_41 : decode jdk_42_method_149_code 41 = .ok (.aload_n 0, 1) := by decide +kernel
theorem d3_42 : decode jdk_42_method_149_code 42 = .ok (.aload 5, 2) := by decide +kernel
theorem d3_44 : decode jdk_42_method_149_code 44 = .ok (.iload_n 3, 1) := by decide +kernel
theorem d3_45 : decode jdk_42_method_149_code 45 = .ok (.invokestatic 47, 3) := by decide +kernel
theorem d3_48 : decode jdk_42_method_149_code 48 = .ok (.putfield 15, 3) := by decide +kernel
theorem d3_51 : decode jdk_42_method_149_code 51 = .ok (.aload_n 0, 1) := by decide +kernel
theorem d3_52 : decode jdk_42_method_149_code 52 = .ok (.aload 5, 2) := by decide +kernel
theorem d3_54 : decode jdk_42_method_149_code 54 = .ok (.putfield 9, 3) := by decide +kernel
theorem d3_57 : decode jdk_42_method_149_code 57 = .ok (.return_, 1) := by decide +kernel
theorem pn_3 : plainName "java/lang/String" = true := by first | (simp [plainName, overriddenIn]; done) | decide +kernel
theorem ef_3 (m : MethodId) (x0 : Addr) (x1 : Addr) (x2 : Int32) (x3 : Int32) : entryFrame m #[(.ref x0), (.ref x1), (.int x2), (.int x3), .null] 6 = mkF m 0 #[.val (.ref x0), .val (.ref x1), .val (.int x2), .val (.int x3), .val .null, .unset] [] := by first | (simp [entryFrame, mkF, argsToLocals, Value.category]; done) | rfl
def Q3 (Z : State) (r0 : Addr) (r1 : Addr) (ka : ClassId) (ua ub uc ud ue : Int32) (cs : Int32) (fm : Value) (h0 : Heap) (n0 : Nat) (v : Option Value) (h : Heap) (L : List Loc) : Prop := v = none ∧ Fr n0 L ∧ Keep h0 h [r0] ∧ own_made Z h0 n0 h r0 ua ub uc ud ue
set_option maxRecDepth 65536 in
set_option maxHeartbeats 40000000 in
theorem rm3 (l : Launch) (Z : State) (a0 : Array Value) (hw : ∀ d ∈ tables_1, d.before a0 Z = true) (ws : List Jvm.Cond) (r0 : Addr) (r1 : Addr) (ka : ClassId) (ua ub uc ud ue : Int32) (cs : Int32) (fm : Value) (h0 : Heap) (n0 : Nat) (Z0 : n0 ≤ h0.size) (Eo : Exa Z h0 r0 "java/lang/String") (Fo : Fld Z h0 r0 "java/lang/String" "value" "[B" .null) (Co : Fld Z h0 r0 "java/lang/String" "coder" "B" (.int (0 : Int32))) (g_r0 : n0 ≤ r0) (V : Arv Z h0 r1 ka .char (5 : Int32) [(.int ua), (.int ub), (.int uc), (.int ud), (.int ue)] (.int (0 : Int32))) (O0 : Old Z n0 h0) (SC : Sta Z Z.heap "java/lang/String" "COMPACT_STRINGS" "Z" (.int cs)) (hcs : ¬ cs = (0 : Int32)) (SF : Sta Z Z.heap "jdk/internal/util/Preconditions" "SIOOBE_FORMATTER" "Ljava/util/function/BiFunction;" fm) (hfm : fm.isRef = true) (SA : Sta Z Z.heap "java/lang/StringUTF16" "$assertionsDisabled" "Z" (.int (1 : Int32))) (SH : Sta Z Z.heap "java/lang/StringUTF16" "HI_BYTE_SHIFT" "I" (.int (0 : Int32))) (SL : Sta Z Z.heap "java/lang/StringUTF16" "LO_BYTE_SHIFT" "I" (.int (8 : Int32))) (hru : own_ru ua ub uc ud ue) (hne : r1 ≠ r0) :
    MetFree l yy_14 (head1 (Jvm.Cond.code yy_14 jdk_42_method_149_code 6 none :: ws) ({ frames := 4, cells := 2, slots := 15, locals := 57 } : Room)) (fun a U => a = #[(.ref r0), (.ref r1), (.int (0 : Int32)), (.int (5 : Int32)), .null] ∧ Z.Warmed39 U.vm ∧ U.heap = h0) (fun _ _ _ _ _ => True) (fun _ U o U' => ∃ v L, o = .returned v ∧ Q3 Z r0 r1 ka ua ub uc ud ue cs fm h0 n0 v U'.heap L ∧ FrameEnd U o U' L ({ frames := 4, cells := 2, slots := 15, locals := 57 } : Room).cells ({ frames := 4, cells := 2, slots := 15, locals := 57 } : Room).slots) := by
  refine MetFree.of_bodySF (plainFor_of_name pn_3) hisR ?_
  intro p e s m args below meth c s₁ Bd hml0 hP hK
  obtain ⟨rfl, hZ, hh⟩ := hP
  have hx := Bd.exec
  have hby := Bd.bytes
  have hml : c.maxLocals = 6 := hml0
  have hown : s.vm.findClass "java/lang/String" = some m.cls := findClass_of_methodNamed Bd.named
  have hnm := (name_of_methodNamed Bd.named Bd.method).1
  have X0 : Stand p l e ({ frames := 4, cells := 2, slots := 15, locals := 57 } : Room) s m #[(.ref r0), (.ref r1), (.int (0 : Int32)), (.int (5 : Int32)), .null] below meth c s₁ [] 0 0 := Stand.of_body Bd
  have e0 : s₁.heap = h0 := by rw [← hh, Bd.state]; rfl
  have N0 := Fr.nil n0
  have pre0 : ∀ t, Steps p.tables e below (s₁.setTop (mkF m 0 #[oa r0, oa r1, oi 0, oi 5, .val .null, .unset] [])) t → Steps p.tables e below (s₁.setTop (entryFrame m #[(.ref r0), (.ref r1), (.int (0 : Int32)), (.int (5 : Int32)), .null] 6)) t := fun t k => castTop (ef_3 m r0 r1 (0 : Int32) (5 : Int32)) k
  have c2 : own_G p e below s₁ (mkF m 1 #[oa r0, oa r1, oi 0, oi 5, .val .null, .unset] [(.ref r0)]) (mkF m 0 #[oa r0, oa r1, oi 0, oi 5, .val .null, .unset] []) := by
    intro t kt
    show oS s₁ (mkF m 0 #[oa r0, oa r1, oi 0, oi 5, .val .null, .unset] []) _
    refine XS.aloadN X0.here hx rfl (hb hby d3_0) rfl rfl ?_
    exact kt
  obtain ⟨T1, X1, e1, st1⟩ := initO X0 hx hZ hown (own_t hw 19 rfl) (own_t hw 20 rfl) (own_t hw 21 rfl) e0 (g := (mkF m 1 #[oa r0, oa r1, oi 0, oi 5, .val .null, .unset] [(.ref r0)])) rfl (by rw [hml]; rfl) rfl (hb hby d3_1) (by decide) (W := 0) (by show 2 * 0 + _ ≤ _; exact Nat.le_of_eq rfl) (by decide)
  have c4 : own_G p e below T1 (mkF m 27 #[oa r0, oa r1, oi 0, oi 5, .val .null, .unset] []) (mkF m 4 #[oa r0, oa r1, oi 0, oi 5, .val .null, .unset] []) := by
    intro t kt
    show oS T1 (mkF m 4 #[oa r0, oa r1, oi 0, oi 5, .val .null, .unset] []) _
    refine XS.iloadN X1.here hx rfl (hb hby d3_4) rfl ?_
    show oS T1 (mkF m 5 #[oa r0, oa r1, oi 0, oi 5, .val .null, .unset] [(.int (5 : Int32))]) _
    refine XS.ifYes X1.here hx rfl (pc0 := 5) (pc' := 27) rfl (hb hby d3_5) rfl ((if0 _ _).trans (feq (by decide : ¬ ((5 : Int32) = (0 : Int32)))).2) (by decide) (by decide) ?_
    exact kt
  obtain ⟨T3, X3, e3, st3⟩ := getS2 X1 hx hZ hown (host := "") (Or.inl (own_t hw 22 rfl)) Via.refl e1 (SC.ext O0.2) (g := (mkF m 27 #[oa r0, oa r1, oi 0, oi 5, .val .null, .unset] [])) rfl (hb hby d3_27)
  have hd5 : ¬ (cs = (0 : Int32)) := hcs
  have c6 : own_G p e below T3 (mkF m 36 #[oa r0, oa r1, oi 0, oi 5, .val .null, .unset] [(.int (5 : Int32)), (.int (0 : Int32)), (.ref r1)]) (mkF m 30 #[oa r0, oa r1, oi 0, oi 5, .val .null, .unset] [(.int cs)]) := by
    intro t kt
    show oS T3 (mkF m 30 #[oa r0, oa r1, oi 0, oi 5, .val .null, .unset] [(.int cs)]) _
    refine XS.ifNo X3.here hx rfl (hb hby d3_30) rfl ((if0 _ _).trans (feq hd5).1) ?_
    show oS T3 (mkF m 33 #[oa r0, oa r1, oi 0, oi 5, .val .null, .unset] []) _
    refine XS.aloadN X3.here hx rfl (hb hby d3_33) rfl rfl ?_
    show oS T3 (mkF m 34 #[oa r0, oa r1, oi 0, oi 5, .val .null, .unset] [(.ref r1)]) _
    refine XS.iloadN X3.here hx rfl (hb hby d3_34) rfl ?_
    show oS T3 (mkF m 35 #[oa r0, oa r1, oi 0, oi 5, .val .null, .unset] [(.int (0 : Int32)), (.ref r1)]) _
    refine XS.iloadN X3.here hx rfl (hb hby d3_35) rfl ?_
    exact kt
  obtain ⟨_, _, ⟨T7, L7, k7, n7⟩, -, X7, ⟨Lc7, hQ7, l7, y7, z7⟩, st7⟩ := Jvm.LawKit.callS X3 hx (y := yy_12) hown (mvT hZ (own_t hw 23 rfl)) (mvT hZ (own_t hw 24 rfl)) (mvT hZ (own_t hw 25 rfl)) (mvT hZ (own_t hw 26 rfl)) (by decide) (backOf (W := 0) (rm5 l Z a0 hw []  r1 ka ua ub uc ud ue cs fm h0 n0 Z0 V O0 SC hcs SF hfm SA SH SL hru) hZ (own_t hw 26 rfl) (own_t hw 25 rfl) (by decide) (by decide)) (g := (mkF m 36 #[oa r0, oa r1, oi 0, oi 5, .val .null, .unset] [(.int (5 : Int32)), (.int (0 : Int32)), (.ref r1)])) rfl (by rw [hml]; rfl) (argsL := [(.ref r1), (.int (0 : Int32)), (.int (5 : Int32))]) (rest := []) (lenOf pd_8 rfl) rfl (by show 2 * 0 + _ ≤ _; exact Nat.le_of_eq rfl) (hb hby d3_36) (fun _ _ => ⟨rfl, e3, (by decide : 0 + 2 ≤ _), (by decide : 0 + 15 ≤ _)⟩)
  dsimp only [Pt.U, Pt.locs, Pt.cells, Pt.slots] at X7 l7 y7 z7 st7 hQ7
  subst l7 y7 z7
  obtain ⟨ra7, kx7, rfl, N7q, Kq7, szq7, g_ra7, henc⟩ := hQ7
  have N7 := Fr.app N0 N7q
  have lt_r0_7 := Eo.lt
  have lt_r1_7 := V.lt
  have sz_ra7 : h0.size ≤ ra7 := Nat.le_trans (Keep.refl h0 [r0]).1 szq7
  rcases henc with ⟨hall, Vz⟩ | Vz
  · skip
    have c8 : own_G p e below T7 (mkF m 45 #[oa r0, oa r1, oi 0, oi 5, .val .null, oa ra7] [(.int (5 : Int32)), (.ref ra7), (.ref r0)]) (mkF m 39 #[oa r0, oa r1, oi 0, oi 5, .val .null, .unset] [(.ref ra7)]) := by
      intro t kt
      show oS T7 (mkF m 39 #[oa r0, oa r1, oi 0, oi 5, .val .null, .unset] [(.ref ra7)]) _
      refine XS.astore X7.here hx rfl (hb hby d3_39) rfl rfl (l' := #[oa r0, oa r1, oi 0, oi 5, .val .null, oa ra7]) rfl ?_
      show oS T7 (mkF m 41 #[oa r0, oa r1, oi 0, oi 5, .val .null, oa ra7] []) _
      refine XS.aloadN X7.here hx rfl (hb hby d3_41) rfl rfl ?_
      show oS T7 (mkF m 42 #[oa r0, oa r1, oi 0, oi 5, .val .null, oa ra7] [(.ref r0)]) _
      refine XS.aload X7.here hx rfl (hb hby d3_42) rfl rfl ?_
      show oS T7 (mkF m 44 #[oa r0, oa r1, oi 0, oi 5, .val .null, oa ra7] [(.ref ra7), (.ref r0)]) _
      refine XS.iloadN X7.here hx rfl (hb hby d3_44) rfl ?_
      exact kt
    have f9 := (Nat.le_trans Z0 Kq7.1)
    obtain ⟨_, _, ⟨T10, L10, k10, n10⟩, -, X10, ⟨Lc10, hQ10, l10, y10, z10⟩, st10⟩ := Jvm.LawKit.callS X7 hx (y := yy_13) hown (mvT hZ (own_t hw 31 rfl)) (mvT hZ (own_t hw 32 rfl)) (mvT hZ (own_t hw 25 rfl)) (mvT hZ (own_t hw 33 rfl)) (by decide) (backOf (W := 1) (rm7_5 l Z a0 hw []  ra7 kx7 [(.int (own_bb ua)), (.int (own_bb ub)), (.int (own_bb uc)), (.int (own_bb ud)), (.int (own_bb ue))] (.int (0 : Int32)) T7.heap n0 f9 Vz) hZ (own_t hw 33 rfl) (own_t hw 25 rfl) (by decide) (by decide)) (g := (mkF m 45 #[oa r0, oa r1, oi 0, oi 5, .val .null, oa ra7] [(.int (5 : Int32)), (.ref ra7), (.ref r0)])) rfl (by rw [hml]; rfl) (argsL := [(.ref ra7), (.int (5 : Int32))]) (rest := [(.ref r0)]) (lenOf pd_9 rfl) rfl (by show 2 * 0 + _ ≤ _; exact Nat.le_of_eq rfl) (hb hby d3_45) (fun _ _ => ⟨rfl, rfl, (by decide : 2 + 0 ≤ _), (by decide : 15 + 0 ≤ _)⟩)
    dsimp only [Pt.U, Pt.locs, Pt.cells, Pt.slots] at X10 l10 y10 z10 st10 hQ10
    subst l10 y10 z10
    obtain ⟨rfl, N10q, e10⟩ := hQ10
    have N10 := Fr.app N7 N10q
    have f11 := (Co.keep Kq7 nin0)
    have f12 := (Eo.keep Kq7)
    obtain ⟨T13, h13, X13, e13, W13, st13⟩ := putFN X10 hx hZ hown (own_t hw 34 rfl) Via.refl e10 f11 f12 (Or.inr ⟨(own_t hw 35 rfl), rfl, hnm⟩) (own_t hw 10 rfl) (ty := .byte) (v' := (.int (0 : Int32))) (by decide) rfl rfl (g := (mkF m 48 #[oa r0, oa r1, oi 0, oi 5, .val .null, oa ra7] [(.int (0 : Int32)), (.ref r0)])) rfl rfl (hb hby d3_48)
    have Fw13 := f11.same W13
    have N13 := Fr.snoc X13 N10 g_r0
    have f14 := ((Fo.keep Kq7 nin0).other W13 (Or.inr (slot_ne (a0 := a0) (Or.inr (own_t hw 37 rfl)) (Or.inr (own_t hw 35 rfl)) (by decide) (t := (.array .byte)) (t' := .byte) (by decide) (by decide))))
    have f15 := (f12.wr W13)
    have c17 : own_G p e below T13 (mkF m 54 #[oa r0, oa r1, oi 0, oi 5, .val .null, oa ra7] [(.ref ra7), (.ref r0)]) (mkF m 51 #[oa r0, oa r1, oi 0, oi 5, .val .null, oa ra7] []) := by
      intro t kt
      show oS T13 (mkF m 51 #[oa r0, oa r1, oi 0, oi 5, .val .null, oa ra7] []) _
      refine XS.aloadN X13.here hx rfl (hb hby d3_51) rfl rfl ?_
      show oS T13 (mkF m 52 #[oa r0, oa r1, oi 0, oi 5, .val .null, oa ra7] [(.ref r0)]) _
      refine XS.aload X13.here hx rfl (hb hby d3_52) rfl rfl ?_
      exact kt
    obtain ⟨T16, h16, X16, e16, W16, st16⟩ := putF X13 hx hZ hown (host := "") (Or.inl (own_t hw 36 rfl)) Via.refl e13 f14 f15 (Or.inr ⟨(own_t hw 37 rfl), rfl, hnm⟩) (own_t hw 10 rfl) (ty := (.array .byte)) (by decide) rfl rfl (g := (mkF m 54 #[oa r0, oa r1, oi 0, oi 5, .val .null, oa ra7] [(.ref ra7), (.ref r0)])) rfl rfl (hb hby d3_54)
    have Fw16 := f14.same W16
    have N16 := Fr.snoc X16 N13 g_r0
    obtain ⟨fs, hr, hrun, hended, hW, hsame⟩ := X16.leave (v := none) (fun _ => rfl)
    have f19 := ((((Keep.refl h0 [r0]).trans Kq7 all0).wr W13 (Or.inl (List.mem_of_getElem? (i := 0) rfl))).wr W16 (Or.inl (List.mem_of_getElem? (i := 0) rfl)))
    have f20 := (f15.wr W16)
    have f21 := (Fw13.other W16 (Or.inr (slot_ne (a0 := a0) (Or.inr (own_t hw 35 rfl)) (Or.inr (own_t hw 37 rfl)) (by decide) (t := .byte) (t' := (.array .byte)) (by decide) (by decide))))
    have f22 := ((Vz.other W13 (Ne.symm (Nat.ne_of_lt (Nat.lt_of_lt_of_le lt_r0_7 szq7)))).other W16 (Ne.symm (Nat.ne_of_lt (Nat.lt_of_lt_of_le lt_r0_7 szq7))))
    refine ⟨_, _, pre0 _ (c2 _ (st1 _ (c4 _ (st3 _ (c6 _ (st7 _ (c8 _ (st10 _ (st13 _ (c17 _ (st16 _ (?_)))))))))))), hrun, hended, _, _, rfl, ?_, ⟨_, rfl⟩, hW, hsame.mono (by decide) (by decide)⟩
    · show Steps p.tables e below (T16.setTop (mkF m 57 #[oa r0, oa r1, oi 0, oi 5, .val .null, oa ra7] [])) _
      exact X16.returnOut hx Bd.returns (hb hby d3_57) hr
    · show Q3 Z r0 r1 ka ua ub uc ud ue cs fm h0 n0 _ T16.heap _
      rw [e16]
      exact ⟨rfl, N16, f19, ⟨f20, ra7, kx7, sz_ra7, g_ra7, Fw16, Or.inl ⟨hall, f21, f22⟩⟩⟩
  · skip
    have c23 : own_G p e below T7 (mkF m 45 #[oa r0, oa r1, oi 0, oi 5, .val .null, oa ra7] [(.int (5 : Int32)), (.ref ra7), (.ref r0)]) (mkF m 39 #[oa r0, oa r1, oi 0, oi 5, .val .null, .unset] [(.ref ra7)]) := by
      intro t kt
      show oS T7 (mkF m 39 #[oa r0, oa r1, oi 0, oi 5, .val .null, .unset] [(.ref ra7)]) _
      refine XS.astore X7.here hx rfl (hb hby d3_39) rfl rfl (l' := #[oa r0, oa r1, oi 0, oi 5, .val .null, oa ra7]) rfl ?_
      show oS T7 (mkF m 41 #[oa r0, oa r1, oi 0, oi 5, .val .null, oa ra7] []) _
      refine XS.aloadN X7.here hx rfl (hb hby d3_41) rfl rfl ?_
      show oS T7 (mkF m 42 #[oa r0, oa r1, oi 0, oi 5, .val .null, oa ra7] [(.ref r0)]) _
      refine XS.aload X7.here hx rfl (hb hby d3_42) rfl rfl ?_
      show oS T7 (mkF m 44 #[oa r0, oa r1, oi 0, oi 5, .val .null, oa ra7] [(.ref ra7), (.ref r0)]) _
      refine XS.iloadN X7.here hx rfl (hb hby d3_44) rfl ?_
      exact kt
    have f24 := (Nat.le_trans Z0 Kq7.1)
    obtain ⟨_, _, ⟨T25, L25, k25, n25⟩, -, X25, ⟨Lc25, hQ25, l25, y25, z25⟩, st25⟩ := Jvm.LawKit.callS X7 hx (y := yy_13) hown (mvT hZ (own_t hw 31 rfl)) (mvT hZ (own_t hw 32 rfl)) (mvT hZ (own_t hw 25 rfl)) (mvT hZ (own_t hw 33 rfl)) (by decide) (backOf (W := 1) (rm7_10 l Z a0 hw []  ra7 kx7 [(.int (own_lo ua)), (.int (own_hi ua)), (.int (own_lo ub)), (.int (own_hi ub)), (.int (own_lo uc)), (.int (own_hi uc)), (.int (own_lo ud)), (.int (own_hi ud)), (.int (own_lo ue)), (.int (own_hi ue))] (.int (0 : Int32)) T7.heap n0 f24 Vz) hZ (own_t hw 33 rfl) (own_t hw 25 rfl) (by decide) (by decide)) (g := (mkF m 45 #[oa r0, oa r1, oi 0, oi 5, .val .null, oa ra7] [(.int (5 : Int32)), (.ref ra7), (.ref r0)])) rfl (by rw [hml]; rfl) (argsL := [(.ref ra7), (.int (5 : Int32))]) (rest := [(.ref r0)]) (lenOf pd_9 rfl) rfl (by show 2 * 0 + _ ≤ _; exact Nat.le_of_eq rfl) (hb hby d3_45) (fun _ _ => ⟨rfl, rfl, (by decide : 2 + 0 ≤ _), (by decide : 15 + 0 ≤ _)⟩)
    dsimp only [Pt.U, Pt.locs, Pt.cells, Pt.slots] at X25 l25 y25 z25 st25 hQ25
    subst l25 y25 z25
    obtain ⟨rfl, N25q, e25⟩ := hQ25
    have N25 := Fr.app N7 N25q
    have f26 := (Co.keep Kq7 nin0)
    have f27 := (Eo.keep Kq7)
    obtain ⟨T28, h28, X28, e28, W28, st28⟩ := putFN X25 hx hZ hown (own_t hw 34 rfl) Via.refl e25 f26 f27 (Or.inr ⟨(own_t hw 35 rfl), rfl, hnm⟩) (own_t hw 10 rfl) (ty := .byte) (v' := (.int (1 : Int32))) (by decide) rfl rfl (g := (mkF m 48 #[oa r0, oa r1, oi 0, oi 5, .val .null, oa ra7] [(.int (1 : Int32)), (.ref r0)])) rfl rfl (hb hby d3_48)
    have Fw28 := f26.same W28
    have N28 := Fr.snoc X28 N25 g_r0
    have f29 := ((Fo.keep Kq7 nin0).other W28 (Or.inr (slot_ne (a0 := a0) (Or.inr (own_t hw 37 rfl)) (Or.inr (own_t hw 35 rfl)) (by decide) (t := (.array .byte)) (t' := .byte) (by decide) (by decide))))
    have f30 := (f27.wr W28)
    have c32 : own_G p e below T28 (mkF m 54 #[oa r0, oa r1, oi 0, oi 5, .val .null, oa ra7] [(.ref ra7), (.ref r0)]) (mkF m 51 #[oa r0, oa r1, oi 0, oi 5, .val .null, oa ra7] []) := by
      intro t kt
      show oS T28 (mkF m 51 #[oa r0, oa r1, oi 0, oi 5, .val .null, oa ra7] []) _
      refine XS.aloadN X28.here hx rfl (hb hby d3_51) rfl rfl ?_
      show oS T28 (mkF m 52 #[oa r0, oa r1, oi 0, oi 5, .val .null, oa ra7] [(.ref r0)]) _
      refine XS.aload X28.here hx rfl (hb hby d3_52) rfl rfl ?_
      exact kt
    obtain ⟨T31, h31, X31, e31, W31, st31⟩ := putF X28 hx hZ hown (host := "") (Or.inl (own_t hw 36 rfl)) Via.refl e28 f29 f30 (Or.inr ⟨(own_t hw 37 rfl), rfl, hnm⟩) (own_t hw 10 rfl) (ty := (.array .byte)) (by decide) rfl rfl (g := (mkF m 54 #[oa r0, oa r1, oi 0, oi 5, .val .null, oa ra7] [(.ref ra7), (.ref r0)])) rfl rfl (hb hby d3_54)
    have Fw31 := f29.same W31
    have N31 := Fr.snoc X31 N28 g_r0
    obtain ⟨fs, hr, hrun, hended, hW, hsame⟩ := X31.leave (v := none) (fun _ => rfl)
    have f34 := ((((Keep.refl h0 [r0]).trans Kq7 all0).wr W28 (Or.inl (List.mem_of_getElem? (i := 0) rfl))).wr W31 (Or.inl (List.mem_of_getElem? (i := 0) rfl)))
    have f35 := (f30.wr W31)
    have f36 := (Fw28.other W31 (Or.inr (slot_ne (a0 := a0) (Or.inr (own_t hw 35 rfl)) (Or.inr (own_t hw 37 rfl)) (by decide) (t := .byte) (t' := (.array .byte)) (by decide) (by decide))))
    have f37 := ((Vz.other W28 (Ne.symm (Nat.ne_of_lt (Nat.lt_of_lt_of_le lt_r0_7 szq7)))).other W31 (Ne.symm (Nat.ne_of_lt (Nat.lt_of_lt_of_le lt_r0_7 szq7))))
    refine ⟨_, _, pre0 _ (c2 _ (st1 _ (c4 _ (st3 _ (c6 _ (st7 _ (c23 _ (st25 _ (st28 _ (c32 _ (st31 _ (?_)))))))))))), hrun, hended, _, _, rfl, ?_, ⟨_, rfl⟩, hW, hsame.mono (by decide) (by decide)⟩
    · show Steps p.tables e below (T31.setTop (mkF m 57 #[oa r0, oa r1, oi 0, oi 5, .val .null, oa ra7] [])) _
      exact X31.returnOut hx Bd.returns (hb hby d3_57) hr
    · show Q3 Z r0 r1 ka ua ub uc ud ue cs fm h0 n0 _ T31.heap _
      rw [e31]
      exact ⟨rfl, N31, f34, ⟨f35, ra7, kx7, sz_ra7, g_ra7, Fw31, Or.inr ⟨f36, f37⟩⟩⟩
theorem d2_0 : decode jdk_42_method_3_code 0 = .ok (.aload_n 0, 1) := by decide +kernel
theorem d2_1 : decode jdk_42_method_3_code 1 = .ok (.aload_n 1, 1) := by decide +kernel
theorem d2_2 : decode jdk_42_method_3_code 2 = .ok (.iconst 0, 1) := by decide +kernel
theorem d2_3 : decode jdk_42_method_3_code 3 = .ok (.aload_n 1, 1) := by decide +kernel
theorem d2_4 : decode jdk_42_method_3_code 4 = .ok (.arraylength, 1) := by decide +kernel
theorem d2_5 : decode jdk_42_method_3_code 5 = .ok (.aconst_null, 1) := by decide +kernel
theorem d2_6 : decode jdk_42_method_3_code 6 = .ok (.invokespecial 27, 3) := by decide +kernel
theorem d2_9 : decode jdk_42_method_3_code 9 = .ok (.return_, 1) := by decide +kernel
theorem pn_2 : plainName "java/lang/String" = true := by first | (simp [plainName, overriddenIn]; done) | decide +kernel
theorem ef_2 (m : MethodId) (x0 : Addr) (x1 : Addr) : entryFrame m #[(.ref x0), (.ref x1)] 2 = mkF m 0 #[.val (.ref x0), .val (.ref x1)] [] := by first | (simp [entryFrame, mkF, argsToLocals, Value.category]; done) | rfl
def Q2 (Z : State) (r0 : Addr) (r1 : Addr) (ka : ClassId) (ua ub uc ud ue : Int32) (cs : Int32) (fm : Value) (h0 : Heap) (n0 : Nat) (v : Option Value) (h : Heap) (L : List Loc) : Prop := v = none ∧ Fr n0 L ∧ Keep h0 h [r0] ∧ own_made Z h0 n0 h r0 ua ub uc ud ue
set_option maxRecDepth 65536 in
set_option maxHeartbeats 40000000 in
theorem rm2 (l : Launch) (Z : State) (a0 : Array Value) (hw : ∀ d ∈ tables_1, d.before a0 Z = true) (ws : List Jvm.Cond) (r0 : Addr) (r1 : Addr) (ka : ClassId) (ua ub uc ud ue : Int32) (cs : Int32) (fm : Value) (h0 : Heap) (n0 : Nat) (Z0 : n0 ≤ h0.size) (Eo : Exa Z h0 r0 "java/lang/String") (Fo : Fld Z h0 r0 "java/lang/String" "value" "[B" .null) (Co : Fld Z h0 r0 "java/lang/String" "coder" "B" (.int (0 : Int32))) (g_r0 : n0 ≤ r0) (V : Arv Z h0 r1 ka .char (5 : Int32) [(.int ua), (.int ub), (.int uc), (.int ud), (.int ue)] (.int (0 : Int32))) (O0 : Old Z n0 h0) (SC : Sta Z Z.heap "java/lang/String" "COMPACT_STRINGS" "Z" (.int cs)) (hcs : ¬ cs = (0 : Int32)) (SF : Sta Z Z.heap "jdk/internal/util/Preconditions" "SIOOBE_FORMATTER" "Ljava/util/function/BiFunction;" fm) (hfm : fm.isRef = true) (SA : Sta Z Z.heap "java/lang/StringUTF16" "$assertionsDisabled" "Z" (.int (1 : Int32))) (SH : Sta Z Z.heap "java/lang/StringUTF16" "HI_BYTE_SHIFT" "I" (.int (0 : Int32))) (SL : Sta Z Z.heap "java/lang/StringUTF16" "LO_BYTE_SHIFT" "I" (.int (8 : Int32))) (hru : own_ru ua ub uc ud ue) (hne : r1 ≠ r0) :
    MetFree l yy_15 (head1 (Jvm.Cond.code yy_15 jdk_42_method_3_code 2 none :: ws) ({ frames := 5, cells := 2, slots := 15, locals := 74 } : Room)) (fun a U => a = #[(.ref r0), (.ref r1)] ∧ Z.Warmed39 U.vm ∧ U.heap = h0) (fun _ _ _ _ _ => True) (fun _ U o U' => ∃ v L, o = .returned v ∧ Q2 Z r0 r1 ka ua ub uc ud ue cs fm h0 n0 v U'.heap L ∧ FrameEnd U o U' L ({ frames := 5, cells := 2, slots := 15, locals := 74 } : Room).cells ({ frames := 5, cells := 2, slots := 15, locals := 74 } : Room).slots) := by
  refine MetFree.of_bodySF (plainFor_of_name pn_2) hisR ?_
  intro p e s m args below meth c s₁ Bd hml0 hP hK
  obtain ⟨rfl, hZ, hh⟩ := hP
  have hx := Bd.exec
  have hby := Bd.bytes
  have hml : c.maxLocals = 2 := hml0
  have hown : s.vm.findClass "java/lang/String" = some m.cls := findClass_of_methodNamed Bd.named
  have hnm := (name_of_methodNamed Bd.named Bd.method).1
  have X0 : Stand p l e ({ frames := 5, cells := 2, slots := 15, locals := 74 } : Room) s m #[(.ref r0), (.ref r1)] below meth c s₁ [] 0 0 := Stand.of_body Bd
  have e0 : s₁.heap = h0 := by rw [← hh, Bd.state]; rfl
  have N0 := Fr.nil n0
  have pre0 : ∀ t, Steps p.tables e below (s₁.setTop (mkF m 0 #[oa r0, oa r1] [])) t → Steps p.tables e below (s₁.setTop (entryFrame m #[(.ref r0), (.ref r1)] 2)) t := fun t k => castTop (ef_2 m r0 r1) k
  have Vc1 := V
  obtain ⟨cl1, Ar1, qk1, S1, M1, H1, G1⟩ := Vc1
  have c2 : own_G p e below s₁ (mkF m 6 #[oa r0, oa r1] [.null, (.int (5 : Int32)), (.int (0 : Int32)), (.ref r1), (.ref r0)]) (mkF m 0 #[oa r0, oa r1] []) := by
    intro t kt
    show oS s₁ (mkF m 0 #[oa r0, oa r1] []) _
    refine XS.aloadN X0.here hx rfl (hb hby d2_0) rfl rfl ?_
    show oS s₁ (mkF m 1 #[oa r0, oa r1] [(.ref r0)]) _
    refine XS.aloadN X0.here hx rfl (hb hby d2_1) rfl rfl ?_
    show oS s₁ (mkF m 2 #[oa r0, oa r1] [(.ref r1), (.ref r0)]) _
    refine XS.iconst X0.here hx rfl (hb hby d2_2) ?_
    show oS s₁ (mkF m 3 #[oa r0, oa r1] [(.int (0 : Int32)), (.ref r1), (.ref r0)]) _
    refine XS.aloadN X0.here hx rfl (hb hby d2_3) rfl rfl ?_
    show oS s₁ (mkF m 4 #[oa r0, oa r1] [(.ref r1), (.int (0 : Int32)), (.ref r1), (.ref r0)]) _
    refine X0.arraylength hx (by rw [e0]; exact Ar1.1) (State.isArrayOf_alike hZ.alike Ar1.2.1) (g := (mkF m 4 #[oa r0, oa r1] [(.ref r1), (.int (0 : Int32)), (.ref r1), (.ref r0)])) rfl rfl (hb hby d2_4) _ ?_
    rw [len_of S1 M1]
    show oS s₁ (mkF m 5 #[oa r0, oa r1] [(.int (5 : Int32)), (.int (0 : Int32)), (.ref r1), (.ref r0)]) _
    refine XS.aconstNull X0.here hx rfl (hb hby d2_5) ?_
    exact kt
  obtain ⟨_, _, ⟨T3, L3, k3, n3⟩, -, X3, ⟨Lc3, hQ3, l3, y3, z3⟩, st3⟩ := X0.specialBack hx (y := yy_14) rfl hown (mvT hZ (own_t hw 15 rfl)) (mvT hZ (own_t hw 16 rfl)) (mvT hZ (own_t hw 18 rfl)) (by decide) (backOf (W := 0) (rm3 l Z a0 hw []  r0 r1 ka ua ub uc ud ue cs fm h0 n0 Z0 Eo Fo Co g_r0 V O0 SC hcs SF hfm SA SH SL hru hne) hZ (own_t hw 18 rfl) (own_t hw 11 rfl) (by decide) (by decide)) (g := (mkF m 6 #[oa r0, oa r1] [.null, (.int (5 : Int32)), (.int (0 : Int32)), (.ref r1), (.ref r0)])) rfl (by rw [hml]; rfl) (Steps.refl _) (a := r0) (argsL := [(.ref r1), (.int (0 : Int32)), (.int (5 : Int32)), .null]) (rest := []) (lenOf pd_10 rfl) rfl (by show 2 * 0 + _ ≤ _; exact Nat.le_of_eq rfl) (hb hby d2_6) (fun _ _ => ⟨rfl, e0, (by decide : 0 + 2 ≤ _), (by decide : 0 + 15 ≤ _)⟩)
  dsimp only [Pt.U, Pt.locs, Pt.cells, Pt.slots] at X3 l3 y3 z3 st3 hQ3
  subst l3 y3 z3
  obtain ⟨rfl, N3q, Kq3, hmade⟩ := hQ3
  have N3 := Fr.app N0 N3q
  obtain ⟨fs, hr, hrun, hended, hW, hsame⟩ := X3.leave (v := none) (fun _ => rfl)
  have f5 := ((Keep.refl h0 [r0]).trans Kq3 (allS (Or.inl (List.mem_of_getElem? (i := 0) rfl)) all0))
  refine ⟨_, _, pre0 _ (c2 _ (st3.trans (?_))), hrun, hended, _, _, rfl, ?_, ⟨_, rfl⟩, hW, hsame.mono (by decide) (by decide)⟩
  · show Steps p.tables e below (T3.setTop (mkF m 9 #[oa r0, oa r1] [])) _
    exact X3.returnOut hx Bd.returns (hb hby d2_9) hr
  · show Q2 Z r0 r1 ka ua ub uc ud ue cs fm h0 n0 _ T3.heap _
    exact ⟨rfl, N3, f5, hmade⟩
theorem d16_17 : decode jdk_42_method_154_code 17 = .ok (.iconst 0, 1) := by decide +kernel
def Q16u (Z : State) (r0 : Addr) (cs : Int32) (h0 : Heap) (n0 : Nat) (v : Option Value) (h : Heap) (L : List Loc) : Prop := v = some (.int (0 : Int32)) ∧ Fr n0 L ∧ h = h0
set_option maxRecDepth 65536 in
set_option maxHeartbeats 40000000 in
theorem rm16u (l : Launch) (Z : State) (a0 : Array Value) (hw : ∀ d ∈ tables_1, d.before a0 Z = true) (ws : List Jvm.Cond) (r0 : Addr) (cs : Int32) (h0 : Heap) (n0 : Nat) (Z0 : n0 ≤ h0.size) (SC : Sta Z h0 "java/lang/String" "COMPACT_STRINGS" "Z" (.int cs)) (hcs : ¬ cs = (0 : Int32)) (C1 : Fld Z h0 r0 "java/lang/String" "coder" "B" (.int (1 : Int32))) :
    MetFree l yy_3 (head1 (Jvm.Cond.code yy_3 jdk_42_method_154_code 1 (some .boolean) :: ws) ({ frames := 0, cells := 0, slots := 0, locals := 0 } : Room)) (fun a U => a = #[(.ref r0)] ∧ Z.Warmed39 U.vm ∧ U.heap = h0) (fun _ _ _ _ _ => True) (fun _ U o U' => ∃ v L, o = .returned v ∧ Q16u Z r0 cs h0 n0 v U'.heap L ∧ FrameEnd U o U' L ({ frames := 0, cells := 0, slots := 0, locals := 0 } : Room).cells ({ frames := 0, cells := 0, slots := 0, locals := 0 } : Room).slots) := by
  refine MetFree.of_bodySF (plainFor_of_name pn_16) hisR ?_
  intro p e s m args below meth c s₁ Bd hml0 hP hK
  obtain ⟨rfl, hZ, hh⟩ := hP
  have hx := Bd.exec
  have hby := Bd.bytes
  have hml : c.maxLocals = 1 := hml0
  have hown : s.vm.findClass "java/lang/String" = some m.cls := findClass_of_methodNamed Bd.named
  have hnm := (name_of_methodNamed Bd.named Bd.method).1
  have X0 : Stand p l e ({ frames := 0, cells := 0, slots := 0, locals := 0 } : Room) s m #[(.ref r0)] below meth c s₁ [] 0 0 := Stand.of_body Bd
  have e0 : s₁.heap = h0 := by rw [← hh, Bd.state]; rfl
  have N0 := Fr.nil n0
  have pre0 : ∀ t, Steps p.tables e below (s₁.setTop (mkF m 0 #[oa r0] [])) t → Steps p.tables e below (s₁.setTop (entryFrame m #[(.ref r0)] 1)) t := fun t k => castTop (ef_16 m r0) k
  obtain ⟨T1, X1, e1, st1⟩ := getS2 X0 hx hZ hown (host := "") (Or.inl (own_t hw 22 rfl)) Via.refl e0 SC (g := (mkF m 0 #[oa r0] [])) rfl (hb hby d16_0)
  have hd2 : ¬ (cs = (0 : Int32)) := hcs
  have c4 : own_G p e below T1 (mkF m 7 #[oa r0] [(.ref r0)]) (mkF m 3 #[oa r0] [(.int cs)]) := by
    intro t kt
    show oS T1 (mkF m 3 #[oa r0] [(.int cs)]) _
    refine XS.ifNo X1.here hx rfl (hb hby d16_3) rfl ((if0 _ _).trans (feq hd2).1) ?_
    show oS T1 (mkF m 6 #[oa r0] []) _
    refine XS.aloadN X1.here hx rfl (hb hby d16_6) rfl rfl ?_
    exact kt
  obtain ⟨T3, X3, e3, st3⟩ := getF X1 hx hZ hown (host := "") (Or.inl (own_t hw 34 rfl)) Via.refl e1 C1 (g := (mkF m 7 #[oa r0] [(.ref r0)])) rfl rfl (hb hby d16_7)
  have c5 : own_G p e below T3 (mkF m 18 #[oa r0] [(.int (0 : Int32))]) (mkF m 10 #[oa r0] [(.int (1 : Int32))]) := by
    intro t kt
    show oS T3 (mkF m 10 #[oa r0] [(.int (1 : Int32))]) _
    refine XS.ifYes X3.here hx rfl (pc0 := 10) (pc' := 17) rfl (hb hby d16_10) rfl ((if0 _ _).trans (feq (by decide : ¬ ((1 : Int32) = (0 : Int32)))).2) (by decide) (by decide) ?_
    show oS T3 (mkF m 17 #[oa r0] []) _
    refine XS.iconst X3.here hx rfl (hb hby d16_17) ?_
    exact kt
  obtain ⟨fs, hr, hrun, hended, hW, hsame⟩ := X3.leave (v := some (.int (0 : Int32))) (fun h => by rw [Bd.returns] at h; cases h)
  refine ⟨_, _, pre0 _ (st1 _ (c4 _ (st3 _ (c5 _ (?_))))), hrun, hended, _, _, rfl, ?_, ⟨_, rfl⟩, hW, hsame.mono (by decide) (by decide)⟩
  · show Steps p.tables e below (T3.setTop (mkF m 18 #[oa r0] [(.int (0 : Int32))])) _
    exact retN X3 hx (t := .boolean) Bd.returns (by simp) (hb hby d16_18) hr
  · show Q16u Z r0 cs h0 n0 _ T3.heap _
    rw [e3]
    exact ⟨congrArg (fun z => some (Value.int z)) (show (0 : Int32) = (0 : Int32) from by rfl), N0, rfl⟩
theorem d18_0 : decode jdk_52_method_91_code 0 = .ok (.iload_n 0, 1) := by decide +kernel
theorem d18_1 : decode jdk_52_method_91_code 1 = .ok (.aload_n 1, 1) := by decide +kernel
theorem d18_2 : decode jdk_52_method_91_code 2 = .ok (.invokestatic 48, 3) := by decide +kernel
theorem d18_5 : decode jdk_52_method_91_code 5 = .ok (.invokestatic 414, 3) := by decide +kernel
theorem d18_8 : decode jdk_52_method_91_code 8 = .ok (.return_, 1) := by decide +kernel
theorem pn_18 : plainName "java/lang/StringUTF16" = true := by first | (simp [plainName, overriddenIn]; done) | decide +kernel
theorem ef_18 (m : MethodId) (x0 : Int32) (x1 : Addr) : entryFrame m #[(.int x0), (.ref x1)] 2 = mkF m 0 #[.val (.int x0), .val (.ref x1)] [] := by first | (simp [entryFrame, mkF, argsToLocals, Value.category]; done) | rfl
def Q18 (Z : State) (p0 : Int32) (r1 : Addr) (ka : ClassId) (vs : List Value) (fm : Value) (h0 : Heap) (n0 : Nat) (v : Option Value) (h : Heap) (L : List Loc) : Prop := v = none ∧ Fr n0 L ∧ h = h0
set_option maxRecDepth 65536 in
set_option maxHeartbeats 40000000 in
theorem rm18 (l : Launch) (Z : State) (a0 : Array Value) (hw : ∀ d ∈ tables_1, d.before a0 Z = true) (ws : List Jvm.Cond) (p0 : Int32) (r1 : Addr) (ka : ClassId) (vs : List Value) (fm : Value) (h0 : Heap) (n0 : Nat) (Z0 : n0 ≤ h0.size) (V : Arv Z h0 r1 ka .byte (10 : Int32) vs (.int 0)) (hi0 : ¬ p0 < (0 : Int32) ∧ p0 < (5 : Int32)) (SF : Sta Z h0 "jdk/internal/util/Preconditions" "SIOOBE_FORMATTER" "Ljava/util/function/BiFunction;" fm) (hfm : fm.isRef = true) :
    MetFree l yy_16 (head1 (Jvm.Cond.code yy_16 jdk_52_method_91_code 2 none :: ws) ({ frames := 2, cells := 0, slots := 0, locals := 27 } : Room)) (fun a U => a = #[(.int p0), (.ref r1)] ∧ Z.Warmed39 U.vm ∧ U.heap = h0) (fun _ _ _ _ _ => True) (fun _ U o U' => ∃ v L, o = .returned v ∧ Q18 Z p0 r1 ka vs fm h0 n0 v U'.heap L ∧ FrameEnd U o U' L ({ frames := 2, cells := 0, slots := 0, locals := 27 } : Room).cells ({ frames := 2, cells := 0, slots := 0, locals := 27 } : Room).slots) := by
  refine MetFree.of_bodySF (plainFor_of_name pn_18) hisR ?_
  intro p e s m args below meth c s₁ Bd hml0 hP hK
  obtain ⟨rfl, hZ, hh⟩ := hP
  have hx := Bd.exec
  have hby := Bd.bytes
  have hml : c.maxLocals = 2 := hml0
  have hown : s.vm.findClass "java/lang/StringUTF16" = some m.cls := findClass_of_methodNamed Bd.named
  have hnm := (name_of_methodNamed Bd.named Bd.method).1
  have X0 : Stand p l e ({ frames := 2, cells := 0, slots := 0, locals := 27 } : Room) s m #[(.int p0), (.ref r1)] below meth c s₁ [] 0 0 := Stand.of_body Bd
  have e0 : s₁.heap = h0 := by rw [← hh, Bd.state]; rfl
  have N0 := Fr.nil n0
  have pre0 : ∀ t, Steps p.tables e below (s₁.setTop (mkF m 0 #[oi p0, oa r1] [])) t → Steps p.tables e below (s₁.setTop (entryFrame m #[(.int p0), (.ref r1)] 2)) t := fun t k => castTop (ef_18 m p0 r1) k
  have c1 : own_G p e below s₁ (mkF m 2 #[oi p0, oa r1] [(.ref r1), (.int p0)]) (mkF m 0 #[oi p0, oa r1] []) := by
    intro t kt
    show oS s₁ (mkF m 0 #[oi p0, oa r1] []) _
    refine XS.iloadN X0.here hx rfl (hb hby d18_0) rfl ?_
    show oS s₁ (mkF m 1 #[oi p0, oa r1] [(.int p0)]) _
    refine XS.aloadN X0.here hx rfl (hb hby d18_1) rfl rfl ?_
    exact kt
  obtain ⟨_, _, ⟨T2, L2, k2, n2⟩, -, X2, ⟨Lc2, hQ2, l2, y2, z2⟩, st2⟩ := Jvm.LawKit.callS X0 hx (y := yy_5) hown (mvT hZ (own_t hw 85 rfl)) (mvT hZ (own_t hw 86 rfl)) (mvT hZ (own_t hw 25 rfl)) (mvT hZ (own_t hw 87 rfl)) (by decide) (backOf (W := 1) (rm19 l Z a0 hw [] r1 ka vs h0 n0 Z0 V) hZ (own_t hw 87 rfl) (own_t hw 25 rfl) (by decide) (by decide)) (g := (mkF m 2 #[oi p0, oa r1] [(.ref r1), (.int p0)])) rfl (by rw [hml]; rfl) (argsL := [(.ref r1)]) (rest := [(.int p0)]) (lenOf pd_11 rfl) rfl (by show 2 * 0 + _ ≤ _; exact Nat.le_of_eq rfl) (hb hby d18_2) (fun _ _ => ⟨rfl, e0, (by decide : 0 + 0 ≤ _), (by decide : 0 + 0 ≤ _)⟩)
  dsimp only [Pt.U, Pt.locs, Pt.cells, Pt.slots] at X2 l2 y2 z2 st2 hQ2
  subst l2 y2 z2
  obtain ⟨rfl, N2q, e2⟩ := hQ2
  have N2 := Fr.app N0 N2q
  obtain ⟨_, _, ⟨T3, L3, k3, n3⟩, -, X3, ⟨Lc3, hQ3, l3, y3, z3⟩, st3⟩ := Jvm.LawKit.callS X2 hx (y := yy_1) hown (mvT hZ (own_t hw 88 rfl)) (mvT hZ (own_t hw 89 rfl)) (mvT hZ (own_t hw 11 rfl)) (mvT hZ (own_t hw 90 rfl)) (by decide) (backOf (W := 0) (rm20 l Z a0 hw [] p0 (5 : Int32) fm h0 n0 Z0 hi0.1 hi0.2 SF hfm) hZ (own_t hw 90 rfl) (own_t hw 11 rfl) (by decide) (by decide)) (g := (mkF m 5 #[oi p0, oa r1] [(.int (5 : Int32)), (.int p0)])) rfl (by rw [hml]; rfl) (argsL := [(.int p0), (.int (5 : Int32))]) (rest := []) (lenOf pd_1 rfl) rfl (by show 2 * 0 + _ ≤ _; exact Nat.le_of_eq rfl) (hb hby d18_5) (fun _ _ => ⟨rfl, e2, (by decide : 0 + 0 ≤ _), (by decide : 0 + 0 ≤ _)⟩)
  dsimp only [Pt.U, Pt.locs, Pt.cells, Pt.slots] at X3 l3 y3 z3 st3 hQ3
  subst l3 y3 z3
  obtain ⟨rfl, N3q, e3⟩ := hQ3
  have N3 := Fr.app N2 N3q
  obtain ⟨fs, hr, hrun, hended, hW, hsame⟩ := X3.leave (v := none) (fun _ => rfl)
  refine ⟨_, _, pre0 _ (c1 _ (st2 _ (st3 _ (?_)))), hrun, hended, _, _, rfl, ?_, ⟨_, rfl⟩, hW, hsame.mono (by decide) (by decide)⟩
  · show Steps p.tables e below (T3.setTop (mkF m 8 #[oi p0, oa r1] [])) _
    exact X3.returnOut hx Bd.returns (hb hby d18_8) hr
  · show Q18 Z p0 r1 ka vs fm h0 n0 _ T3.heap _
    rw [e3]
    exact ⟨rfl, N3, rfl⟩
theorem d17_0 : decode jdk_52_method_83_code 0 = .ok (.iload_n 1, 1) := by decide +kernel
theorem d17_1 : decode jdk_52_method_83_code 1 = .ok (.aload_n 0, 1) := by decide +kernel
theorem d17_2 : decode jdk_52_method_83_code 2 = .ok (.invokestatic 67, 3) := by decide +kernel
theorem d17_5 : decode jdk_52_method_83_code 5 = .ok (.aload_n 0, 1) := by decide +kernel
theorem d17_6 : decode jdk_52_method_83_code 6 = .ok (.iload_n 1, 1) := by decide +kernel
theorem d17_7 : decode jdk_52_method_83_code 7 = .ok (.invokestatic 71, 3) := by decide +kernel
theorem d17_10 : decode jdk_52_method_83_code 10 = .ok (.ireturn, 1) := by decide +kernel
theorem pn_17 : plainName "java/lang/StringUTF16" = true := by first | (simp [plainName, overriddenIn]; done) | decide +kernel
theorem ef_17 (m : MethodId) (x0 : Addr) (x1 : Int32) : entryFrame m #[(.ref x0), (.int x1)] 2 = mkF m 0 #[.val (.ref x0), .val (.int x1)] [] := by first | (simp [entryFrame, mkF, argsToLocals, Value.category]; done) | rfl
def Q17 (Z : State) (r0 : Addr) (p1 : Int32) (ka : ClassId) (vs : List Value) (u0 : Int32) (fm : Value) (h0 : Heap) (n0 : Nat) (v : Option Value) (h : Heap) (L : List Loc) : Prop := v = some (.int u0) ∧ Fr n0 L ∧ h = h0
set_option maxRecDepth 65536 in
set_option maxHeartbeats 40000000 in
theorem rm17 (l : Launch) (Z : State) (a0 : Array Value) (hw : ∀ d ∈ tables_1, d.before a0 Z = true) (ws : List Jvm.Cond) (r0 : Addr) (p1 : Int32) (ka : ClassId) (vs : List Value) (u0 : Int32) (fm : Value) (h0 : Heap) (n0 : Nat) (Z0 : n0 ≤ h0.size) (V : Arv Z h0 r0 ka .byte (10 : Int32) vs (.int 0)) (hi5 : ¬ p1 < (0 : Int32) ∧ p1 < (5 : Int32)) (hi0 : ¬ (p1 <<< ((1 : Int32) &&& 31)) < 0 ∧ (p1 <<< ((1 : Int32) &&& 31)) < (10 : Int32)) (hi1 : ¬ ((p1 <<< ((1 : Int32) &&& 31)) + (1 : Int32)) < 0 ∧ ((p1 <<< ((1 : Int32) &&& 31)) + (1 : Int32)) < (10 : Int32)) (ha0 : vs.getD (p1 <<< ((1 : Int32) &&& 31)).toNatClampNeg (.int 0) = .int (own_lo u0)) (ha1 : vs.getD ((p1 <<< ((1 : Int32) &&& 31)) + (1 : Int32)).toNatClampNeg (.int 0) = .int (own_hi u0)) (hru0 : own_r16 u0) (SF : Sta Z h0 "jdk/internal/util/Preconditions" "SIOOBE_FORMATTER" "Ljava/util/function/BiFunction;" fm) (hfm : fm.isRef = true) (SA : Sta Z h0 "java/lang/StringUTF16" "$assertionsDisabled" "Z" (.int (1 : Int32))) (SH : Sta Z h0 "java/lang/StringUTF16" "HI_BYTE_SHIFT" "I" (.int (0 : Int32))) (SL : Sta Z h0 "java/lang/StringUTF16" "LO_BYTE_SHIFT" "I" (.int (8 : Int32))) :
    MetFree l yy_17 (head1 (Jvm.Cond.code yy_17 jdk_52_method_83_code 2 (some .char) :: ws) ({ frames := 3, cells := 0, slots := 0, locals := 40 } : Room)) (fun a U => a = #[(.ref r0), (.int p1)] ∧ Z.Warmed39 U.vm ∧ U.heap = h0) (fun _ _ _ _ _ => True) (fun _ U o U' => ∃ v L, o = .returned v ∧ Q17 Z r0 p1 ka vs u0 fm h0 n0 v U'.heap L ∧ FrameEnd U o U' L ({ frames := 3, cells := 0, slots := 0, locals := 40 } : Room).cells ({ frames := 3, cells := 0, slots := 0, locals := 40 } : Room).slots) := by
  refine MetFree.of_bodySF (plainFor_of_name pn_17) hisR ?_
  intro p e s m args below meth c s₁ Bd hml0 hP hK
  obtain ⟨rfl, hZ, hh⟩ := hP
  have hx := Bd.exec
  have hby := Bd.bytes
  have hml : c.maxLocals = 2 := hml0
  have hown : s.vm.findClass "java/lang/StringUTF16" = some m.cls := findClass_of_methodNamed Bd.named
  have hnm := (name_of_methodNamed Bd.named Bd.method).1
  have X0 : Stand p l e ({ frames := 3, cells := 0, slots := 0, locals := 40 } : Room) s m #[(.ref r0), (.int p1)] below meth c s₁ [] 0 0 := Stand.of_body Bd
  have e0 : s₁.heap = h0 := by rw [← hh, Bd.state]; rfl
  have N0 := Fr.nil n0
  have pre0 : ∀ t, Steps p.tables e below (s₁.setTop (mkF m 0 #[oa r0, oi p1] [])) t → Steps p.tables e below (s₁.setTop (entryFrame m #[(.ref r0), (.int p1)] 2)) t := fun t k => castTop (ef_17 m r0 p1) k
  have c1 : own_G p e below s₁ (mkF m 2 #[oa r0, oi p1] [(.ref r0), (.int p1)]) (mkF m 0 #[oa r0, oi p1] []) := by
    intro t kt
    show oS s₁ (mkF m 0 #[oa r0, oi p1] []) _
    refine XS.iloadN X0.here hx rfl (hb hby d17_0) rfl ?_
    show oS s₁ (mkF m 1 #[oa r0, oi p1] [(.int p1)]) _
    refine XS.aloadN X0.here hx rfl (hb hby d17_1) rfl rfl ?_
    exact kt
  obtain ⟨_, _, ⟨T2, L2, k2, n2⟩, -, X2, ⟨Lc2, hQ2, l2, y2, z2⟩, st2⟩ := Jvm.LawKit.callS X0 hx (y := yy_16) hown (mvT hZ (own_t hw 82 rfl)) (mvT hZ (own_t hw 83 rfl)) (mvT hZ (own_t hw 25 rfl)) (mvT hZ (own_t hw 84 rfl)) (by decide) (backOf (W := 0) (rm18 l Z a0 hw [] p1 r0 ka vs fm h0 n0 Z0 V hi5 SF hfm) hZ (own_t hw 84 rfl) (own_t hw 25 rfl) (by decide) (by decide)) (g := (mkF m 2 #[oa r0, oi p1] [(.ref r0), (.int p1)])) rfl (by rw [hml]; rfl) (argsL := [(.int p1), (.ref r0)]) (rest := []) (lenOf pd_12 rfl) rfl (by show 2 * 0 + _ ≤ _; exact Nat.le_of_eq rfl) (hb hby d17_2) (fun _ _ => ⟨rfl, e0, (by decide : 0 + 0 ≤ _), (by decide : 0 + 0 ≤ _)⟩)
  dsimp only [Pt.U, Pt.locs, Pt.cells, Pt.slots] at X2 l2 y2 z2 st2 hQ2
  subst l2 y2 z2
  obtain ⟨rfl, N2q, e2⟩ := hQ2
  have N2 := Fr.app N0 N2q
  have c3 : own_G p e below T2 (mkF m 7 #[oa r0, oi p1] [(.int p1), (.ref r0)]) (mkF m 5 #[oa r0, oi p1] []) := by
    intro t kt
    show oS T2 (mkF m 5 #[oa r0, oi p1] []) _
    refine XS.aloadN X2.here hx rfl (hb hby d17_5) rfl rfl ?_
    show oS T2 (mkF m 6 #[oa r0, oi p1] [(.ref r0)]) _
    refine XS.iloadN X2.here hx rfl (hb hby d17_6) rfl ?_
    exact kt
  obtain ⟨_, _, ⟨T4, L4, k4, n4⟩, -, X4, ⟨Lc4, hQ4, l4, y4, z4⟩, st4⟩ := Jvm.LawKit.callS X2 hx (y := yy_10) hown (mvT hZ (own_t hw 66 rfl)) (mvT hZ (own_t hw 67 rfl)) (mvT hZ (own_t hw 25 rfl)) (mvT hZ (own_t hw 68 rfl)) (by decide) (backOf (W := 0) (rm14 l Z a0 hw [] r0 p1 ka vs (.int 0) u0 h0 n0 Z0 V hi0 hi1 ha0 ha1 hru0 SA SH SL) hZ (own_t hw 68 rfl) (own_t hw 25 rfl) (by decide) (by decide)) (g := (mkF m 7 #[oa r0, oi p1] [(.int p1), (.ref r0)])) rfl (by rw [hml]; rfl) (argsL := [(.ref r0), (.int p1)]) (rest := []) (lenOf pd_3 rfl) rfl (by show 2 * 0 + _ ≤ _; exact Nat.le_of_eq rfl) (hb hby d17_7) (fun _ _ => ⟨rfl, e2, (by decide : 0 + 0 ≤ _), (by decide : 0 + 0 ≤ _)⟩)
  dsimp only [Pt.U, Pt.locs, Pt.cells, Pt.slots] at X4 l4 y4 z4 st4 hQ4
  subst l4 y4 z4
  obtain ⟨rfl, N4q, e4⟩ := hQ4
  have N4 := Fr.app N2 N4q
  obtain ⟨fs, hr, hrun, hended, hW, hsame⟩ := X4.leave (v := some (.int (u0.toUInt32.toUInt16.toUInt32.toInt32))) (fun h => by rw [Bd.returns] at h; cases h)
  refine ⟨_, _, pre0 _ (c1 _ (st2 _ (c3 _ (st4 _ (?_))))), hrun, hended, _, _, rfl, ?_, ⟨_, rfl⟩, hW, hsame.mono (by decide) (by decide)⟩
  · show Steps p.tables e below (T4.setTop (mkF m 10 #[oa r0, oi p1] [(.int u0)])) _
    exact retN X4 hx (t := .char) Bd.returns (by simp) (hb hby d17_10) hr
  · show Q17 Z r0 p1 ka vs u0 fm h0 n0 _ T4.heap _
    rw [e4]
    exact ⟨congrArg (fun z => some (Value.int z)) (show (u0.toUInt32.toUInt16.toUInt32.toInt32) = u0 from by exact own_n16 u0 hru0), N4, rfl⟩
theorem d15_16 : decode jdk_42_method_56_code 16 = .ok (.aload_n 0, 1) := by decide +kernel
theorem d15_17 : decode jdk_42_method_56_code 17 = .ok (.getfield 9, 3) := by decide +kernel
theorem d15_20 : decode jdk_42_method_56_code 20 = .ok (.iload_n 1, 1) := by decide +kernel
theorem d15_21 : decode jdk_42_method_56_code 21 = .ok (.invokestatic 498, 3) := by decide +kernel
theorem d15_24 : decode jdk_42_method_56_code 24 = .ok (.ireturn, 1) := by decide +kernel
def Q15u (Z : State) (r0 : Addr) (p1 : Int32) (rb : Addr) (ka : ClassId) (vs : List Value) (u0 : Int32) (fm : Value) (cs : Int32) (h0 : Heap) (n0 : Nat) (v : Option Value) (h : Heap) (L : List Loc) : Prop := v = some (.int u0) ∧ Fr n0 L ∧ h = h0
set_option maxRecDepth 65536 in
set_option maxHeartbeats 40000000 in
theorem rm15u (l : Launch) (Z : State) (a0 : Array Value) (hw : ∀ d ∈ tables_1, d.before a0 Z = true) (ws : List Jvm.Cond) (r0 : Addr) (p1 : Int32) (rb : Addr) (ka : ClassId) (vs : List Value) (u0 : Int32) (fm : Value) (cs : Int32) (h0 : Heap) (n0 : Nat) (Z0 : n0 ≤ h0.size) (E0 : Exa Z h0 r0 "java/lang/String") (F0 : Fld Z h0 r0 "java/lang/String" "value" "[B" (.ref rb)) (V : Arv Z h0 rb ka .byte (10 : Int32) vs (.int 0)) (hi5 : ¬ p1 < (0 : Int32) ∧ p1 < (5 : Int32)) (hi0 : ¬ (p1 <<< ((1 : Int32) &&& 31)) < 0 ∧ (p1 <<< ((1 : Int32) &&& 31)) < (10 : Int32)) (hi1 : ¬ ((p1 <<< ((1 : Int32) &&& 31)) + (1 : Int32)) < 0 ∧ ((p1 <<< ((1 : Int32) &&& 31)) + (1 : Int32)) < (10 : Int32)) (ha0 : vs.getD (p1 <<< ((1 : Int32) &&& 31)).toNatClampNeg (.int 0) = .int (own_lo u0)) (ha1 : vs.getD ((p1 <<< ((1 : Int32) &&& 31)) + (1 : Int32)).toNatClampNeg (.int 0) = .int (own_hi u0)) (hru0 : own_r16 u0) (SF : Sta Z h0 "jdk/internal/util/Preconditions" "SIOOBE_FORMATTER" "Ljava/util/function/BiFunction;" fm) (hfm : fm.isRef = true) (SC : Sta Z h0 "java/lang/String" "COMPACT_STRINGS" "Z" (.int cs)) (hcs : ¬ cs = (0 : Int32)) (C1 : Fld Z h0 r0 "java/lang/String" "coder" "B" (.int (1 : Int32))) (SA : Sta Z h0 "java/lang/StringUTF16" "$assertionsDisabled" "Z" (.int (1 : Int32))) (SH : Sta Z h0 "java/lang/StringUTF16" "HI_BYTE_SHIFT" "I" (.int (0 : Int32))) (SL : Sta Z h0 "java/lang/StringUTF16" "LO_BYTE_SHIFT" "I" (.int (8 : Int32))) :
    MetFree l yy_4 (head1 (Jvm.Cond.code yy_4 jdk_42_method_56_code 2 (some .char) :: ws) ({ frames := 4, cells := 0, slots := 0, locals := 53 } : Room)) (fun a U => a = #[(.ref r0), (.int p1)] ∧ Z.Warmed39 U.vm ∧ U.heap = h0) (fun _ _ _ _ _ => True) (fun _ U o U' => ∃ v L, o = .returned v ∧ Q15u Z r0 p1 rb ka vs u0 fm cs h0 n0 v U'.heap L ∧ FrameEnd U o U' L ({ frames := 4, cells := 0, slots := 0, locals := 53 } : Room).cells ({ frames := 4, cells := 0, slots := 0, locals := 53 } : Room).slots) := by
  refine MetFree.of_bodySF (plainFor_of_name pn_15) hisR ?_
  intro p e s m args below meth c s₁ Bd hml0 hP hK
  obtain ⟨rfl, hZ, hh⟩ := hP
  have hx := Bd.exec
  have hby := Bd.bytes
  have hml : c.maxLocals = 2 := hml0
  have hown : s.vm.findClass "java/lang/String" = some m.cls := findClass_of_methodNamed Bd.named
  have hnm := (name_of_methodNamed Bd.named Bd.method).1
  have X0 : Stand p l e ({ frames := 4, cells := 0, slots := 0, locals := 53 } : Room) s m #[(.ref r0), (.int p1)] below meth c s₁ [] 0 0 := Stand.of_body Bd
  have e0 : s₁.heap = h0 := by rw [← hh, Bd.state]; rfl
  have N0 := Fr.nil n0
  have pre0 : ∀ t, Steps p.tables e below (s₁.setTop (mkF m 0 #[oa r0, oi p1] [])) t → Steps p.tables e below (s₁.setTop (entryFrame m #[(.ref r0), (.int p1)] 2)) t := fun t k => castTop (ef_15 m r0 p1) k
  have c1 : own_G p e below s₁ (mkF m 1 #[oa r0, oi p1] [(.ref r0)]) (mkF m 0 #[oa r0, oi p1] []) := by
    intro t kt
    show oS s₁ (mkF m 0 #[oa r0, oi p1] []) _
    refine XS.aloadN X0.here hx rfl (hb hby d15_0) rfl rfl ?_
    exact kt
  obtain ⟨cq2, kq2, q2a, q2b, q2c⟩ := isOf hZ e0 E0
  obtain ⟨_, _, ⟨T3, L3, k3, n3⟩, -, X3, ⟨Lc3, hQ3, l3, y3, z3⟩, st3⟩ := X0.virtualBack hx (y := yy_3) (z := yy_3) hown (mvT hZ (own_t hw 74 rfl)) (mvT hZ (own_t hw 75 rfl)) (notFace_of_selects (args := #[]) (mvT hZ (own_t hw 77 rfl))) (mvT hZ (own_t hw 77 rfl)) (mvT hZ (own_t hw 76 rfl)) (by decide) (backOf (W := 0) (rm16u l Z a0 hw [] r0 cs h0 n0 Z0 SC hcs C1) hZ (own_t hw 78 rfl) (own_t hw 11 rfl) (by decide) (by decide)) q2a q2c (g := (mkF m 1 #[oa r0, oi p1] [(.ref r0)])) rfl (by rw [hml]; rfl) (Steps.refl _) (argsL := []) (rest := []) (lenOf pd_2 rfl) rfl (by show 2 * 0 + _ ≤ _; exact Nat.le_of_eq rfl) (hb hby d15_1) (fun _ _ => ⟨rfl, e0, (by decide : 0 + 0 ≤ _), (by decide : 0 + 0 ≤ _)⟩)
  dsimp only [Pt.U, Pt.locs, Pt.cells, Pt.slots] at X3 l3 y3 z3 st3 hQ3
  subst l3 y3 z3
  obtain ⟨rfl, N3q, e3⟩ := hQ3
  have N3 := Fr.app N0 N3q
  have c5 : own_G p e below T3 (mkF m 17 #[oa r0, oi p1] [(.ref r0)]) (mkF m 4 #[oa r0, oi p1] [(.int (0 : Int32))]) := by
    intro t kt
    show oS T3 (mkF m 4 #[oa r0, oi p1] [(.int (0 : Int32))]) _
    refine XS.ifYes X3.here hx rfl (pc0 := 4) (pc' := 16) rfl (hb hby d15_4) rfl ((if0 _ _).trans (teq (by decide : (0 : Int32) = (0 : Int32))).1) (by decide) (by decide) ?_
    show oS T3 (mkF m 16 #[oa r0, oi p1] []) _
    refine XS.aloadN X3.here hx rfl (hb hby d15_16) rfl rfl ?_
    exact kt
  obtain ⟨T4, X4, e4, st4⟩ := getF X3 hx hZ hown (host := "") (Or.inl (own_t hw 36 rfl)) Via.refl e3 F0 (g := (mkF m 17 #[oa r0, oi p1] [(.ref r0)])) rfl rfl (hb hby d15_17)
  have c6 : own_G p e below T4 (mkF m 21 #[oa r0, oi p1] [(.int p1), (.ref rb)]) (mkF m 20 #[oa r0, oi p1] [(.ref rb)]) := by
    intro t kt
    show oS T4 (mkF m 20 #[oa r0, oi p1] [(.ref rb)]) _
    refine XS.iloadN X4.here hx rfl (hb hby d15_20) rfl ?_
    exact kt
  obtain ⟨_, _, ⟨T7, L7, k7, n7⟩, -, X7, ⟨Lc7, hQ7, l7, y7, z7⟩, st7⟩ := Jvm.LawKit.callS X4 hx (y := yy_17) hown (mvT hZ (own_t hw 79 rfl)) (mvT hZ (own_t hw 80 rfl)) (mvT hZ (own_t hw 25 rfl)) (mvT hZ (own_t hw 81 rfl)) (by decide) (backOf (W := 0) (rm17 l Z a0 hw [] rb p1 ka vs u0 fm h0 n0 Z0 V hi5 hi0 hi1 ha0 ha1 hru0 SF hfm SA SH SL) hZ (own_t hw 81 rfl) (own_t hw 25 rfl) (by decide) (by decide)) (g := (mkF m 21 #[oa r0, oi p1] [(.int p1), (.ref rb)])) rfl (by rw [hml]; rfl) (argsL := [(.ref rb), (.int p1)]) (rest := []) (lenOf pd_3 rfl) rfl (by show 2 * 0 + _ ≤ _; exact Nat.le_of_eq rfl) (hb hby d15_21) (fun _ _ => ⟨rfl, e4, (by decide : 0 + 0 ≤ _), (by decide : 0 + 0 ≤ _)⟩)
  dsimp only [Pt.U, Pt.locs, Pt.cells, Pt.slots] at X7 l7 y7 z7 st7 hQ7
  subst l7 y7 z7
  obtain ⟨rfl, N7q, e7⟩ := hQ7
  have N7 := Fr.app N3 N7q
  obtain ⟨fs, hr, hrun, hended, hW, hsame⟩ := X7.leave (v := some (.int (u0.toUInt32.toUInt16.toUInt32.toInt32))) (fun h => by rw [Bd.returns] at h; cases h)
  refine ⟨_, _, pre0 _ (c1 _ (st3.trans (c5 _ (st4 _ (c6 _ (st7 _ (?_))))))), hrun, hended, _, _, rfl, ?_, ⟨_, rfl⟩, hW, hsame.mono (by decide) (by decide)⟩
  · show Steps p.tables e below (T7.setTop (mkF m 24 #[oa r0, oi p1] [(.int u0)])) _
    exact retN X7 hx (t := .char) Bd.returns (by simp) (hb hby d15_24) hr
  · show Q15u Z r0 p1 rb ka vs u0 fm cs h0 n0 _ T7.heap _
    rw [e7]
    exact ⟨congrArg (fun z => some (Value.int z)) (show (u0.toUInt32.toUInt16.toUInt32.toInt32) = u0 from by exact own_n16 u0 hru0), N7, rfl⟩
theorem d22_0 : decode prog_57_method_17_code 0 = .ok (.iload_n 0, 1) := by decide +kernel
theorem d22_1 : decode prog_57_method_17_code 1 = .ok (.bipush 65, 2) := by decide +kernel
theorem d22_3 : decode prog_57_method_17_code 3 = .ok (.if_icmp .lt 9, 3) := by decide +kernel
theorem d22_6 : decode prog_57_method_17_code 6 = .ok (.iload_n 0, 1) := by decide +kernel
theorem d22_7 : decode prog_57_method_17_code 7 = .ok (.bipush 90, 2) := by decide +kernel
theorem d22_9 : decode prog_57_method_17_code 9 = .ok (.if_icmp .le 15, 3) := by decide +kernel
theorem d22_12 : decode prog_57_method_17_code 12 = .ok (.iload_n 0, 1) := by decide +kernel
theorem d22_13 : decode prog_57_method_17_code 13 = .ok (.bipush 97, 2) := by decide +kernel
theorem d22_15 : decode prog_57_method_17_code 15 = .ok (.if_icmp .lt 13, 3) := by decide +kernel
theorem d22_18 : decode prog_57_method_17_code 18 = .ok (.iload_n 0, 1) := by decide +kernel
theorem d22_19 : decode prog_57_method_17_code 19 = .ok (.bipush 122, 2) := by decide +kernel
theorem d22_21 : decode prog_57_method_17_code 21 = .ok (.if_icmp .gt 7, 3) := by decide +kernel
theorem d22_24 : decode prog_57_method_17_code 24 = .ok (.iconst 1, 1) := by decide +kernel
theorem d22_25 : decode prog_57_method_17_code 25 = .ok (.goto 4, 3) := by decide +kernel
theorem d22_28 : decode prog_57_method_17_code 28 = .ok (.iconst 0, 1) := by decide +kernel
theorem d22_29 : decode prog_57_method_17_code 29 = .ok (.ireturn, 1) := by decide +kernel
theorem pn_22 : plainName "com/example/href/href/uri/IriSyntax" = true := by first | (simp [plainName, overriddenIn]; done) | decide +kernel
theorem ef_22 (m : MethodId) (x0 : Int32) : entryFrame m #[(.int x0)] 1 = mkF m 0 #[.val (.int x0)] [] := by first | (simp [entryFrame, mkF, argsToLocals, Value.category]; done) | rfl
def Q22 (Z : State) (p0 : Int32) (h0 : Heap) (n0 : Nat) (v : Option Value) (h : Heap) (L : List Loc) : Prop := v = some (.int (own_let p0)) ∧ Fr n0 L ∧ h = h0
set_option maxRecDepth 65536 in
set_option maxHeartbeats 40000000 in
theorem rm22 (l : Launch) (Z : State) (a0 : Array Value) (hw : ∀ d ∈ tables_1, d.before a0 Z = true) (ws : List Jvm.Cond) (p0 : Int32)  (h0 : Heap) (n0 : Nat) (Z0 : n0 ≤ h0.size) :
    MetFree l yy_18 (head1 (Jvm.Cond.code yy_18 prog_57_method_17_code 1 (some .boolean) :: ws) ({ frames := 0, cells := 0, slots := 0, locals := 0 } : Room)) (fun a U => a = #[(.int p0)] ∧ Z.Warmed39 U.vm ∧ U.heap = h0) (fun _ _ _ _ _ => True) (fun _ U o U' => ∃ v L, o = .returned v ∧ Q22 Z p0 h0 n0 v U'.heap L ∧ FrameEnd U o U' L ({ frames := 0, cells := 0, slots := 0, locals := 0 } : Room).cells ({ frames := 0, cells := 0, slots := 0, locals := 0 } : Room).slots) := by
  refine MetFree.of_bodySF (plainFor_of_name pn_22) hisR ?_
  intro p e s m args below meth c s₁ Bd hml0 hP hK
  obtain ⟨rfl, hZ, hh⟩ := hP
  have hx := Bd.exec
  have hby := Bd.bytes
  have hml : c.maxLocals = 1 := hml0
  have hown : s.vm.findClass "com/example/href/href/uri/IriSyntax" = some m.cls := findClass_of_methodNamed Bd.named
  have hnm := (name_of_methodNamed Bd.named Bd.method).1
  have X0 : Stand p l e ({ frames := 0, cells := 0, slots := 0, locals := 0 } : Room) s m #[(.int p0)] below meth c s₁ [] 0 0 := Stand.of_body Bd
  have e0 : s₁.heap = h0 := by rw [← hh, Bd.state]; rfl
  have N0 := Fr.nil n0
  have pre0 : ∀ t, Steps p.tables e below (s₁.setTop (mkF m 0 #[oi p0] [])) t → Steps p.tables e below (s₁.setTop (entryFrame m #[(.int p0)] 1)) t := fun t k => castTop (ef_22 m p0) k
  have c1 : own_G p e below s₁ (mkF m 3 #[oi p0] [(.int (65 : Int32)), (.int p0)]) (mkF m 0 #[oi p0] []) := by
    intro t kt
    show oS s₁ (mkF m 0 #[oi p0] []) _
    refine XS.iloadN X0.here hx rfl (hb hby d22_0) rfl ?_
    show oS s₁ (mkF m 1 #[oi p0] [(.int p0)]) _
    refine XS.bipush X0.here hx rfl (hb hby d22_1) ?_
    exact kt
  by_cases hc3 : p0 < (65 : Int32)
  · -- it is
    have c2 : own_G p e below s₁ (mkF m 15 #[oi p0] [(.int (97 : Int32)), (.int p0)]) (mkF m 3 #[oi p0] [(.int (65 : Int32)), (.int p0)]) := by
      intro t kt
      show oS s₁ (mkF m 3 #[oi p0] [(.int (65 : Int32)), (.int p0)]) _
      refine XS.icmpYes X0.here hx rfl (pc0 := 3) (pc' := 12) rfl (hb hby d22_3) rfl (tlt hc3).1 (by decide) (by decide) ?_
      show oS s₁ (mkF m 12 #[oi p0] []) _
      refine XS.iloadN X0.here hx rfl (hb hby d22_12) rfl ?_
      show oS s₁ (mkF m 13 #[oi p0] [(.int p0)]) _
      refine XS.bipush X0.here hx rfl (hb hby d22_13) ?_
      exact kt
    by_cases hc15 : p0 < (97 : Int32)
    · -- it is
      have c3 : own_G p e below s₁ (mkF m 29 #[oi p0] [(.int (0 : Int32))]) (mkF m 15 #[oi p0] [(.int (97 : Int32)), (.int p0)]) := by
        intro t kt
        show oS s₁ (mkF m 15 #[oi p0] [(.int (97 : Int32)), (.int p0)]) _
        refine XS.icmpYes X0.here hx rfl (pc0 := 15) (pc' := 28) rfl (hb hby d22_15) rfl (tlt hc15).1 (by decide) (by decide) ?_
        show oS s₁ (mkF m 28 #[oi p0] []) _
        refine XS.iconst X0.here hx rfl (hb hby d22_28) ?_
        exact kt
      obtain ⟨fs, hr, hrun, hended, hW, hsame⟩ := X0.leave (v := some (.int (0 : Int32))) (fun h => by rw [Bd.returns] at h; cases h)
      refine ⟨_, _, pre0 _ (c1 _ (c2 _ (c3 _ (?_)))), hrun, hended, _, _, rfl, ?_, ⟨_, rfl⟩, hW, hsame.mono (by decide) (by decide)⟩
      · show Steps p.tables e below (s₁.setTop (mkF m 29 #[oi p0] [(.int (0 : Int32))])) _
        exact retN X0 hx (t := .boolean) Bd.returns (by simp) (hb hby d22_29) hr
      · show Q22 Z p0 h0 n0 _ s₁.heap _
        rw [e0]
        exact ⟨congrArg (fun z => some (Value.int z)) (show (0 : Int32) = (own_let p0) from by unfold own_let; rw [if_pos hc3, if_pos hc15]), N0, rfl⟩
    · -- it isn't
      have c5 : own_G p e below s₁ (mkF m 21 #[oi p0] [(.int (122 : Int32)), (.int p0)]) (mkF m 15 #[oi p0] [(.int (97 : Int32)), (.int p0)]) := by
        intro t kt
        show oS s₁ (mkF m 15 #[oi p0] [(.int (97 : Int32)), (.int p0)]) _
        refine XS.icmpNo X0.here hx rfl (hb hby d22_15) rfl (flt hc15).1 ?_
        show oS s₁ (mkF m 18 #[oi p0] []) _
        refine XS.iloadN X0.here hx rfl (hb hby d22_18) rfl ?_
        show oS s₁ (mkF m 19 #[oi p0] [(.int p0)]) _
        refine XS.bipush X0.here hx rfl (hb hby d22_19) ?_
        exact kt
      by_cases hc21 : (122 : Int32) < p0
      · -- it is
        have c6 : own_G p e below s₁ (mkF m 29 #[oi p0] [(.int (0 : Int32))]) (mkF m 21 #[oi p0] [(.int (122 : Int32)), (.int p0)]) := by
          intro t kt
          show oS s₁ (mkF m 21 #[oi p0] [(.int (122 : Int32)), (.int p0)]) _
          refine XS.icmpYes X0.here hx rfl (pc0 := 21) (pc' := 28) rfl (hb hby d22_21) rfl (tlt hc21).2.2.1 (by decide) (by decide) ?_
          show oS s₁ (mkF m 28 #[oi p0] []) _
          refine XS.iconst X0.here hx rfl (hb hby d22_28) ?_
          exact kt
        obtain ⟨fs, hr, hrun, hended, hW, hsame⟩ := X0.leave (v := some (.int (0 : Int32))) (fun h => by rw [Bd.returns] at h; cases h)
        refine ⟨_, _, pre0 _ (c1 _ (c2 _ (c5 _ (c6 _ (?_))))), hrun, hended, _, _, rfl, ?_, ⟨_, rfl⟩, hW, hsame.mono (by decide) (by decide)⟩
        · show Steps p.tables e below (s₁.setTop (mkF m 29 #[oi p0] [(.int (0 : Int32))])) _
          exact retN X0 hx (t := .boolean) Bd.returns (by simp) (hb hby d22_29) hr
        · show Q22 Z p0 h0 n0 _ s₁.heap _
          rw [e0]
          exact ⟨congrArg (fun z => some (Value.int z)) (show (0 : Int32) = (own_let p0) from by unfold own_let; rw [if_pos hc3, if_neg hc15, if_pos hc21]), N0, rfl⟩
      · -- it isn't
        have c8 : own_G p e below s₁ (mkF m 29 #[oi p0] [(.int (1 : Int32))]) (mkF m 21 #[oi p0] [(.int (122 : Int32)), (.int p0)]) := by
          intro t kt
          show oS s₁ (mkF m 21 #[oi p0] [(.int (122 : Int32)), (.int p0)]) _
          refine XS.icmpNo X0.here hx rfl (hb hby d22_21) rfl (flt hc21).2.2.1 ?_
          show oS s₁ (mkF m 24 #[oi p0] []) _
          refine XS.iconst X0.here hx rfl (hb hby d22_24) ?_
          show oS s₁ (mkF m 25 #[oi p0] [(.int (1 : Int32))]) _
          refine XS.goto X0.here hx rfl (pc0 := 25) (pc' := 29) rfl (hb hby d22_25) (by decide) (by decide) ?_
          exact kt
        obtain ⟨fs, hr, hrun, hended, hW, hsame⟩ := X0.leave (v := some (.int (1 : Int32))) (fun h => by rw [Bd.returns] at h; cases h)
        refine ⟨_, _, pre0 _ (c1 _ (c2 _ (c5 _ (c8 _ (?_))))), hrun, hended, _, _, rfl, ?_, ⟨_, rfl⟩, hW, hsame.mono (by decide) (by decide)⟩
        · show Steps p.tables e below (s₁.setTop (mkF m 29 #[oi p0] [(.int (1 : Int32))])) _
          exact retN X0 hx (t := .boolean) Bd.returns (by simp) (hb hby d22_29) hr
        · show Q22 Z p0 h0 n0 _ s₁.heap _
          rw [e0]
          exact ⟨congrArg (fun z => some (Value.int z)) (show (1 : Int32) = (own_let p0) from by unfold own_let; rw [if_pos hc3, if_neg hc15, if_neg hc21]), N0, rfl⟩
  · -- it isn't
    have c10 : own_G p e below s₁ (mkF m 9 #[oi p0] [(.int (90 : Int32)), (.int p0)]) (mkF m 3 #[oi p0] [(.int (65 : Int32)), (.int p0)]) := by
      intro t kt
      show oS s₁ (mkF m 3 #[oi p0] [(.int (65 : Int32)), (.int p0)]) _
      refine XS.icmpNo X0.here hx rfl (hb hby d22_3) rfl (flt hc3).1 ?_
      show oS s₁ (mkF m 6 #[oi p0] []) _
      refine XS.iloadN X0.here hx rfl (hb hby d22_6) rfl ?_
      show oS s₁ (mkF m 7 #[oi p0] [(.int p0)]) _
      refine XS.bipush X0.here hx rfl (hb hby d22_7) ?_
      exact kt
    by_cases hc9 : (90 : Int32) < p0
    · -- it is
      have c11 : own_G p e below s₁ (mkF m 15 #[oi p0] [(.int (97 : Int32)), (.int p0)]) (mkF m 9 #[oi p0] [(.int (90 : Int32)), (.int p0)]) := by
        intro t kt
        show oS s₁ (mkF m 9 #[oi p0] [(.int (90 : Int32)), (.int p0)]) _
        refine XS.icmpNo X0.here hx rfl (hb hby d22_9) rfl (tlt hc9).2.2.2 ?_
        show oS s₁ (mkF m 12 #[oi p0] []) _
        refine XS.iloadN X0.here hx rfl (hb hby d22_12) rfl ?_
        show oS s₁ (mkF m 13 #[oi p0] [(.int p0)]) _
        refine XS.bipush X0.here hx rfl (hb hby d22_13) ?_
        exact kt
      by_cases hc15 : p0 < (97 : Int32)
      · -- it is
        have c12 : own_G p e below s₁ (mkF m 29 #[oi p0] [(.int (0 : Int32))]) (mkF m 15 #[oi p0] [(.int (97 : Int32)), (.int p0)]) := by
          intro t kt
          show oS s₁ (mkF m 15 #[oi p0] [(.int (97 : Int32)), (.int p0)]) _
          refine XS.icmpYes X0.here hx rfl (pc0 := 15) (pc' := 28) rfl (hb hby d22_15) rfl (tlt hc15).1 (by decide) (by decide) ?_
          show oS s₁ (mkF m 28 #[oi p0] []) _
          refine XS.iconst X0.here hx rfl (hb hby d22_28) ?_
          exact kt
        obtain ⟨fs, hr, hrun, hended, hW, hsame⟩ := X0.leave (v := some (.int (0 : Int32))) (fun h => by rw [Bd.returns] at h; cases h)
        refine ⟨_, _, pre0 _ (c1 _ (c10 _ (c11 _ (c12 _ (?_))))), hrun, hended, _, _, rfl, ?_, ⟨_, rfl⟩, hW, hsame.mono (by decide) (by decide)⟩
        · show Steps p.tables e below (s₁.setTop (mkF m 29 #[oi p0] [(.int (0 : Int32))])) _
          exact retN X0 hx (t := .boolean) Bd.returns (by simp) (hb hby d22_29) hr
        · show Q22 Z p0 h0 n0 _ s₁.heap _
          rw [e0]
          exact ⟨congrArg (fun z => some (Value.int z)) (show (0 : Int32) = (own_let p0) from by unfold own_let; rw [if_neg hc3, if_pos hc9, if_pos hc15]), N0, rfl⟩
      · -- it isn't
        have c14 : own_G p e below s₁ (mkF m 21 #[oi p0] [(.int (122 : Int32)), (.int p0)]) (mkF m 15 #[oi p0] [(.int (97 : Int32)), (.int p0)]) := by
          intro t kt
          show oS s₁ (mkF m 15 #[oi p0] [(.int (97 : Int32)), (.int p0)]) _
          refine XS.icmpNo X0.here hx rfl (hb hby d22_15) rfl (flt hc15).1 ?_
          show oS s₁ (mkF m 18 #[oi p0] []) _
          refine XS.iloadN X0.here hx rfl (hb hby d22_18) rfl ?_
          show oS s₁ (mkF m 19 #[oi p0] [(.int p0)]) _
          refine XS.bipush X0.here hx rfl (hb hby d22_19) ?_
          exact kt
        by_cases hc21 : (122 : Int32) < p0
        · -- it is
          have c15 : own_G p e below s₁ (mkF m 29 #[oi p0] [(.int (0 : Int32))]) (mkF m 21 #[oi p0] [(.int (122 : Int32)), (.int p0)]) := by
            intro t kt
            show oS s₁ (mkF m 21 #[oi p0] [(.int (122 : Int32)), (.int p0)]) _
            refine XS.icmpYes X0.here hx rfl (pc0 := 21) (pc' := 28) rfl (hb hby d22_21) rfl (tlt hc21).2.2.1 (by decide) (by decide) ?_
            show oS s₁ (mkF m 28 #[oi p0] []) _
            refine XS.iconst X0.here hx rfl (hb hby d22_28) ?_
            exact kt
          obtain ⟨fs, hr, hrun, hended, hW, hsame⟩ := X0.leave (v := some (.int (0 : Int32))) (fun h => by rw [Bd.returns] at h; cases h)
          refine ⟨_, _, pre0 _ (c1 _ (c10 _ (c11 _ (c14 _ (c15 _ (?_)))))), hrun, hended, _, _, rfl, ?_, ⟨_, rfl⟩, hW, hsame.mono (by decide) (by decide)⟩
          · show Steps p.tables e below (s₁.setTop (mkF m 29 #[oi p0] [(.int (0 : Int32))])) _
            exact retN X0 hx (t := .boolean) Bd.returns (by simp) (hb hby d22_29) hr
          · show Q22 Z p0 h0 n0 _ s₁.heap _
            rw [e0]
            exact ⟨congrArg (fun z => some (Value.int z)) (show (0 : Int32) = (own_let p0) from by unfold own_let; rw [if_neg hc3, if_pos hc9, if_neg hc15, if_pos hc21]), N0, rfl⟩
        · -- it isn't
          have c17 : own_G p e below s₁ (mkF m 29 #[oi p0] [(.int (1 : Int32))]) (mkF m 21 #[oi p0] [(.int (122 : Int32)), (.int p0)]) := by
            intro t kt
            show oS s₁ (mkF m 21 #[oi p0] [(.int (122 : Int32)), (.int p0)]) _
            refine XS.icmpNo X0.here hx rfl (hb hby d22_21) rfl (flt hc21).2.2.1 ?_
            show oS s₁ (mkF m 24 #[oi p0] []) _
            refine XS.iconst X0.here hx rfl (hb hby d22_24) ?_
            show oS s₁ (mkF m 25 #[oi p0] [(.int (1 : Int32))]) _
            refine XS.goto X0.here hx rfl (pc0 := 25) (pc' := 29) rfl (hb hby d22_25) (by decide) (by decide) ?_
            exact kt
          obtain ⟨fs, hr, hrun, hended, hW, hsame⟩ := X0.leave (v := some (.int (1 : Int32))) (fun h => by rw [Bd.returns] at h; cases h)
          refine ⟨_, _, pre0 _ (c1 _ (c10 _ (c11 _ (c14 _ (c17 _ (?_)))))), hrun, hended, _, _, rfl, ?_, ⟨_, rfl⟩, hW, hsame.mono (by decide) (by decide)⟩
          · show Steps p.tables e below (s₁.setTop (mkF m 29 #[oi p0] [(.int (1 : Int32))])) _
            exact retN X0 hx (t := .boolean) Bd.returns (by simp) (hb hby d22_29) hr
          · show Q22 Z p0 h0 n0 _ s₁.heap _
            rw [e0]
            exact ⟨congrArg (fun z => some (Value.int z)) (show (1 : Int32) = (own_let p0) from by unfold own_let; rw [if_neg hc3, if_pos hc9, if_neg hc15, if_neg hc21]), N0, rfl⟩
    · -- it isn't
      have c19 : own_G p e below s₁ (mkF m 29 #[oi p0] [(.int (1 : Int32))]) (mkF m 9 #[oi p0] [(.int (90 : Int32)), (.int p0)]) := by
        intro t kt
        show oS s₁ (mkF m 9 #[oi p0] [(.int (90 : Int32)), (.int p0)]) _
        refine XS.icmpYes X0.here hx rfl (pc0 := 9) (pc' := 24) rfl (hb hby d22_9) rfl (flt hc9).2.2.2 (by decide) (by decide) ?_
        show oS s₁ (mkF m 24 #[oi p0] []) _
        refine XS.iconst X0.here hx rfl (hb hby d22_24) ?_
        show oS s₁ (mkF m 25 #[oi p0] [(.int (1 : Int32))]) _
        refine XS.goto X0.here hx rfl (pc0 := 25) (pc' := 29) rfl (hb hby d22_25) (by decide) (by decide) ?_
        exact kt
      obtain ⟨fs, hr, hrun, hended, hW, hsame⟩ := X0.leave (v := some (.int (1 : Int32))) (fun h => by rw [Bd.returns] at h; cases h)
      refine ⟨_, _, pre0 _ (c1 _ (c10 _ (c19 _ (?_)))), hrun, hended, _, _, rfl, ?_, ⟨_, rfl⟩, hW, hsame.mono (by decide) (by decide)⟩
      · show Steps p.tables e below (s₁.setTop (mkF m 29 #[oi p0] [(.int (1 : Int32))])) _
        exact retN X0 hx (t := .boolean) Bd.returns (by simp) (hb hby d22_29) hr
      · show Q22 Z p0 h0 n0 _ s₁.heap _
        rw [e0]
        exact ⟨congrArg (fun z => some (Value.int z)) (show (1 : Int32) = (own_let p0) from by unfold own_let; rw [if_neg hc3, if_neg hc9]), N0, rfl⟩
theorem d24_0 : decode prog_57_method_18_code 0 = .ok (.iload_n 0, 1) := by decide +kernel
theorem d24_1 : decode prog_57_method_18_code 1 = .ok (.bipush 48, 2) := by decide +kernel
theorem d24_3 : decode prog_57_method_18_code 3 = .ok (.if_icmp .lt 13, 3) := by decide +kernel
theorem d24_6 : decode prog_57_method_18_code 6 = .ok (.iload_n 0, 1) := by decide +kernel
theorem d24_7 : decode prog_57_method_18_code 7 = .ok (.bipush 57, 2) := by decide +kernel
theorem d24_9 : decode prog_57_method_18_code 9 = .ok (.if_icmp .gt 7, 3) := by decide +kernel
theorem d24_12 : decode prog_57_method_18_code 12 = .ok (.iconst 1, 1) := by decide +kernel
theorem d24_13 : decode prog_57_method_18_code 13 = .ok (.goto 4, 3) := by decide +kernel
theorem d24_16 : decode prog_57_method_18_code 16 = .ok (.iconst 0, 1) := by decide +kernel
theorem d24_17 : decode prog_57_method_18_code 17 = .ok (.ireturn, 1) := by decide +kernel
theorem pn_24 : plainName "com/example/href/href/uri/IriSyntax" = true := by first | (simp [plainName, overriddenIn]; done) | decide +kernel
theorem ef_24 (m : MethodId) (x0 : Int32) : entryFrame m #[(.int x0)] 1 = mkF m 0 #[.val (.int x0)] [] := by first | (simp [entryFrame, mkF, argsToLocals, Value.category]; done) | rfl
def Q24 (Z : State) (p0 : Int32) (h0 : Heap) (n0 : Nat) (v : Option Value) (h : Heap) (L : List Loc) : Prop := v = some (.int (own_dgt p0)) ∧ Fr n0 L ∧ h = h0
set_option maxRecDepth 65536 in
set_option maxHeartbeats 40000000 in
theorem rm24 (l : Launch) (Z : State) (a0 : Array Value) (hw : ∀ d ∈ tables_1, d.before a0 Z = true) (ws : List Jvm.Cond) (p0 : Int32)  (h0 : Heap) (n0 : Nat) (Z0 : n0 ≤ h0.size) :
    MetFree l yy_19 (head1 (Jvm.Cond.code yy_19 prog_57_method_18_code 1 (some .boolean) :: ws) ({ frames := 0, cells := 0, slots := 0, locals := 0 } : Room)) (fun a U => a = #[(.int p0)] ∧ Z.Warmed39 U.vm ∧ U.heap = h0) (fun _ _ _ _ _ => True) (fun _ U o U' => ∃ v L, o = .returned v ∧ Q24 Z p0 h0 n0 v U'.heap L ∧ FrameEnd U o U' L ({ frames := 0, cells := 0, slots := 0, locals := 0 } : Room).cells ({ frames := 0, cells := 0, slots := 0, locals := 0 } : Room).slots) := by
  refine MetFree.of_bodySF (plainFor_of_name pn_24) hisR ?_
  intro p e s m args below meth c s₁ Bd hml0 hP hK
  obtain ⟨rfl, hZ, hh⟩ := hP
  have hx := Bd.exec
  have hby := Bd.bytes
  have hml : c.maxLocals = 1 := hml0
  have hown : s.vm.findClass "com/example/href/href/uri/IriSyntax" = some m.cls := findClass_of_methodNamed Bd.named
  have hnm := (name_of_methodNamed Bd.named Bd.method).1
  have X0 : Stand p l e ({ frames := 0, cells := 0, slots := 0, locals := 0 } : Room) s m #[(.int p0)] below meth c s₁ [] 0 0 := Stand.of_body Bd
  have e0 : s₁.heap = h0 := by rw [← hh, Bd.state]; rfl
  have N0 := Fr.nil n0
  have pre0 : ∀ t, Steps p.tables e below (s₁.setTop (mkF m 0 #[oi p0] [])) t → Steps p.tables e below (s₁.setTop (entryFrame m #[(.int p0)] 1)) t := fun t k => castTop (ef_24 m p0) k
  have c1 : own_G p e below s₁ (mkF m 3 #[oi p0] [(.int (48 : Int32)), (.int p0)]) (mkF m 0 #[oi p0] []) := by
    intro t kt
    show oS s₁ (mkF m 0 #[oi p0] []) _
    refine XS.iloadN X0.here hx rfl (hb hby d24_0) rfl ?_
    show oS s₁ (mkF m 1 #[oi p0] [(.int p0)]) _
    refine XS.bipush X0.here hx rfl (hb hby d24_1) ?_
    exact kt
  by_cases hc3 : p0 < (48 : Int32)
  · -- it is
    have c2 : own_G p e below s₁ (mkF m 17 #[oi p0] [(.int (0 : Int32))]) (mkF m 3 #[oi p0] [(.int (48 : Int32)), (.int p0)]) := by
      intro t kt
      show oS s₁ (mkF m 3 #[oi p0] [(.int (48 : Int32)), (.int p0)]) _
      refine XS.icmpYes X0.here hx rfl (pc0 := 3) (pc' := 16) rfl (hb hby d24_3) rfl (tlt hc3).1 (by decide) (by decide) ?_
      show oS s₁ (mkF m 16 #[oi p0] []) _
      refine XS.iconst X0.here hx rfl (hb hby d24_16) ?_
      exact kt
    obtain ⟨fs, hr, hrun, hended, hW, hsame⟩ := X0.leave (v := some (.int (0 : Int32))) (fun h => by rw [Bd.returns] at h; cases h)
    refine ⟨_, _, pre0 _ (c1 _ (c2 _ (?_))), hrun, hended, _, _, rfl, ?_, ⟨_, rfl⟩, hW, hsame.mono (by decide) (by decide)⟩
    · show Steps p.tables e below (s₁.setTop (mkF m 17 #[oi p0] [(.int (0 : Int32))])) _
      exact retN X0 hx (t := .boolean) Bd.returns (by simp) (hb hby d24_17) hr
    · show Q24 Z p0 h0 n0 _ s₁.heap _
      rw [e0]
      exact ⟨congrArg (fun z => some (Value.int z)) (show (0 : Int32) = (own_dgt p0) from by unfold own_dgt; rw [if_pos hc3]), N0, rfl⟩
  · -- it isn't
    have c4 : own_G p e below s₁ (mkF m 9 #[oi p0] [(.int (57 : Int32)), (.int p0)]) (mkF m 3 #[oi p0] [(.int (48 : Int32)), (.int p0)]) := by
      intro t kt
      show oS s₁ (mkF m 3 #[oi p0] [(.int (48 : Int32)), (.int p0)]) _
      refine XS.icmpNo X0.here hx rfl (hb hby d24_3) rfl (flt hc3).1 ?_
      show oS s₁ (mkF m 6 #[oi p0] []) _
      refine XS.iloadN X0.here hx rfl (hb hby d24_6) rfl ?_
      show oS s₁ (mkF m 7 #[oi p0] [(.int p0)]) _
      refine XS.bipush X0.here hx rfl (hb hby d24_7) ?_
      exact kt
    by_cases hc9 : (57 : Int32) < p0
    · -- it is
      have c5 : own_G p e below s₁ (mkF m 17 #[oi p0] [(.int (0 : Int32))]) (mkF m 9 #[oi p0] [(.int (57 : Int32)), (.int p0)]) := by
        intro t kt
        show oS s₁ (mkF m 9 #[oi p0] [(.int (57 : Int32)), (.int p0)]) _
        refine XS.icmpYes X0.here hx rfl (pc0 := 9) (pc' := 16) rfl (hb hby d24_9) rfl (tlt hc9).2.2.1 (by decide) (by decide) ?_
        show oS s₁ (mkF m 16 #[oi p0] []) _
        refine XS.iconst X0.here hx rfl (hb hby d24_16) ?_
        exact kt
      obtain ⟨fs, hr, hrun, hended, hW, hsame⟩ := X0.leave (v := some (.int (0 : Int32))) (fun h => by rw [Bd.returns] at h; cases h)
      refine ⟨_, _, pre0 _ (c1 _ (c4 _ (c5 _ (?_)))), hrun, hended, _, _, rfl, ?_, ⟨_, rfl⟩, hW, hsame.mono (by decide) (by decide)⟩
      · show Steps p.tables e below (s₁.setTop (mkF m 17 #[oi p0] [(.int (0 : Int32))])) _
        exact retN X0 hx (t := .boolean) Bd.returns (by simp) (hb hby d24_17) hr
      · show Q24 Z p0 h0 n0 _ s₁.heap _
        rw [e0]
        exact ⟨congrArg (fun z => some (Value.int z)) (show (0 : Int32) = (own_dgt p0) from by unfold own_dgt; rw [if_neg hc3, if_pos hc9]), N0, rfl⟩
    · -- it isn't
      have c7 : own_G p e below s₁ (mkF m 17 #[oi p0] [(.int (1 : Int32))]) (mkF m 9 #[oi p0] [(.int (57 : Int32)), (.int p0)]) := by
        intro t kt
        show oS s₁ (mkF m 9 #[oi p0] [(.int (57 : Int32)), (.int p0)]) _
        refine XS.icmpNo X0.here hx rfl (hb hby d24_9) rfl (flt hc9).2.2.1 ?_
        show oS s₁ (mkF m 12 #[oi p0] []) _
        refine XS.iconst X0.here hx rfl (hb hby d24_12) ?_
        show oS s₁ (mkF m 13 #[oi p0] [(.int (1 : Int32))]) _
        refine XS.goto X0.here hx rfl (pc0 := 13) (pc' := 17) rfl (hb hby d24_13) (by decide) (by decide) ?_
        exact kt
      obtain ⟨fs, hr, hrun, hended, hW, hsame⟩ := X0.leave (v := some (.int (1 : Int32))) (fun h => by rw [Bd.returns] at h; cases h)
      refine ⟨_, _, pre0 _ (c1 _ (c4 _ (c7 _ (?_)))), hrun, hended, _, _, rfl, ?_, ⟨_, rfl⟩, hW, hsame.mono (by decide) (by decide)⟩
      · show Steps p.tables e below (s₁.setTop (mkF m 17 #[oi p0] [(.int (1 : Int32))])) _
        exact retN X0 hx (t := .boolean) Bd.returns (by simp) (hb hby d24_17) hr
      · show Q24 Z p0 h0 n0 _ s₁.heap _
        rw [e0]
        exact ⟨congrArg (fun z => some (Value.int z)) (show (1 : Int32) = (own_dgt p0) from by unfold own_dgt; rw [if_neg hc3, if_neg hc9]), N0, rfl⟩
theorem d9_2 : decode prog_57_method_2_code 2 = .ok (.iload_n 3, 1) := by decide +kernel
theorem d9_3 : decode prog_57_method_2_code 3 = .ok (.iload_n 2, 1) := by decide +kernel
theorem d9_4 : decode prog_57_method_2_code 4 = .ok (.if_icmp .ge 88, 3) := by decide +kernel
theorem d9_7 : decode prog_57_method_2_code 7 = .ok (.aload_n 0, 1) := by decide +kernel
theorem d9_8 : decode prog_57_method_2_code 8 = .ok (.getfield 7, 3) := by decide +kernel
theorem d9_11 : decode prog_57_method_2_code 11 = .ok (.iload_n 3, 1) := by decide +kernel
theorem d9_12 : decode prog_57_method_2_code 12 = .ok (.invokevirtual 13, 3) := by decide +kernel
theorem d9_15 : decode prog_57_method_2_code 15 = .ok (.istore 4, 2) := by decide +kernel
theorem d9_17 : decode prog_57_method_2_code 17 = .ok (.iload 4, 2) := by decide +kernel
theorem d9_19 : decode prog_57_method_2_code 19 = .ok (.invokestatic 19, 3) := by decide +kernel
theorem d9_22 : decode prog_57_method_2_code 22 = .ok (.ifCond .ne 37, 3) := by decide +kernel
theorem d9_25 : decode prog_57_method_2_code 25 = .ok (.iload_n 3, 1) := by decide +kernel
theorem d9_26 : decode prog_57_method_2_code 26 = .ok (.iload_n 1, 1) := by decide +kernel
theorem d9_27 : decode prog_57_method_2_code 27 = .ok (.if_icmp .le 36, 3) := by decide +kernel
theorem d9_30 : decode prog_57_method_2_code 30 = .ok (.iload 4, 2) := by decide +kernel
theorem d9_32 : decode prog_57_method_2_code 32 = .ok (.invokestatic 23, 3) := by decide +kernel
theorem d9_35 : decode prog_57_method_2_code 35 = .ok (.ifCond .ne 24, 3) := by decide +kernel
theorem d9_38 : decode prog_57_method_2_code 38 = .ok (.iload 4, 2) := by decide +kernel
theorem d9_40 : decode prog_57_method_2_code 40 = .ok (.bipush 43, 2) := by decide +kernel
theorem d9_42 : decode prog_57_method_2_code 42 = .ok (.if_icmp .eq 17, 3) := by decide +kernel
theorem d9_45 : decode prog_57_method_2_code 45 = .ok (.iload 4, 2) := by decide +kernel
theorem d9_47 : decode prog_57_method_2_code 47 = .ok (.bipush 45, 2) := by decide +kernel
theorem d9_49 : decode prog_57_method_2_code 49 = .ok (.if_icmp .eq 10, 3) := by decide +kernel
theorem d9_52 : decode prog_57_method_2_code 52 = .ok (.iload 4, 2) := by decide +kernel
theorem d9_54 : decode prog_57_method_2_code 54 = .ok (.bipush 46, 2) := by decide +kernel
theorem d9_56 : decode prog_57_method_2_code 56 = .ok (.if_icmp .ne 7, 3) := by decide +kernel
theorem d9_59 : decode prog_57_method_2_code 59 = .ok (.iconst 1, 1) := by decide +kernel
theorem d9_60 : decode prog_57_method_2_code 60 = .ok (.goto 4, 3) := by decide +kernel
theorem d9_64 : decode prog_57_method_2_code 64 = .ok (.istore 5, 2) := by decide +kernel
theorem d9_66 : decode prog_57_method_2_code 66 = .ok (.iload 5, 2) := by decide +kernel
theorem d9_68 : decode prog_57_method_2_code 68 = .ok (.ifCond .ne 18, 3) := by decide +kernel
theorem d9_86 : decode prog_57_method_2_code 86 = .ok (.iinc 3 1, 3) := by decide +kernel
theorem d9_89 : decode prog_57_method_2_code 89 = .ok (.goto (-87), 3) := by decide +kernel
set_option maxRecDepth 65536 in
set_option maxHeartbeats 40000000 in
theorem tcka {p : Program} {l : Launch} {e : Env} {s : State} {m : MethodId} {args : Array Value} {below : List Frame} {meth : Method} {c : Code} {T0 : State} {locs : List Loc} {Z : State} {a0 : Array Value} {h0 : Heap} {n0 : Nat} (r0 sa rb : Addr) (kb : ClassId) (ua ub uc ud ue : Int32) (i fn tn : Nat) (cs : Int32) (fm : Value) (o4 o5 : Slot)
    (X0 : Stand p l e ({ frames := 6, cells := 0, slots := 0, locals := 90 } : Room) s m args below meth c T0 locs 0 0) (hx : p.tables.exec = Jvm.exec) (hZ : Z.Warmed39 s.vm) (hw : ∀ d ∈ tables_1, d.before a0 Z = true) (hby : c.code = prog_57_method_2_code) (hml : c.maxLocals = 6) (hown : s.vm.findClass "com/example/href/href/uri/IriSyntax" = some m.cls) (e0 : T0.heap = h0) (N0 : Fr n0 locs) (Z0 : n0 ≤ h0.size) (Ei : Exa Z h0 r0 "com/example/href/href/uri/IriSyntax") (Fi : Fld Z h0 r0 "com/example/href/href/uri/IriSyntax" "input" "Ljava/lang/String;" (.ref sa)) (E0 : Exa Z h0 sa "java/lang/String") (F0 : Fld Z h0 sa "java/lang/String" "value" "[B" (.ref rb)) (C0 : Fld Z h0 sa "java/lang/String" "coder" "B" (.int (0 : Int32))) (V0 : Arv Z h0 rb kb .byte (5 : Int32) [(.int (own_bb ua)), (.int (own_bb ub)), (.int (own_bb uc)), (.int (own_bb ud)), (.int (own_bb ue))] (.int 0)) (SF : Sta Z h0 "jdk/internal/util/Preconditions" "SIOOBE_FORMATTER" "Ljava/util/function/BiFunction;" fm) (hfm : fm.isRef = true) (SC : Sta Z h0 "java/lang/String" "COMPACT_STRINGS" "Z" (.int cs)) (hcs : ¬ cs = (0 : Int32)) (SA : Sta Z h0 "java/lang/StringUTF16" "$assertionsDisabled" "Z" (.int (1 : Int32))) (SH : Sta Z h0 "java/lang/StringUTF16" "HI_BYTE_SHIFT" "I" (.int (0 : Int32))) (SL : Sta Z h0 "java/lang/StringUTF16" "LO_BYTE_SHIFT" "I" (.int (8 : Int32))) (hall : own_all ua ub uc ud ue) (hru : own_ru ua ub uc ud ue) (h_o4 : own_sl o4) (h_o5 : own_sl o5) (hi : i < 5) (ht : i < tn) (h5 : tn ≤ 5) (hok : own_ok (Int32.ofNat fn) (Int32.ofNat i) ((own_u5 ua ub uc ud ue).getD i 0)) :
    ∃ (T' : State) (locs' : List Loc) (h' : Heap), Stand p l e ({ frames := 6, cells := 0, slots := 0, locals := 90 } : Room) s m args below meth c T' locs' 0 0 ∧ T'.heap = h' ∧ Fr n0 locs' ∧ Keep h0 h' [] ∧ h' = h0 ∧ ∀ t, own_S p e below T' (mkF m 2 #[oa r0, oi (Int32.ofNat fn), oi (Int32.ofNat tn), oi ((Int32.ofNat i) + (1 : Int32)), oi ((own_u5 ua ub uc ud ue).getD i 0), oi 1] []) t → own_S p e below T0 (mkF m 2 #[oa r0, oi (Int32.ofNat fn), oi (Int32.ofNat tn), oi (Int32.ofNat i), o4, o5] []) t := by
  have c2 : own_G p e below T0 (mkF m 4 #[oa r0, oi (Int32.ofNat fn), oi (Int32.ofNat tn), oi (Int32.ofNat i), o4, o5] [(.int (Int32.ofNat tn)), (.int (Int32.ofNat i))]) (mkF m 2 #[oa r0, oi (Int32.ofNat fn), oi (Int32.ofNat tn), oi (Int32.ofNat i), o4, o5] []) := by
    intro t kt
    show oS T0 (mkF m 2 #[oa r0, oi (Int32.ofNat fn), oi (Int32.ofNat tn), oi (Int32.ofNat i), o4, o5] []) _
    refine XS.iloadN X0.here hx rfl (hb hby d9_2) rfl ?_
    show oS T0 (mkF m 3 #[oa r0, oi (Int32.ofNat fn), oi (Int32.ofNat tn), oi (Int32.ofNat i), o4, o5] [(.int (Int32.ofNat i))]) _
    refine XS.iloadN X0.here hx rfl (hb hby d9_3) rfl ?_
    exact kt
  have hd1 : (Int32.ofNat i) < (Int32.ofNat tn) := by rw [own_lt i tn (by omega) (by omega)]; exact ht
  have c4 : own_G p e below T0 (mkF m 8 #[oa r0, oi (Int32.ofNat fn), oi (Int32.ofNat tn), oi (Int32.ofNat i), o4, o5] [(.ref r0)]) (mkF m 4 #[oa r0, oi (Int32.ofNat fn), oi (Int32.ofNat tn), oi (Int32.ofNat i), o4, o5] [(.int (Int32.ofNat tn)), (.int (Int32.ofNat i))]) := by
    intro t kt
    show oS T0 (mkF m 4 #[oa r0, oi (Int32.ofNat fn), oi (Int32.ofNat tn), oi (Int32.ofNat i), o4, o5] [(.int (Int32.ofNat tn)), (.int (Int32.ofNat i))]) _
    refine XS.icmpNo X0.here hx rfl (hb hby d9_4) rfl (tlt hd1).2.1 ?_
    show oS T0 (mkF m 7 #[oa r0, oi (Int32.ofNat fn), oi (Int32.ofNat tn), oi (Int32.ofNat i), o4, o5] []) _
    refine XS.aloadN X0.here hx rfl (hb hby d9_7) rfl rfl ?_
    exact kt
  obtain ⟨T3, X3, e3, st3⟩ := getF X0 hx hZ hown (host := "") (Or.inl (own_t hw 42 rfl)) Via.refl e0 Fi (g := (mkF m 8 #[oa r0, oi (Int32.ofNat fn), oi (Int32.ofNat tn), oi (Int32.ofNat i), o4, o5] [(.ref r0)])) rfl rfl (hb hby d9_8)
  have c5 : own_G p e below T3 (mkF m 12 #[oa r0, oi (Int32.ofNat fn), oi (Int32.ofNat tn), oi (Int32.ofNat i), o4, o5] [(.int (Int32.ofNat i)), (.ref sa)]) (mkF m 11 #[oa r0, oi (Int32.ofNat fn), oi (Int32.ofNat tn), oi (Int32.ofNat i), o4, o5] [(.ref sa)]) := by
    intro t kt
    show oS T3 (mkF m 11 #[oa r0, oi (Int32.ofNat fn), oi (Int32.ofNat tn), oi (Int32.ofNat i), o4, o5] [(.ref sa)]) _
    refine XS.iloadN X3.here hx rfl (hb hby d9_11) rfl ?_
    exact kt
  obtain ⟨cq6, kq6, q6a, q6b, q6c⟩ := isOf hZ e3 E0
  obtain ⟨_, _, ⟨T7, L7, k7, n7⟩, -, X7, ⟨Lc7, hQ7, l7, y7, z7⟩, st7⟩ := X3.virtualBack hx (y := yy_4) (z := yy_4) hown (mvT hZ (own_t hw 69 rfl)) (mvT hZ (own_t hw 70 rfl)) (notFace_of_selects (args := #[]) (mvT hZ (own_t hw 72 rfl))) (mvT hZ (own_t hw 72 rfl)) (mvT hZ (own_t hw 71 rfl)) (by decide) (backOf (W := 0) (rm15 l Z a0 hw [] sa (Int32.ofNat i) rb kb (5 : Int32) [(.int (own_bb ua)), (.int (own_bb ub)), (.int (own_bb uc)), (.int (own_bb ud)), (.int (own_bb ue))] (.int 0) (own_bb ((own_u5 ua ub uc ud ue).getD i 0)) fm cs h0 n0 Z0 E0 F0 V0 (own_in5 i hi) (own_at8 ua ub uc ud ue i hi) SF hfm SC hcs C0) hZ (own_t hw 73 rfl) (own_t hw 11 rfl) (by decide) (by decide)) q6a q6c (g := (mkF m 12 #[oa r0, oi (Int32.ofNat fn), oi (Int32.ofNat tn), oi (Int32.ofNat i), o4, o5] [(.int (Int32.ofNat i)), (.ref sa)])) rfl (by rw [hml]; rfl) (Steps.refl _) (argsL := [(.int (Int32.ofNat i))]) (rest := []) (lenOf pd_13 rfl) rfl (by show 2 * 0 + _ ≤ _; exact Nat.le_of_eq rfl) (hb hby d9_12) (fun _ _ => ⟨rfl, e3, (by decide : 0 + 0 ≤ _), (by decide : 0 + 0 ≤ _)⟩)
  dsimp only [Pt.U, Pt.locs, Pt.cells, Pt.slots] at X7 l7 y7 z7 st7 hQ7
  subst l7 y7 z7
  obtain ⟨rfl, N7q, e7⟩ := hQ7
  have N7 := Fr.app N0 N7q
  have c8 : own_G p e below T7 (mkF m 15 #[oa r0, oi (Int32.ofNat fn), oi (Int32.ofNat tn), oi (Int32.ofNat i), o4, o5] [(.int ((own_u5 ua ub uc ud ue).getD i 0))]) (mkF m 15 #[oa r0, oi (Int32.ofNat fn), oi (Int32.ofNat tn), oi (Int32.ofNat i), o4, o5] [(.int (own_cc (own_bb ((own_u5 ua ub uc ud ue).getD i 0))))]) := fun t kt => castTop (congrArg (fun zv => (mkF m 15 #[oa r0, oi (Int32.ofNat fn), oi (Int32.ofNat tn), oi (Int32.ofNat i), o4, o5] [(.int zv)])) (show (own_cc (own_bb ((own_u5 ua ub uc ud ue).getD i 0))) = ((own_u5 ua ub uc ud ue).getD i 0) from own_bbv _ (own_rug ua ub uc ud ue hru i hi) (own_allg ua ub uc ud ue hall i hi))) kt
  have c9 : own_G p e below T7 (mkF m 19 #[oa r0, oi (Int32.ofNat fn), oi (Int32.ofNat tn), oi (Int32.ofNat i), oi ((own_u5 ua ub uc ud ue).getD i 0), o5] [(.int ((own_u5 ua ub uc ud ue).getD i 0))]) (mkF m 15 #[oa r0, oi (Int32.ofNat fn), oi (Int32.ofNat tn), oi (Int32.ofNat i), o4, o5] [(.int ((own_u5 ua ub uc ud ue).getD i 0))]) := by
    intro t kt
    show oS T7 (mkF m 15 #[oa r0, oi (Int32.ofNat fn), oi (Int32.ofNat tn), oi (Int32.ofNat i), o4, o5] [(.int ((own_u5 ua ub uc ud ue).getD i 0))]) _
    refine XS.istore X7.here hx rfl (hb hby d9_15) rfl (l' := #[oa r0, oi (Int32.ofNat fn), oi (Int32.ofNat tn), oi (Int32.ofNat i), oi ((own_u5 ua ub uc ud ue).getD i 0), o5]) (own_st4 h_o4) ?_
    show oS T7 (mkF m 17 #[oa r0, oi (Int32.ofNat fn), oi (Int32.ofNat tn), oi (Int32.ofNat i), oi ((own_u5 ua ub uc ud ue).getD i 0), o5] []) _
    refine XS.iload X7.here hx rfl (hb hby d9_17) rfl ?_
    exact kt
  obtain ⟨_, _, ⟨T10, L10, k10, n10⟩, -, X10, ⟨Lc10, hQ10, l10, y10, z10⟩, st10⟩ := Jvm.LawKit.callS X7 hx (y := yy_18) hown (mvT hZ (own_t hw 96 rfl)) (mvT hZ (own_t hw 97 rfl)) (mvT hZ (own_t hw 8 rfl)) (mvT hZ (own_t hw 98 rfl)) (by decide) (backOf (W := 0) (rm22 l Z a0 hw [] ((own_u5 ua ub uc ud ue).getD i 0)  h0 n0 Z0 ) hZ (own_t hw 98 rfl) (own_t hw 8 rfl) (by decide) (by decide)) (g := (mkF m 19 #[oa r0, oi (Int32.ofNat fn), oi (Int32.ofNat tn), oi (Int32.ofNat i), oi ((own_u5 ua ub uc ud ue).getD i 0), o5] [(.int ((own_u5 ua ub uc ud ue).getD i 0))])) rfl (by rw [hml]; rfl) (argsL := [(.int ((own_u5 ua ub uc ud ue).getD i 0))]) (rest := []) (lenOf pd_14 rfl) rfl (by show 2 * 0 + _ ≤ _; exact Nat.le_of_eq rfl) (hb hby d9_19) (fun _ _ => ⟨rfl, e7, (by decide : 0 + 0 ≤ _), (by decide : 0 + 0 ≤ _)⟩)
  dsimp only [Pt.U, Pt.locs, Pt.cells, Pt.slots] at X10 l10 y10 z10 st10 hQ10
  subst l10 y10 z10
  obtain ⟨rfl, N10q, e10⟩ := hQ10
  have N10 := Fr.app N7 N10q
  by_cases hc22 : (own_let ((own_u5 ua ub uc ud ue).getD i 0)) = (0 : Int32)
  · -- it is
    have c11 : own_G p e below T10 (mkF m 32 #[oa r0, oi (Int32.ofNat fn), oi (Int32.ofNat tn), oi (Int32.ofNat i), oi ((own_u5 ua ub uc ud ue).getD i 0), o5] [(.int ((own_u5 ua ub uc ud ue).getD i 0))]) (mkF m 22 #[oa r0, oi (Int32.ofNat fn), oi (Int32.ofNat tn), oi (Int32.ofNat i), oi ((own_u5 ua ub uc ud ue).getD i 0), o5] [(.int (own_let ((own_u5 ua ub uc ud ue).getD i 0)))]) := by
      intro t kt
      show oS T10 (mkF m 22 #[oa r0, oi (Int32.ofNat fn), oi (Int32.ofNat tn), oi (Int32.ofNat i), oi ((own_u5 ua ub uc ud ue).getD i 0), o5] [(.int (own_let ((own_u5 ua ub uc ud ue).getD i 0)))]) _
      refine XS.ifNo X10.here hx rfl (hb hby d9_22) rfl ((if0 _ _).trans (teq hc22).2) ?_
      show oS T10 (mkF m 25 #[oa r0, oi (Int32.ofNat fn), oi (Int32.ofNat tn), oi (Int32.ofNat i), oi ((own_u5 ua ub uc ud ue).getD i 0), o5] []) _
      refine XS.iloadN X10.here hx rfl (hb hby d9_25) rfl ?_
      show oS T10 (mkF m 26 #[oa r0, oi (Int32.ofNat fn), oi (Int32.ofNat tn), oi (Int32.ofNat i), oi ((own_u5 ua ub uc ud ue).getD i 0), o5] [(.int (Int32.ofNat i))]) _
      refine XS.iloadN X10.here hx rfl (hb hby d9_26) rfl ?_
      show oS T10 (mkF m 27 #[oa r0, oi (Int32.ofNat fn), oi (Int32.ofNat tn), oi (Int32.ofNat i), oi ((own_u5 ua ub uc ud ue).getD i 0), o5] [(.int (Int32.ofNat fn)), (.int (Int32.ofNat i))]) _
      refine XS.icmpNo X10.here hx rfl (hb hby d9_27) rfl (tlt ((hok.resolve_left (fun q => q hc22)).1)).2.2.2 ?_
      show oS T10 (mkF m 30 #[oa r0, oi (Int32.ofNat fn), oi (Int32.ofNat tn), oi (Int32.ofNat i), oi ((own_u5 ua ub uc ud ue).getD i 0), o5] []) _
      refine XS.iload X10.here hx rfl (hb hby d9_30) rfl ?_
      exact kt
    obtain ⟨_, _, ⟨T12, L12, k12, n12⟩, -, X12, ⟨Lc12, hQ12, l12, y12, z12⟩, st12⟩ := Jvm.LawKit.callS X10 hx (y := yy_19) hown (mvT hZ (own_t hw 104 rfl)) (mvT hZ (own_t hw 105 rfl)) (mvT hZ (own_t hw 8 rfl)) (mvT hZ (own_t hw 106 rfl)) (by decide) (backOf (W := 0) (rm24 l Z a0 hw [] ((own_u5 ua ub uc ud ue).getD i 0)  h0 n0 Z0 ) hZ (own_t hw 106 rfl) (own_t hw 8 rfl) (by decide) (by decide)) (g := (mkF m 32 #[oa r0, oi (Int32.ofNat fn), oi (Int32.ofNat tn), oi (Int32.ofNat i), oi ((own_u5 ua ub uc ud ue).getD i 0), o5] [(.int ((own_u5 ua ub uc ud ue).getD i 0))])) rfl (by rw [hml]; rfl) (argsL := [(.int ((own_u5 ua ub uc ud ue).getD i 0))]) (rest := []) (lenOf pd_14 rfl) rfl (by show 2 * 0 + _ ≤ _; exact Nat.le_of_eq rfl) (hb hby d9_32) (fun _ _ => ⟨rfl, e10, (by decide : 0 + 0 ≤ _), (by decide : 0 + 0 ≤ _)⟩)
    dsimp only [Pt.U, Pt.locs, Pt.cells, Pt.slots] at X12 l12 y12 z12 st12 hQ12
    subst l12 y12 z12
    obtain ⟨rfl, N12q, e12⟩ := hQ12
    have N12 := Fr.app N10 N12q
    by_cases hc35 : (own_dgt ((own_u5 ua ub uc ud ue).getD i 0)) = (0 : Int32)
    · -- it is
      have c13 : own_G p e below T12 (mkF m 42 #[oa r0, oi (Int32.ofNat fn), oi (Int32.ofNat tn), oi (Int32.ofNat i), oi ((own_u5 ua ub uc ud ue).getD i 0), o5] [(.int (43 : Int32)), (.int ((own_u5 ua ub uc ud ue).getD i 0))]) (mkF m 35 #[oa r0, oi (Int32.ofNat fn), oi (Int32.ofNat tn), oi (Int32.ofNat i), oi ((own_u5 ua ub uc ud ue).getD i 0), o5] [(.int (own_dgt ((own_u5 ua ub uc ud ue).getD i 0)))]) := by
        intro t kt
        show oS T12 (mkF m 35 #[oa r0, oi (Int32.ofNat fn), oi (Int32.ofNat tn), oi (Int32.ofNat i), oi ((own_u5 ua ub uc ud ue).getD i 0), o5] [(.int (own_dgt ((own_u5 ua ub uc ud ue).getD i 0)))]) _
        refine XS.ifNo X12.here hx rfl (hb hby d9_35) rfl ((if0 _ _).trans (teq hc35).2) ?_
        show oS T12 (mkF m 38 #[oa r0, oi (Int32.ofNat fn), oi (Int32.ofNat tn), oi (Int32.ofNat i), oi ((own_u5 ua ub uc ud ue).getD i 0), o5] []) _
        refine XS.iload X12.here hx rfl (hb hby d9_38) rfl ?_
        show oS T12 (mkF m 40 #[oa r0, oi (Int32.ofNat fn), oi (Int32.ofNat tn), oi (Int32.ofNat i), oi ((own_u5 ua ub uc ud ue).getD i 0), o5] [(.int ((own_u5 ua ub uc ud ue).getD i 0))]) _
        refine XS.bipush X12.here hx rfl (hb hby d9_40) ?_
        exact kt
      by_cases hc42 : ((own_u5 ua ub uc ud ue).getD i 0) = (43 : Int32)
      · -- it is
        have c14 : own_G p e below T12 (mkF m 2 #[oa r0, oi (Int32.ofNat fn), oi (Int32.ofNat tn), oi ((Int32.ofNat i) + (1 : Int32)), oi ((own_u5 ua ub uc ud ue).getD i 0), oi 1] []) (mkF m 42 #[oa r0, oi (Int32.ofNat fn), oi (Int32.ofNat tn), oi (Int32.ofNat i), oi ((own_u5 ua ub uc ud ue).getD i 0), o5] [(.int (43 : Int32)), (.int ((own_u5 ua ub uc ud ue).getD i 0))]) := by
          intro t kt
          show oS T12 (mkF m 42 #[oa r0, oi (Int32.ofNat fn), oi (Int32.ofNat tn), oi (Int32.ofNat i), oi ((own_u5 ua ub uc ud ue).getD i 0), o5] [(.int (43 : Int32)), (.int ((own_u5 ua ub uc ud ue).getD i 0))]) _
          refine XS.icmpYes X12.here hx rfl (pc0 := 42) (pc' := 59) rfl (hb hby d9_42) rfl (teq hc42).1 (by decide) (by decide) ?_
          show oS T12 (mkF m 59 #[oa r0, oi (Int32.ofNat fn), oi (Int32.ofNat tn), oi (Int32.ofNat i), oi ((own_u5 ua ub uc ud ue).getD i 0), o5] []) _
          refine XS.iconst X12.here hx rfl (hb hby d9_59) ?_
          show oS T12 (mkF m 60 #[oa r0, oi (Int32.ofNat fn), oi (Int32.ofNat tn), oi (Int32.ofNat i), oi ((own_u5 ua ub uc ud ue).getD i 0), o5] [(.int (1 : Int32))]) _
          refine XS.goto X12.here hx rfl (pc0 := 60) (pc' := 64) rfl (hb hby d9_60) (by decide) (by decide) ?_
          show oS T12 (mkF m 64 #[oa r0, oi (Int32.ofNat fn), oi (Int32.ofNat tn), oi (Int32.ofNat i), oi ((own_u5 ua ub uc ud ue).getD i 0), o5] [(.int (1 : Int32))]) _
          refine XS.istore X12.here hx rfl (hb hby d9_64) rfl (l' := #[oa r0, oi (Int32.ofNat fn), oi (Int32.ofNat tn), oi (Int32.ofNat i), oi ((own_u5 ua ub uc ud ue).getD i 0), oi 1]) (own_st5 h_o5) ?_
          show oS T12 (mkF m 66 #[oa r0, oi (Int32.ofNat fn), oi (Int32.ofNat tn), oi (Int32.ofNat i), oi ((own_u5 ua ub uc ud ue).getD i 0), oi 1] []) _
          refine XS.iload X12.here hx rfl (hb hby d9_66) rfl ?_
          show oS T12 (mkF m 68 #[oa r0, oi (Int32.ofNat fn), oi (Int32.ofNat tn), oi (Int32.ofNat i), oi ((own_u5 ua ub uc ud ue).getD i 0), oi 1] [(.int (1 : Int32))]) _
          refine XS.ifYes X12.here hx rfl (pc0 := 68) (pc' := 86) rfl (hb hby d9_68) rfl ((if0 _ _).trans (feq (by decide : ¬ ((1 : Int32) = (0 : Int32)))).2) (by decide) (by decide) ?_
          show oS T12 (mkF m 86 #[oa r0, oi (Int32.ofNat fn), oi (Int32.ofNat tn), oi (Int32.ofNat i), oi ((own_u5 ua ub uc ud ue).getD i 0), oi 1] []) _
          refine XS.iinc X12.here hx rfl (hb hby d9_86) rfl (l' := #[oa r0, oi (Int32.ofNat fn), oi (Int32.ofNat tn), oi ((Int32.ofNat i) + (1 : Int32)), oi ((own_u5 ua ub uc ud ue).getD i 0), oi 1]) rfl ?_
          show oS T12 (mkF m 89 #[oa r0, oi (Int32.ofNat fn), oi (Int32.ofNat tn), oi ((Int32.ofNat i) + (1 : Int32)), oi ((own_u5 ua ub uc ud ue).getD i 0), oi 1] []) _
          refine XS.goto X12.here hx rfl (pc0 := 89) (pc' := 2) rfl (hb hby d9_89) (by decide) (by decide) ?_
          exact kt
        exact ⟨T12, _, h0, X12, e12, N12, (Keep.refl h0 []), rfl, fun t kt => c2 _ (c4 _ (st3 _ (c5 _ (st7.trans (c8 _ (c9 _ (st10 _ (c11 _ (st12 _ (c13 _ (c14 _ (kt))))))))))))⟩
      · -- it isn't
        have c15 : own_G p e below T12 (mkF m 49 #[oa r0, oi (Int32.ofNat fn), oi (Int32.ofNat tn), oi (Int32.ofNat i), oi ((own_u5 ua ub uc ud ue).getD i 0), o5] [(.int (45 : Int32)), (.int ((own_u5 ua ub uc ud ue).getD i 0))]) (mkF m 42 #[oa r0, oi (Int32.ofNat fn), oi (Int32.ofNat tn), oi (Int32.ofNat i), oi ((own_u5 ua ub uc ud ue).getD i 0), o5] [(.int (43 : Int32)), (.int ((own_u5 ua ub uc ud ue).getD i 0))]) := by
          intro t kt
          show oS T12 (mkF m 42 #[oa r0, oi (Int32.ofNat fn), oi (Int32.ofNat tn), oi (Int32.ofNat i), oi ((own_u5 ua ub uc ud ue).getD i 0), o5] [(.int (43 : Int32)), (.int ((own_u5 ua ub uc ud ue).getD i 0))]) _
          refine XS.icmpNo X12.here hx rfl (hb hby d9_42) rfl (feq hc42).1 ?_
          show oS T12 (mkF m 45 #[oa r0, oi (Int32.ofNat fn), oi (Int32.ofNat tn), oi (Int32.ofNat i), oi ((own_u5 ua ub uc ud ue).getD i 0), o5] []) _
          refine XS.iload X12.here hx rfl (hb hby d9_45) rfl ?_
          show oS T12 (mkF m 47 #[oa r0, oi (Int32.ofNat fn), oi (Int32.ofNat tn), oi (Int32.ofNat i), oi ((own_u5 ua ub uc ud ue).getD i 0), o5] [(.int ((own_u5 ua ub uc ud ue).getD i 0))]) _
          refine XS.bipush X12.here hx rfl (hb hby d9_47) ?_
          exact kt
        by_cases hc49 : ((own_u5 ua ub uc ud ue).getD i 0) = (45 : Int32)
        · -- it is
          have c16 : own_G p e below T12 (mkF m 2 #[oa r0, oi (Int32.ofNat fn), oi (Int32.ofNat tn), oi ((Int32.ofNat i) + (1 : Int32)), oi ((own_u5 ua ub uc ud ue).getD i 0), oi 1] []) (mkF m 49 #[oa r0, oi (Int32.ofNat fn), oi (Int32.ofNat tn), oi (Int32.ofNat i), oi ((own_u5 ua ub uc ud ue).getD i 0), o5] [(.int (45 : Int32)), (.int ((own_u5 ua ub uc ud ue).getD i 0))]) := by
            intro t kt
            show oS T12 (mkF m 49 #[oa r0, oi (Int32.ofNat fn), oi (Int32.ofNat tn), oi (Int32.ofNat i), oi ((own_u5 ua ub uc ud ue).getD i 0), o5] [(.int (45 : Int32)), (.int ((own_u5 ua ub uc ud ue).getD i 0))]) _
            refine XS.icmpYes X12.here hx rfl (pc0 := 49) (pc' := 59) rfl (hb hby d9_49) rfl (teq hc49).1 (by decide) (by decide) ?_
            show oS T12 (mkF m 59 #[oa r0, oi (Int32.ofNat fn), oi (Int32.ofNat tn), oi (Int32.ofNat i), oi ((own_u5 ua ub uc ud ue).getD i 0), o5] []) _
            refine XS.iconst X12.here hx rfl (hb hby d9_59) ?_
            show oS T12 (mkF m 60 #[oa r0, oi (Int32.ofNat fn), oi (Int32.ofNat tn), oi (Int32.ofNat i), oi ((own_u5 ua ub uc ud ue).getD i 0), o5] [(.int (1 : Int32))]) _
            refine XS.goto X12.here hx rfl (pc0 := 60) (pc' := 64) rfl (hb hby d9_60) (by decide) (by decide) ?_
            show oS T12 (mkF m 64 #[oa r0, oi (Int32.ofNat fn), oi (Int32.ofNat tn), oi (Int32.ofNat i), oi ((own_u5 ua ub uc ud ue).getD i 0), o5] [(.int (1 : Int32))]) _
            refine XS.istore X12.here hx rfl (hb hby d9_64) rfl (l' := #[oa r0, oi (Int32.ofNat fn), oi (Int32.ofNat tn), oi (Int32.ofNat i), oi ((own_u5 ua ub uc ud ue).getD i 0), oi 1]) (own_st5 h_o5) ?_
            show oS T12 (mkF m 66 #[oa r0, oi (Int32.ofNat fn), oi (Int32.ofNat tn), oi (Int32.ofNat i), oi ((own_u5 ua ub uc ud ue).getD i 0), oi 1] []) _
            refine XS.iload X12.here hx rfl (hb hby d9_66) rfl ?_
            show oS T12 (mkF m 68 #[oa r0, oi (Int32.ofNat fn), oi (Int32.ofNat tn), oi (Int32.ofNat i), oi ((own_u5 ua ub uc ud ue).getD i 0), oi 1] [(.int (1 : Int32))]) _
            refine XS.ifYes X12.here hx rfl (pc0 := 68) (pc' := 86) rfl (hb hby d9_68) rfl ((if0 _ _).trans (feq (by decide : ¬ ((1 : Int32) = (0 : Int32)))).2) (by decide) (by decide) ?_
            show oS T12 (mkF m 86 #[oa r0, oi (Int32.ofNat fn), oi (Int32.ofNat tn), oi (Int32.ofNat i), oi ((own_u5 ua ub uc ud ue).getD i 0), oi 1] []) _
            refine XS.iinc X12.here hx rfl (hb hby d9_86) rfl (l' := #[oa r0, oi (Int32.ofNat fn), oi (Int32.ofNat tn), oi ((Int32.ofNat i) + (1 : Int32)), oi ((own_u5 ua ub uc ud ue).getD i 0), oi 1]) rfl ?_
            show oS T12 (mkF m 89 #[oa r0, oi (Int32.ofNat fn), oi (Int32.ofNat tn), oi ((Int32.ofNat i) + (1 : Int32)), oi ((own_u5 ua ub uc ud ue).getD i 0), oi 1] []) _
            refine XS.goto X12.here hx rfl (pc0 := 89) (pc' := 2) rfl (hb hby d9_89) (by decide) (by decide) ?_
            exact kt
          exact ⟨T12, _, h0, X12, e12, N12, (Keep.refl h0 []), rfl, fun t kt => c2 _ (c4 _ (st3 _ (c5 _ (st7.trans (c8 _ (c9 _ (st10 _ (c11 _ (st12 _ (c13 _ (c15 _ (c16 _ (kt)))))))))))))⟩
        · -- it isn't
          have c17 : own_G p e below T12 (mkF m 2 #[oa r0, oi (Int32.ofNat fn), oi (Int32.ofNat tn), oi ((Int32.ofNat i) + (1 : Int32)), oi ((own_u5 ua ub uc ud ue).getD i 0), oi 1] []) (mkF m 49 #[oa r0, oi (Int32.ofNat fn), oi (Int32.ofNat tn), oi (Int32.ofNat i), oi ((own_u5 ua ub uc ud ue).getD i 0), o5] [(.int (45 : Int32)), (.int ((own_u5 ua ub uc ud ue).getD i 0))]) := by
            intro t kt
            show oS T12 (mkF m 49 #[oa r0, oi (Int32.ofNat fn), oi (Int32.ofNat tn), oi (Int32.ofNat i), oi ((own_u5 ua ub uc ud ue).getD i 0), o5] [(.int (45 : Int32)), (.int ((own_u5 ua ub uc ud ue).getD i 0))]) _
            refine XS.icmpNo X12.here hx rfl (hb hby d9_49) rfl (feq hc49).1 ?_
            show oS T12 (mkF m 52 #[oa r0, oi (Int32.ofNat fn), oi (Int32.ofNat tn), oi (Int32.ofNat i), oi ((own_u5 ua ub uc ud ue).getD i 0), o5] []) _
            refine XS.iload X12.here hx rfl (hb hby d9_52) rfl ?_
            show oS T12 (mkF m 54 #[oa r0, oi (Int32.ofNat fn), oi (Int32.ofNat tn), oi (Int32.ofNat i), oi ((own_u5 ua ub uc ud ue).getD i 0), o5] [(.int ((own_u5 ua ub uc ud ue).getD i 0))]) _
            refine XS.bipush X12.here hx rfl (hb hby d9_54) ?_
            show oS T12 (mkF m 56 #[oa r0, oi (Int32.ofNat fn), oi (Int32.ofNat tn), oi (Int32.ofNat i), oi ((own_u5 ua ub uc ud ue).getD i 0), o5] [(.int (46 : Int32)), (.int ((own_u5 ua ub uc ud ue).getD i 0))]) _
            refine XS.icmpNo X12.here hx rfl (hb hby d9_56) rfl (teq ((((hok.resolve_left (fun q => q hc22)).2.resolve_left (fun q => q hc35)).resolve_left hc42).resolve_left hc49)).2 ?_
            show oS T12 (mkF m 59 #[oa r0, oi (Int32.ofNat fn), oi (Int32.ofNat tn), oi (Int32.ofNat i), oi ((own_u5 ua ub uc ud ue).getD i 0), o5] []) _
            refine XS.iconst X12.here hx rfl (hb hby d9_59) ?_
            show oS T12 (mkF m 60 #[oa r0, oi (Int32.ofNat fn), oi (Int32.ofNat tn), oi (Int32.ofNat i), oi ((own_u5 ua ub uc ud ue).getD i 0), o5] [(.int (1 : Int32))]) _
            refine XS.goto X12.here hx rfl (pc0 := 60) (pc' := 64) rfl (hb hby d9_60) (by decide) (by decide) ?_
            show oS T12 (mkF m 64 #[oa r0, oi (Int32.ofNat fn), oi (Int32.ofNat tn), oi (Int32.ofNat i), oi ((own_u5 ua ub uc ud ue).getD i 0), o5] [(.int (1 : Int32))]) _
            refine XS.istore X12.here hx rfl (hb hby d9_64) rfl (l' := #[oa r0, oi (Int32.ofNat fn), oi (Int32.ofNat tn), oi (Int32.ofNat i), oi ((own_u5 ua ub uc ud ue).getD i 0), oi 1]) (own_st5 h_o5) ?_
            show oS T12 (mkF m 66 #[oa r0, oi (Int32.ofNat fn), oi (Int32.ofNat tn), oi (Int32.ofNat i), oi ((own_u5 ua ub uc ud ue).getD i 0), oi 1] []) _
            refine XS.iload X12.here hx rfl (hb hby d9_66) rfl ?_
            show oS T12 (mkF m 68 #[oa r0, oi (Int32.ofNat fn), oi (Int32.ofNat tn), oi (Int32.ofNat i), oi ((own_u5 ua ub uc ud ue).getD i 0), oi 1] [(.int (1 : Int32))]) _
            refine XS.ifYes X12.here hx rfl (pc0 := 68) (pc' := 86) rfl (hb hby d9_68) rfl ((if0 _ _).trans (feq (by decide : ¬ ((1 : Int32) = (0 : Int32)))).2) (by decide) (by decide) ?_
            show oS T12 (mkF m 86 #[oa r0, oi (Int32.ofNat fn), oi (Int32.ofNat tn), oi (Int32.ofNat i), oi ((own_u5 ua ub uc ud ue).getD i 0), oi 1] []) _
            refine XS.iinc X12.here hx rfl (hb hby d9_86) rfl (l' := #[oa r0, oi (Int32.ofNat fn), oi (Int32.ofNat tn), oi ((Int32.ofNat i) + (1 : Int32)), oi ((own_u5 ua ub uc ud ue).getD i 0), oi 1]) rfl ?_
            show oS T12 (mkF m 89 #[oa r0, oi (Int32.ofNat fn), oi (Int32.ofNat tn), oi ((Int32.ofNat i) + (1 : Int32)), oi ((own_u5 ua ub uc ud ue).getD i 0), oi 1] []) _
            refine XS.goto X12.here hx rfl (pc0 := 89) (pc' := 2) rfl (hb hby d9_89) (by decide) (by decide) ?_
            exact kt
          exact ⟨T12, _, h0, X12, e12, N12, (Keep.refl h0 []), rfl, fun t kt => c2 _ (c4 _ (st3 _ (c5 _ (st7.trans (c8 _ (c9 _ (st10 _ (c11 _ (st12 _ (c13 _ (c15 _ (c17 _ (kt)))))))))))))⟩
    · -- it isn't
      have c18 : own_G p e below T12 (mkF m 2 #[oa r0, oi (Int32.ofNat fn), oi (Int32.ofNat tn), oi ((Int32.ofNat i) + (1 : Int32)), oi ((own_u5 ua ub uc ud ue).getD i 0), oi 1] []) (mkF m 35 #[oa r0, oi (Int32.ofNat fn), oi (Int32.ofNat tn), oi (Int32.ofNat i), oi ((own_u5 ua ub uc ud ue).getD i 0), o5] [(.int (own_dgt ((own_u5 ua ub uc ud ue).getD i 0)))]) := by
        intro t kt
        show oS T12 (mkF m 35 #[oa r0, oi (Int32.ofNat fn), oi (Int32.ofNat tn), oi (Int32.ofNat i), oi ((own_u5 ua ub uc ud ue).getD i 0), o5] [(.int (own_dgt ((own_u5 ua ub uc ud ue).getD i 0)))]) _
        refine XS.ifYes X12.here hx rfl (pc0 := 35) (pc' := 59) rfl (hb hby d9_35) rfl ((if0 _ _).trans (feq hc35).2) (by decide) (by decide) ?_
        show oS T12 (mkF m 59 #[oa r0, oi (Int32.ofNat fn), oi (Int32.ofNat tn), oi (Int32.ofNat i), oi ((own_u5 ua ub uc ud ue).getD i 0), o5] []) _
        refine XS.iconst X12.here hx rfl (hb hby d9_59) ?_
        show oS T12 (mkF m 60 #[oa r0, oi (Int32.ofNat fn), oi (Int32.ofNat tn), oi (Int32.ofNat i), oi ((own_u5 ua ub uc ud ue).getD i 0), o5] [(.int (1 : Int32))]) _
        refine XS.goto X12.here hx rfl (pc0 := 60) (pc' := 64) rfl (hb hby d9_60) (by decide) (by decide) ?_
        show oS T12 (mkF m 64 #[oa r0, oi (Int32.ofNat fn), oi (Int32.ofNat tn), oi (Int32.ofNat i), oi ((own_u5 ua ub uc ud ue).getD i 0), o5] [(.int (1 : Int32))]) _
        refine XS.istore X12.here hx rfl (hb hby d9_64) rfl (l' := #[oa r0, oi (Int32.ofNat fn), oi (Int32.ofNat tn), oi (Int32.ofNat i), oi ((own_u5 ua ub uc ud ue).getD i 0), oi 1]) (own_st5 h_o5) ?_
        show oS T12 (mkF m 66 #[oa r0, oi (Int32.ofNat fn), oi (Int32.ofNat tn), oi (Int32.ofNat i), oi ((own_u5 ua ub uc ud ue).getD i 0), oi 1] []) _
        refine XS.iload X12.here hx rfl (hb hby d9_66) rfl ?_
        show oS T12 (mkF m 68 #[oa r0, oi (Int32.ofNat fn), oi (Int32.ofNat tn), oi (Int32.ofNat i), oi ((own_u5 ua ub uc ud ue).getD i 0), oi 1] [(.int (1 : Int32))]) _
        refine XS.ifYes X12.here hx rfl (pc0 := 68) (pc' := 86) rfl (hb hby d9_68) rfl ((if0 _ _).trans (feq (by decide : ¬ ((1 : Int32) = (0 : Int32)))).2) (by decide) (by decide) ?_
        show oS T12 (mkF m 86 #[oa r0, oi (Int32.ofNat fn), oi (Int32.ofNat tn), oi (Int32.ofNat i), oi ((own_u5 ua ub uc ud ue).getD i 0), oi 1] []) _
        refine XS.iinc X12.here hx rfl (hb hby d9_86) rfl (l' := #[oa r0, oi (Int32.ofNat fn), oi (Int32.ofNat tn), oi ((Int32.ofNat i) + (1 : Int32)), oi ((own_u5 ua ub uc ud ue).getD i 0), oi 1]) rfl ?_
        show oS T12 (mkF m 89 #[oa r0, oi (Int32.ofNat fn), oi (Int32.ofNat tn), oi ((Int32.ofNat i) + (1 : Int32)), oi ((own_u5 ua ub uc ud ue).getD i 0), oi 1] []) _
        refine XS.goto X12.here hx rfl (pc0 := 89) (pc' := 2) rfl (hb hby d9_89) (by decide) (by decide) ?_
        exact kt
      exact ⟨T12, _, h0, X12, e12, N12, (Keep.refl h0 []), rfl, fun t kt => c2 _ (c4 _ (st3 _ (c5 _ (st7.trans (c8 _ (c9 _ (st10 _ (c11 _ (st12 _ (c18 _ (kt)))))))))))⟩
  · -- it isn't
    have c19 : own_G p e below T10 (mkF m 2 #[oa r0, oi (Int32.ofNat fn), oi (Int32.ofNat tn), oi ((Int32.ofNat i) + (1 : Int32)), oi ((own_u5 ua ub uc ud ue).getD i 0), oi 1] []) (mkF m 22 #[oa r0, oi (Int32.ofNat fn), oi (Int32.ofNat tn), oi (Int32.ofNat i), oi ((own_u5 ua ub uc ud ue).getD i 0), o5] [(.int (own_let ((own_u5 ua ub uc ud ue).getD i 0)))]) := by
      intro t kt
      show oS T10 (mkF m 22 #[oa r0, oi (Int32.ofNat fn), oi (Int32.ofNat tn), oi (Int32.ofNat i), oi ((own_u5 ua ub uc ud ue).getD i 0), o5] [(.int (own_let ((own_u5 ua ub uc ud ue).getD i 0)))]) _
      refine XS.ifYes X10.here hx rfl (pc0 := 22) (pc' := 59) rfl (hb hby d9_22) rfl ((if0 _ _).trans (feq hc22).2) (by decide) (by decide) ?_
      show oS T10 (mkF m 59 #[oa r0, oi (Int32.ofNat fn), oi (Int32.ofNat tn), oi (Int32.ofNat i), oi ((own_u5 ua ub uc ud ue).getD i 0), o5] []) _
      refine XS.iconst X10.here hx rfl (hb hby d9_59) ?_
      show oS T10 (mkF m 60 #[oa r0, oi (Int32.ofNat fn), oi (Int32.ofNat tn), oi (Int32.ofNat i), oi ((own_u5 ua ub uc ud ue).getD i 0), o5] [(.int (1 : Int32))]) _
      refine XS.goto X10.here hx rfl (pc0 := 60) (pc' := 64) rfl (hb hby d9_60) (by decide) (by decide) ?_
      show oS T10 (mkF m 64 #[oa r0, oi (Int32.ofNat fn), oi (Int32.ofNat tn), oi (Int32.ofNat i), oi ((own_u5 ua ub uc ud ue).getD i 0), o5] [(.int (1 : Int32))]) _
      refine XS.istore X10.here hx rfl (hb hby d9_64) rfl (l' := #[oa r0, oi (Int32.ofNat fn), oi (Int32.ofNat tn), oi (Int32.ofNat i), oi ((own_u5 ua ub uc ud ue).getD i 0), oi 1]) (own_st5 h_o5) ?_
      show oS T10 (mkF m 66 #[oa r0, oi (Int32.ofNat fn), oi (Int32.ofNat tn), oi (Int32.ofNat i), oi ((own_u5 ua ub uc ud ue).getD i 0), oi 1] []) _
      refine XS.iload X10.here hx rfl (hb hby d9_66) rfl ?_
      show oS T10 (mkF m 68 #[oa r0, oi (Int32.ofNat fn), oi (Int32.ofNat tn), oi (Int32.ofNat i), oi ((own_u5 ua ub uc ud ue).getD i 0), oi 1] [(.int (1 : Int32))]) _
      refine XS.ifYes X10.here hx rfl (pc0 := 68) (pc' := 86) rfl (hb hby d9_68) rfl ((if0 _ _).trans (feq (by decide : ¬ ((1 : Int32) = (0 : Int32)))).2) (by decide) (by decide) ?_
      show oS T10 (mkF m 86 #[oa r0, oi (Int32.ofNat fn), oi (Int32.ofNat tn), oi (Int32.ofNat i), oi ((own_u5 ua ub uc ud ue).getD i 0), oi 1] []) _
      refine XS.iinc X10.here hx rfl (hb hby d9_86) rfl (l' := #[oa r0, oi (Int32.ofNat fn), oi (Int32.ofNat tn), oi ((Int32.ofNat i) + (1 : Int32)), oi ((own_u5 ua ub uc ud ue).getD i 0), oi 1]) rfl ?_
      show oS T10 (mkF m 89 #[oa r0, oi (Int32.ofNat fn), oi (Int32.ofNat tn), oi ((Int32.ofNat i) + (1 : Int32)), oi ((own_u5 ua ub uc ud ue).getD i 0), oi 1] []) _
      refine XS.goto X10.here hx rfl (pc0 := 89) (pc' := 2) rfl (hb hby d9_89) (by decide) (by decide) ?_
      exact kt
    exact ⟨T10, _, h0, X10, e10, N10, (Keep.refl h0 []), rfl, fun t kt => c2 _ (c4 _ (st3 _ (c5 _ (st7.trans (c8 _ (c9 _ (st10 _ (c19 _ (kt)))))))))⟩
set_option maxRecDepth 65536 in
set_option maxHeartbeats 40000000 in
theorem tcea {p : Program} {l : Launch} {e : Env} {s : State} {m : MethodId} {args : Array Value} {below : List Frame} {meth : Method} {c : Code} {T0 : State} {locs : List Loc} {Z : State} {a0 : Array Value} {h0 : Heap} {n0 : Nat} (r0 sa rb : Addr) (kb : ClassId) (ua ub uc ud ue : Int32) (i fn tn : Nat) (cs : Int32) (fm : Value) (o4 o5 : Slot)
    (X0 : Stand p l e ({ frames := 6, cells := 0, slots := 0, locals := 90 } : Room) s m args below meth c T0 locs 0 0) (hx : p.tables.exec = Jvm.exec) (hZ : Z.Warmed39 s.vm) (hw : ∀ d ∈ tables_1, d.before a0 Z = true) (hby : c.code = prog_57_method_2_code) (hml : c.maxLocals = 6) (hown : s.vm.findClass "com/example/href/href/uri/IriSyntax" = some m.cls) (e0 : T0.heap = h0) (N0 : Fr n0 locs) (Z0 : n0 ≤ h0.size) (Ei : Exa Z h0 r0 "com/example/href/href/uri/IriSyntax") (Fi : Fld Z h0 r0 "com/example/href/href/uri/IriSyntax" "input" "Ljava/lang/String;" (.ref sa)) (E0 : Exa Z h0 sa "java/lang/String") (F0 : Fld Z h0 sa "java/lang/String" "value" "[B" (.ref rb)) (C0 : Fld Z h0 sa "java/lang/String" "coder" "B" (.int (0 : Int32))) (V0 : Arv Z h0 rb kb .byte (5 : Int32) [(.int (own_bb ua)), (.int (own_bb ub)), (.int (own_bb uc)), (.int (own_bb ud)), (.int (own_bb ue))] (.int 0)) (SF : Sta Z h0 "jdk/internal/util/Preconditions" "SIOOBE_FORMATTER" "Ljava/util/function/BiFunction;" fm) (hfm : fm.isRef = true) (SC : Sta Z h0 "java/lang/String" "COMPACT_STRINGS" "Z" (.int cs)) (hcs : ¬ cs = (0 : Int32)) (SA : Sta Z h0 "java/lang/StringUTF16" "$assertionsDisabled" "Z" (.int (1 : Int32))) (SH : Sta Z h0 "java/lang/StringUTF16" "HI_BYTE_SHIFT" "I" (.int (0 : Int32))) (SL : Sta Z h0 "java/lang/StringUTF16" "LO_BYTE_SHIFT" "I" (.int (8 : Int32))) (hall : own_all ua ub uc ud ue) (hru : own_ru ua ub uc ud ue) (ht : i = tn) (h5 : tn ≤ 5) :
    ∃ (T' : State) (locs' : List Loc) (h' : Heap), Stand p l e ({ frames := 6, cells := 0, slots := 0, locals := 90 } : Room) s m args below meth c T' locs' 0 0 ∧ T'.heap = h' ∧ Fr n0 locs' ∧ Keep h0 h' [] ∧ h' = h0 ∧ ∀ t, own_S p e below T' (mkF m 92 #[oa r0, oi (Int32.ofNat fn), oi (Int32.ofNat tn), oi (Int32.ofNat i), o4, o5] []) t → own_S p e below T0 (mkF m 2 #[oa r0, oi (Int32.ofNat fn), oi (Int32.ofNat tn), oi (Int32.ofNat i), o4, o5] []) t := by
  have c2 : own_G p e below T0 (mkF m 4 #[oa r0, oi (Int32.ofNat fn), oi (Int32.ofNat tn), oi (Int32.ofNat i), o4, o5] [(.int (Int32.ofNat tn)), (.int (Int32.ofNat i))]) (mkF m 2 #[oa r0, oi (Int32.ofNat fn), oi (Int32.ofNat tn), oi (Int32.ofNat i), o4, o5] []) := by
    intro t kt
    show oS T0 (mkF m 2 #[oa r0, oi (Int32.ofNat fn), oi (Int32.ofNat tn), oi (Int32.ofNat i), o4, o5] []) _
    refine XS.iloadN X0.here hx rfl (hb hby d9_2) rfl ?_
    show oS T0 (mkF m 3 #[oa r0, oi (Int32.ofNat fn), oi (Int32.ofNat tn), oi (Int32.ofNat i), o4, o5] [(.int (Int32.ofNat i))]) _
    refine XS.iloadN X0.here hx rfl (hb hby d9_3) rfl ?_
    exact kt
  have hd1 : ¬ ((Int32.ofNat i) < (Int32.ofNat tn)) := by rw [own_lt i tn (by omega) (by omega)]; omega
  have c3 : own_G p e below T0 (mkF m 92 #[oa r0, oi (Int32.ofNat fn), oi (Int32.ofNat tn), oi (Int32.ofNat i), o4, o5] []) (mkF m 4 #[oa r0, oi (Int32.ofNat fn), oi (Int32.ofNat tn), oi (Int32.ofNat i), o4, o5] [(.int (Int32.ofNat tn)), (.int (Int32.ofNat i))]) := by
    intro t kt
    show oS T0 (mkF m 4 #[oa r0, oi (Int32.ofNat fn), oi (Int32.ofNat tn), oi (Int32.ofNat i), o4, o5] [(.int (Int32.ofNat tn)), (.int (Int32.ofNat i))]) _
    refine XS.icmpYes X0.here hx rfl (pc0 := 4) (pc' := 92) rfl (hb hby d9_4) rfl (flt hd1).2.1 (by decide) (by decide) ?_
    exact kt
  exact ⟨T0, _, h0, X0, e0, N0, (Keep.refl h0 []), rfl, fun t kt => c2 _ (c3 _ (kt))⟩
set_option maxRecDepth 65536 in
set_option maxHeartbeats 40000000 in
theorem lcka {p : Program} {l : Launch} {e : Env} {s : State} {m : MethodId} {args : Array Value} {below : List Frame} {meth : Method} {c : Code} {Z : State} {a0 : Array Value} {n0 : Nat} (r0 sa rb : Addr) (kb : ClassId) (ua ub uc ud ue : Int32) (fn tn : Nat) (cs : Int32) (fm : Value) (h0 : Heap) (hx : p.tables.exec = Jvm.exec) (hZ : Z.Warmed39 s.vm) (hw : ∀ d ∈ tables_1, d.before a0 Z = true) (hby : c.code = prog_57_method_2_code) (hml : c.maxLocals = 6) (hown : s.vm.findClass "com/example/href/href/uri/IriSyntax" = some m.cls) (Z0 : n0 ≤ h0.size) (Ei : Exa Z h0 r0 "com/example/href/href/uri/IriSyntax") (Fi : Fld Z h0 r0 "com/example/href/href/uri/IriSyntax" "input" "Ljava/lang/String;" (.ref sa)) (E0 : Exa Z h0 sa "java/lang/String") (F0 : Fld Z h0 sa "java/lang/String" "value" "[B" (.ref rb)) (C0 : Fld Z h0 sa "java/lang/String" "coder" "B" (.int (0 : Int32))) (V0 : Arv Z h0 rb kb .byte (5 : Int32) [(.int (own_bb ua)), (.int (own_bb ub)), (.int (own_bb uc)), (.int (own_bb ud)), (.int (own_bb ue))] (.int 0)) (SF : Sta Z h0 "jdk/internal/util/Preconditions" "SIOOBE_FORMATTER" "Ljava/util/function/BiFunction;" fm) (hfm : fm.isRef = true) (SC : Sta Z h0 "java/lang/String" "COMPACT_STRINGS" "Z" (.int cs)) (hcs : ¬ cs = (0 : Int32)) (SA : Sta Z h0 "java/lang/StringUTF16" "$assertionsDisabled" "Z" (.int (1 : Int32))) (SH : Sta Z h0 "java/lang/StringUTF16" "HI_BYTE_SHIFT" "I" (.int (0 : Int32))) (SL : Sta Z h0 "java/lang/StringUTF16" "LO_BYTE_SHIFT" "I" (.int (8 : Int32))) (hall : own_all ua ub uc ud ue) (hru : own_ru ua ub uc ud ue) (h5 : tn ≤ 5) (hok : ∀ i, fn ≤ i → i < tn → own_ok (Int32.ofNat fn) (Int32.ofNat i) ((own_u5 ua ub uc ud ue).getD i 0)) :
    ∀ (k i : Nat), i + k = tn → fn ≤ i → ∀ (T0 : State) (locs : List Loc) (o4 o5 : Slot), own_sl o4 → own_sl o5 → Stand p l e ({ frames := 6, cells := 0, slots := 0, locals := 90 } : Room) s m args below meth c T0 locs 0 0 → T0.heap = h0 → Fr n0 locs →
      ∃ (T' : State) (locs' : List Loc) (o4' o5' : Slot), Stand p l e ({ frames := 6, cells := 0, slots := 0, locals := 90 } : Room) s m args below meth c T' locs' 0 0 ∧ T'.heap = h0 ∧ Fr n0 locs' ∧ ∀ t, Steps p.tables e below (T'.setTop (mkF m 92 #[.val (.ref r0), .val (.int (Int32.ofNat fn)), .val (.int (Int32.ofNat tn)), .val (.int (Int32.ofNat tn)), o4', o5'] [])) t → Steps p.tables e below (T0.setTop (mkF m 2 #[.val (.ref r0), .val (.int (Int32.ofNat fn)), .val (.int (Int32.ofNat tn)), .val (.int (Int32.ofNat i)), o4, o5] [])) t := by
  intro k
  induction k with
  | zero =>
    intro i hk hf T0 locs o4 o5 h4 h5' X e0 N
    obtain rfl : i = tn := by omega
    obtain ⟨T1, l1, h1, X1, e1, N1, K1, q1, s1⟩ := tcea r0 sa rb kb ua ub uc ud ue i fn i cs fm o4 o5 X hx hZ hw hby hml hown e0 N Z0 Ei Fi E0 F0 C0 V0 SF hfm SC hcs SA SH SL hall hru rfl h5
    subst q1
    exact ⟨T1, l1, o4, o5, X1, e1, N1, s1⟩
  | succ k ih =>
    intro i hk hf T0 locs o4 o5 h4 h5' X e0 N
    obtain ⟨T1, l1, h1, X1, e1, N1, K1, q1, s1⟩ := tcka r0 sa rb kb ua ub uc ud ue i fn tn cs fm o4 o5 X hx hZ hw hby hml hown e0 N Z0 Ei Fi E0 F0 C0 V0 SF hfm SC hcs SA SH SL hall hru h4 h5' (by omega) (by omega) h5 (hok i hf (by omega))
    subst q1
    obtain ⟨T2, l2, a4, a5, X2, e2, N2, s2⟩ := ih (i + 1) (by omega) (by omega) T1 l1 _ _ (Or.inr ⟨_, rfl⟩) (Or.inr ⟨_, rfl⟩) X1 e1 N1
    refine ⟨T2, l2, a4, a5, X2, e2, N2, fun t kt => s1 t ?_⟩
    rw [own_up i (by omega)]
    exact s2 t kt
theorem d9_0 : decode prog_57_method_2_code 0 = .ok (.iload_n 1, 1) := by decide +kernel
theorem d9_1 : decode prog_57_method_2_code 1 = .ok (.istore_n 3, 1) := by decide +kernel
theorem d9_92 : decode prog_57_method_2_code 92 = .ok (.return_, 1) := by decide +kernel
theorem pn_9 : plainName "com/example/href/href/uri/IriSyntax" = true := by first | (simp [plainName, overriddenIn]; done) | decide +kernel
theorem ef_9 (m : MethodId) (x0 : Addr) (x1 : Int32) (x2 : Int32) : entryFrame m #[(.ref x0), (.int x1), (.int x2)] 6 = mkF m 0 #[.val (.ref x0), .val (.int x1), .val (.int x2), .unset, .unset, .unset] [] := by first | (simp [entryFrame, mkF, argsToLocals, Value.category]; done) | rfl
def Q9a (Z : State) (r0 : Addr) (sa rb : Addr) (kb : ClassId) (ua ub uc ud ue : Int32) (fn tn : Nat) (cs : Int32) (fm : Value) (h0 : Heap) (n0 : Nat) (v : Option Value) (h : Heap) (L : List Loc) : Prop := v = none ∧ Fr n0 L ∧ h = h0
set_option maxRecDepth 65536 in
set_option maxHeartbeats 40000000 in
theorem rm9a (l : Launch) (Z : State) (a0 : Array Value) (hw : ∀ d ∈ tables_1, d.before a0 Z = true) (ws : List Jvm.Cond) (r0 : Addr) (sa rb : Addr) (kb : ClassId) (ua ub uc ud ue : Int32) (fn tn : Nat) (cs : Int32) (fm : Value) (h0 : Heap) (n0 : Nat) (Z0 : n0 ≤ h0.size) (Ei : Exa Z h0 r0 "com/example/href/href/uri/IriSyntax") (Fi : Fld Z h0 r0 "com/example/href/href/uri/IriSyntax" "input" "Ljava/lang/String;" (.ref sa)) (E0 : Exa Z h0 sa "java/lang/String") (F0 : Fld Z h0 sa "java/lang/String" "value" "[B" (.ref rb)) (C0 : Fld Z h0 sa "java/lang/String" "coder" "B" (.int (0 : Int32))) (V0 : Arv Z h0 rb kb .byte (5 : Int32) [(.int (own_bb ua)), (.int (own_bb ub)), (.int (own_bb uc)), (.int (own_bb ud)), (.int (own_bb ue))] (.int 0)) (SF : Sta Z h0 "jdk/internal/util/Preconditions" "SIOOBE_FORMATTER" "Ljava/util/function/BiFunction;" fm) (hfm : fm.isRef = true) (SC : Sta Z h0 "java/lang/String" "COMPACT_STRINGS" "Z" (.int cs)) (hcs : ¬ cs = (0 : Int32)) (SA : Sta Z h0 "java/lang/StringUTF16" "$assertionsDisabled" "Z" (.int (1 : Int32))) (SH : Sta Z h0 "java/lang/StringUTF16" "HI_BYTE_SHIFT" "I" (.int (0 : Int32))) (SL : Sta Z h0 "java/lang/StringUTF16" "LO_BYTE_SHIFT" "I" (.int (8 : Int32))) (hall : own_all ua ub uc ud ue) (hru : own_ru ua ub uc ud ue) (hft : fn ≤ tn) (h5 : tn ≤ 5) (hok : ∀ i, fn ≤ i → i < tn → own_ok (Int32.ofNat fn) (Int32.ofNat i) ((own_u5 ua ub uc ud ue).getD i 0)) :
    MetFree l yy_20 (head1 (Jvm.Cond.code yy_20 prog_57_method_2_code 6 none :: ws) ({ frames := 6, cells := 0, slots := 0, locals := 90 } : Room)) (fun a U => a = #[(.ref r0), (.int (Int32.ofNat fn)), (.int (Int32.ofNat tn))] ∧ Z.Warmed39 U.vm ∧ U.heap = h0) (fun _ _ _ _ _ => True) (fun _ U o U' => ∃ v L, o = .returned v ∧ Q9a Z r0 sa rb kb ua ub uc ud ue fn tn cs fm h0 n0 v U'.heap L ∧ FrameEnd U o U' L ({ frames := 6, cells := 0, slots := 0, locals := 90 } : Room).cells ({ frames := 6, cells := 0, slots := 0, locals := 90 } : Room).slots) := by
  refine MetFree.of_bodySF (plainFor_of_name pn_9) hisR ?_
  intro p e s m args below meth c s₁ Bd hml0 hP hK
  obtain ⟨rfl, hZ, hh⟩ := hP
  have hx := Bd.exec
  have hby := Bd.bytes
  have hml : c.maxLocals = 6 := hml0
  have hown : s.vm.findClass "com/example/href/href/uri/IriSyntax" = some m.cls := findClass_of_methodNamed Bd.named
  have hnm := (name_of_methodNamed Bd.named Bd.method).1
  have X0 : Stand p l e ({ frames := 6, cells := 0, slots := 0, locals := 90 } : Room) s m #[(.ref r0), (.int (Int32.ofNat fn)), (.int (Int32.ofNat tn))] below meth c s₁ [] 0 0 := Stand.of_body Bd
  have e0 : s₁.heap = h0 := by rw [← hh, Bd.state]; rfl
  have N0 := Fr.nil n0
  have pre0 : ∀ t, Steps p.tables e below (s₁.setTop (mkF m 0 #[oa r0, oi (Int32.ofNat fn), oi (Int32.ofNat tn), .unset, .unset, .unset] [])) t → Steps p.tables e below (s₁.setTop (entryFrame m #[(.ref r0), (.int (Int32.ofNat fn)), (.int (Int32.ofNat tn))] 6)) t := fun t k => castTop (ef_9 m r0 (Int32.ofNat fn) (Int32.ofNat tn)) k
  have c1 : own_G p e below s₁ (mkF m 2 #[oa r0, oi (Int32.ofNat fn), oi (Int32.ofNat tn), oi (Int32.ofNat fn), .unset, .unset] []) (mkF m 0 #[oa r0, oi (Int32.ofNat fn), oi (Int32.ofNat tn), .unset, .unset, .unset] []) := by
    intro t kt
    show oS s₁ (mkF m 0 #[oa r0, oi (Int32.ofNat fn), oi (Int32.ofNat tn), .unset, .unset, .unset] []) _
    refine XS.iloadN X0.here hx rfl (hb hby d9_0) rfl ?_
    show oS s₁ (mkF m 1 #[oa r0, oi (Int32.ofNat fn), oi (Int32.ofNat tn), .unset, .unset, .unset] [(.int (Int32.ofNat fn))]) _
    refine XS.istoreN X0.here hx rfl (hb hby d9_1) rfl (l' := #[oa r0, oi (Int32.ofNat fn), oi (Int32.ofNat tn), oi (Int32.ofNat fn), .unset, .unset]) rfl ?_
    exact kt
  obtain ⟨T2, L2, o4, o5, X2, e2, N2, st2⟩ := lcka r0 sa rb kb ua ub uc ud ue fn tn cs fm h0 hx hZ hw hby hml hown Z0 Ei Fi E0 F0 C0 V0 SF hfm SC hcs SA SH SL hall hru h5 hok (tn - fn) fn (by omega) (Nat.le_refl _) s₁ _ .unset .unset (Or.inl rfl) (Or.inl rfl) X0 e0 N0
  obtain ⟨fs, hr, hrun, hended, hW, hsame⟩ := X2.leave (v := none) (fun _ => rfl)
  refine ⟨_, _, pre0 _ (c1 _ (st2 _ (?_))), hrun, hended, _, _, rfl, ?_, ⟨_, rfl⟩, hW, hsame.mono (by decide) (by decide)⟩
  · show Steps p.tables e below (T2.setTop (mkF m 92 #[oa r0, oi (Int32.ofNat fn), oi (Int32.ofNat tn), oi (Int32.ofNat tn), o4, o5] [])) _
    exact X2.returnOut hx Bd.returns (hb hby d9_92) hr
  · show Q9a Z r0 sa rb kb ua ub uc ud ue fn tn cs fm h0 n0 _ T2.heap _
    rw [e2]
    exact ⟨rfl, N2, rfl⟩
set_option maxRecDepth 65536 in
set_option maxHeartbeats 40000000 in
theorem tckb {p : Program} {l : Launch} {e : Env} {s : State} {m : MethodId} {args : Array Value} {below : List Frame} {meth : Method} {c : Code} {T0 : State} {locs : List Loc} {Z : State} {a0 : Array Value} {h0 : Heap} {n0 : Nat} (r0 sa rb : Addr) (kb : ClassId) (ua ub uc ud ue : Int32) (i fn tn : Nat) (cs : Int32) (fm : Value) (o4 o5 : Slot)
    (X0 : Stand p l e ({ frames := 6, cells := 0, slots := 0, locals := 90 } : Room) s m args below meth c T0 locs 0 0) (hx : p.tables.exec = Jvm.exec) (hZ : Z.Warmed39 s.vm) (hw : ∀ d ∈ tables_1, d.before a0 Z = true) (hby : c.code = prog_57_method_2_code) (hml : c.maxLocals = 6) (hown : s.vm.findClass "com/example/href/href/uri/IriSyntax" = some m.cls) (e0 : T0.heap = h0) (N0 : Fr n0 locs) (Z0 : n0 ≤ h0.size) (Ei : Exa Z h0 r0 "com/example/href/href/uri/IriSyntax") (Fi : Fld Z h0 r0 "com/example/href/href/uri/IriSyntax" "input" "Ljava/lang/String;" (.ref sa)) (E0 : Exa Z h0 sa "java/lang/String") (F0 : Fld Z h0 sa "java/lang/String" "value" "[B" (.ref rb)) (C0 : Fld Z h0 sa "java/lang/String" "coder" "B" (.int (1 : Int32))) (V0 : Arv Z h0 rb kb .byte (10 : Int32) [(.int (own_lo ua)), (.int (own_hi ua)), (.int (own_lo ub)), (.int (own_hi ub)), (.int (own_lo uc)), (.int (own_hi uc)), (.int (own_lo ud)), (.int (own_hi ud)), (.int (own_lo ue)), (.int (own_hi ue))] (.int 0)) (SF : Sta Z h0 "jdk/internal/util/Preconditions" "SIOOBE_FORMATTER" "Ljava/util/function/BiFunction;" fm) (hfm : fm.isRef = true) (SC : Sta Z h0 "java/lang/String" "COMPACT_STRINGS" "Z" (.int cs)) (hcs : ¬ cs = (0 : Int32)) (SA : Sta Z h0 "java/lang/StringUTF16" "$assertionsDisabled" "Z" (.int (1 : Int32))) (SH : Sta Z h0 "java/lang/StringUTF16" "HI_BYTE_SHIFT" "I" (.int (0 : Int32))) (SL : Sta Z h0 "java/lang/StringUTF16" "LO_BYTE_SHIFT" "I" (.int (8 : Int32))) (hru : own_ru ua ub uc ud ue) (h_o4 : own_sl o4) (h_o5 : own_sl o5) (hi : i < 5) (ht : i < tn) (h5 : tn ≤ 5) (hok : own_ok (Int32.ofNat fn) (Int32.ofNat i) ((own_u5 ua ub uc ud ue).getD i 0)) :
    ∃ (T' : State) (locs' : List Loc) (h' : Heap), Stand p l e ({ frames := 6, cells := 0, slots := 0, locals := 90 } : Room) s m args below meth c T' locs' 0 0 ∧ T'.heap = h' ∧ Fr n0 locs' ∧ Keep h0 h' [] ∧ h' = h0 ∧ ∀ t, own_S p e below T' (mkF m 2 #[oa r0, oi (Int32.ofNat fn), oi (Int32.ofNat tn), oi ((Int32.ofNat i) + (1 : Int32)), oi ((own_u5 ua ub uc ud ue).getD i 0), oi 1] []) t → own_S p e below T0 (mkF m 2 #[oa r0, oi (Int32.ofNat fn), oi (Int32.ofNat tn), oi (Int32.ofNat i), o4, o5] []) t := by
  have c2 : own_G p e below T0 (mkF m 4 #[oa r0, oi (Int32.ofNat fn), oi (Int32.ofNat tn), oi (Int32.ofNat i), o4, o5] [(.int (Int32.ofNat tn)), (.int (Int32.ofNat i))]) (mkF m 2 #[oa r0, oi (Int32.ofNat fn), oi (Int32.ofNat tn), oi (Int32.ofNat i), o4, o5] []) := by
    intro t kt
    show oS T0 (mkF m 2 #[oa r0, oi (Int32.ofNat fn), oi (Int32.ofNat tn), oi (Int32.ofNat i), o4, o5] []) _
    refine XS.iloadN X0.here hx rfl (hb hby d9_2) rfl ?_
    show oS T0 (mkF m 3 #[oa r0, oi (Int32.ofNat fn), oi (Int32.ofNat tn), oi (Int32.ofNat i), o4, o5] [(.int (Int32.ofNat i))]) _
    refine XS.iloadN X0.here hx rfl (hb hby d9_3) rfl ?_
    exact kt
  have hd1 : (Int32.ofNat i) < (Int32.ofNat tn) := by rw [own_lt i tn (by omega) (by omega)]; exact ht
  have c4 : own_G p e below T0 (mkF m 8 #[oa r0, oi (Int32.ofNat fn), oi (Int32.ofNat tn), oi (Int32.ofNat i), o4, o5] [(.ref r0)]) (mkF m 4 #[oa r0, oi (Int32.ofNat fn), oi (Int32.ofNat tn), oi (Int32.ofNat i), o4, o5] [(.int (Int32.ofNat tn)), (.int (Int32.ofNat i))]) := by
    intro t kt
    show oS T0 (mkF m 4 #[oa r0, oi (Int32.ofNat fn), oi (Int32.ofNat tn), oi (Int32.ofNat i), o4, o5] [(.int (Int32.ofNat tn)), (.int (Int32.ofNat i))]) _
    refine XS.icmpNo X0.here hx rfl (hb hby d9_4) rfl (tlt hd1).2.1 ?_
    show oS T0 (mkF m 7 #[oa r0, oi (Int32.ofNat fn), oi (Int32.ofNat tn), oi (Int32.ofNat i), o4, o5] []) _
    refine XS.aloadN X0.here hx rfl (hb hby d9_7) rfl rfl ?_
    exact kt
  obtain ⟨T3, X3, e3, st3⟩ := getF X0 hx hZ hown (host := "") (Or.inl (own_t hw 42 rfl)) Via.refl e0 Fi (g := (mkF m 8 #[oa r0, oi (Int32.ofNat fn), oi (Int32.ofNat tn), oi (Int32.ofNat i), o4, o5] [(.ref r0)])) rfl rfl (hb hby d9_8)
  have c5 : own_G p e below T3 (mkF m 12 #[oa r0, oi (Int32.ofNat fn), oi (Int32.ofNat tn), oi (Int32.ofNat i), o4, o5] [(.int (Int32.ofNat i)), (.ref sa)]) (mkF m 11 #[oa r0, oi (Int32.ofNat fn), oi (Int32.ofNat tn), oi (Int32.ofNat i), o4, o5] [(.ref sa)]) := by
    intro t kt
    show oS T3 (mkF m 11 #[oa r0, oi (Int32.ofNat fn), oi (Int32.ofNat tn), oi (Int32.ofNat i), o4, o5] [(.ref sa)]) _
    refine XS.iloadN X3.here hx rfl (hb hby d9_11) rfl ?_
    exact kt
  obtain ⟨cq6, kq6, q6a, q6b, q6c⟩ := isOf hZ e3 E0
  obtain ⟨_, _, ⟨T7, L7, k7, n7⟩, -, X7, ⟨Lc7, hQ7, l7, y7, z7⟩, st7⟩ := X3.virtualBack hx (y := yy_4) (z := yy_4) hown (mvT hZ (own_t hw 69 rfl)) (mvT hZ (own_t hw 70 rfl)) (notFace_of_selects (args := #[]) (mvT hZ (own_t hw 72 rfl))) (mvT hZ (own_t hw 72 rfl)) (mvT hZ (own_t hw 71 rfl)) (by decide) (backOf (W := 0) (rm15u l Z a0 hw [] sa (Int32.ofNat i) rb kb [(.int (own_lo ua)), (.int (own_hi ua)), (.int (own_lo ub)), (.int (own_hi ub)), (.int (own_lo uc)), (.int (own_hi uc)), (.int (own_lo ud)), (.int (own_hi ud)), (.int (own_lo ue)), (.int (own_hi ue))] ((own_u5 ua ub uc ud ue).getD i 0) fm cs h0 n0 Z0 E0 F0 V0 (own_in5 i hi) (own_in10 i hi).1 (own_in10 i hi).2 (own_at16 ua ub uc ud ue i hi).1 (own_at16 ua ub uc ud ue i hi).2 (own_rug ua ub uc ud ue hru i hi) SF hfm SC hcs C0 SA SH SL) hZ (own_t hw 73 rfl) (own_t hw 11 rfl) (by decide) (by decide)) q6a q6c (g := (mkF m 12 #[oa r0, oi (Int32.ofNat fn), oi (Int32.ofNat tn), oi (Int32.ofNat i), o4, o5] [(.int (Int32.ofNat i)), (.ref sa)])) rfl (by rw [hml]; rfl) (Steps.refl _) (argsL := [(.int (Int32.ofNat i))]) (rest := []) (lenOf pd_13 rfl) rfl (by show 2 * 0 + _ ≤ _; exact Nat.le_of_eq rfl) (hb hby d9_12) (fun _ _ => ⟨rfl, e3, (by decide : 0 + 0 ≤ _), (by decide : 0 + 0 ≤ _)⟩)
  dsimp only [Pt.U, Pt.locs, Pt.cells, Pt.slots] at X7 l7 y7 z7 st7 hQ7
  subst l7 y7 z7
  obtain ⟨rfl, N7q, e7⟩ := hQ7
  have N7 := Fr.app N0 N7q
  have c8 : own_G p e below T7 (mkF m 19 #[oa r0, oi (Int32.ofNat fn), oi (Int32.ofNat tn), oi (Int32.ofNat i), oi ((own_u5 ua ub uc ud ue).getD i 0), o5] [(.int ((own_u5 ua ub uc ud ue).getD i 0))]) (mkF m 15 #[oa r0, oi (Int32.ofNat fn), oi (Int32.ofNat tn), oi (Int32.ofNat i), o4, o5] [(.int ((own_u5 ua ub uc ud ue).getD i 0))]) := by
    intro t kt
    show oS T7 (mkF m 15 #[oa r0, oi (Int32.ofNat fn), oi (Int32.ofNat tn), oi (Int32.ofNat i), o4, o5] [(.int ((own_u5 ua ub uc ud ue).getD i 0))]) _
    refine XS.istore X7.here hx rfl (hb hby d9_15) rfl (l' := #[oa r0, oi (Int32.ofNat fn), oi (Int32.ofNat tn), oi (Int32.ofNat i), oi ((own_u5 ua ub uc ud ue).getD i 0), o5]) (own_st4 h_o4) ?_
    show oS T7 (mkF m 17 #[oa r0, oi (Int32.ofNat fn), oi (Int32.ofNat tn), oi (Int32.ofNat i), oi ((own_u5 ua ub uc ud ue).getD i 0), o5] []) _
    refine XS.iload X7.here hx rfl (hb hby d9_17) rfl ?_
    exact kt
  obtain ⟨_, _, ⟨T9, L9, k9, n9⟩, -, X9, ⟨Lc9, hQ9, l9, y9, z9⟩, st9⟩ := Jvm.LawKit.callS X7 hx (y := yy_18) hown (mvT hZ (own_t hw 96 rfl)) (mvT hZ (own_t hw 97 rfl)) (mvT hZ (own_t hw 8 rfl)) (mvT hZ (own_t hw 98 rfl)) (by decide) (backOf (W := 0) (rm22 l Z a0 hw [] ((own_u5 ua ub uc ud ue).getD i 0)  h0 n0 Z0 ) hZ (own_t hw 98 rfl) (own_t hw 8 rfl) (by decide) (by decide)) (g := (mkF m 19 #[oa r0, oi (Int32.ofNat fn), oi (Int32.ofNat tn), oi (Int32.ofNat i), oi ((own_u5 ua ub uc ud ue).getD i 0), o5] [(.int ((own_u5 ua ub uc ud ue).getD i 0))])) rfl (by rw [hml]; rfl) (argsL := [(.int ((own_u5 ua ub uc ud ue).getD i 0))]) (rest := []) (lenOf pd_14 rfl) rfl (by show 2 * 0 + _ ≤ _; exact Nat.le_of_eq rfl) (hb hby d9_19) (fun _ _ => ⟨rfl, e7, (by decide : 0 + 0 ≤ _), (by decide : 0 + 0 ≤ _)⟩)
  dsimp only [Pt.U, Pt.locs, Pt.cells, Pt.slots] at X9 l9 y9 z9 st9 hQ9
  subst l9 y9 z9
  obtain ⟨rfl, N9q, e9⟩ := hQ9
  have N9 := Fr.app N7 N9q
  by_cases hc22 : (own_let ((own_u5 ua ub uc ud ue).getD i 0)) = (0 : Int32)
  · -- it is
    have c10 : own_G p e below T9 (mkF m 32 #[oa r0, oi (Int32.ofNat fn), oi (Int32.ofNat tn), oi (Int32.ofNat i), oi ((own_u5 ua ub uc ud ue).getD i 0), o5] [(.int ((own_u5 ua ub uc ud ue).getD i 0))]) (mkF m 22 #[oa r0, oi (Int32.ofNat fn), oi (Int32.ofNat tn), oi (Int32.ofNat i), oi ((own_u5 ua ub uc ud ue).getD i 0), o5] [(.int (own_let ((own_u5 ua ub uc ud ue).getD i 0)))]) := by
      intro t kt
      show oS T9 (mkF m 22 #[oa r0, oi (Int32.ofNat fn), oi (Int32.ofNat tn), oi (Int32.ofNat i), oi ((own_u5 ua ub uc ud ue).getD i 0), o5] [(.int (own_let ((own_u5 ua ub uc ud ue).getD i 0)))]) _
      refine XS.ifNo X9.here hx rfl (hb hby d9_22) rfl ((if0 _ _).trans (teq hc22).2) ?_
      show oS T9 (mkF m 25 #[oa r0, oi (Int32.ofNat fn), oi (Int32.ofNat tn), oi (Int32.ofNat i), oi ((own_u5 ua ub uc ud ue).getD i 0), o5] []) _
      refine XS.iloadN X9.here hx rfl (hb hby d9_25) rfl ?_
      show oS T9 (mkF m 26 #[oa r0, oi (Int32.ofNat fn), oi (Int32.ofNat tn), oi (Int32.ofNat i), oi ((own_u5 ua ub uc ud ue).getD i 0), o5] [(.int (Int32.ofNat i))]) _
      refine XS.iloadN X9.here hx rfl (hb hby d9_26) rfl ?_
      show oS T9 (mkF m 27 #[oa r0, oi (Int32.ofNat fn), oi (Int32.ofNat tn), oi (Int32.ofNat i), oi ((own_u5 ua ub uc ud ue).getD i 0), o5] [(.int (Int32.ofNat fn)), (.int (Int32.ofNat i))]) _
      refine XS.icmpNo X9.here hx rfl (hb hby d9_27) rfl (tlt ((hok.resolve_left (fun q => q hc22)).1)).2.2.2 ?_
      show oS T9 (mkF m 30 #[oa r0, oi (Int32.ofNat fn), oi (Int32.ofNat tn), oi (Int32.ofNat i), oi ((own_u5 ua ub uc ud ue).getD i 0), o5] []) _
      refine XS.iload X9.here hx rfl (hb hby d9_30) rfl ?_
      exact kt
    obtain ⟨_, _, ⟨T11, L11, k11, n11⟩, -, X11, ⟨Lc11, hQ11, l11, y11, z11⟩, st11⟩ := Jvm.LawKit.callS X9 hx (y := yy_19) hown (mvT hZ (own_t hw 104 rfl)) (mvT hZ (own_t hw 105 rfl)) (mvT hZ (own_t hw 8 rfl)) (mvT hZ (own_t hw 106 rfl)) (by decide) (backOf (W := 0) (rm24 l Z a0 hw [] ((own_u5 ua ub uc ud ue).getD i 0)  h0 n0 Z0 ) hZ (own_t hw 106 rfl) (own_t hw 8 rfl) (by decide) (by decide)) (g := (mkF m 32 #[oa r0, oi (Int32.ofNat fn), oi (Int32.ofNat tn), oi (Int32.ofNat i), oi ((own_u5 ua ub uc ud ue).getD i 0), o5] [(.int ((own_u5 ua ub uc ud ue).getD i 0))])) rfl (by rw [hml]; rfl) (argsL := [(.int ((own_u5 ua ub uc ud ue).getD i 0))]) (rest := []) (lenOf pd_14 rfl) rfl (by show 2 * 0 + _ ≤ _; exact Nat.le_of_eq rfl) (hb hby d9_32) (fun _ _ => ⟨rfl, e9, (by decide : 0 + 0 ≤ _), (by decide : 0 + 0 ≤ _)⟩)
    dsimp only [Pt.U, Pt.locs, Pt.cells, Pt.slots] at X11 l11 y11 z11 st11 hQ11
    subst l11 y11 z11
    obtain ⟨rfl, N11q, e11⟩ := hQ11
    have N11 := Fr.app N9 N11q
    by_cases hc35 : (own_dgt ((own_u5 ua ub uc ud ue).getD i 0)) = (0 : Int32)
    · -- it is
      have c12 : own_G p e below T11 (mkF m 42 #[oa r0, oi (Int32.ofNat fn), oi (Int32.ofNat tn), oi (Int32.ofNat i), oi ((own_u5 ua ub uc ud ue).getD i 0), o5] [(.int (43 : Int32)), (.int ((own_u5 ua ub uc ud ue).getD i 0))]) (mkF m 35 #[oa r0, oi (Int32.ofNat fn), oi (Int32.ofNat tn), oi (Int32.ofNat i), oi ((own_u5 ua ub uc ud ue).getD i 0), o5] [(.int (own_dgt ((own_u5 ua ub uc ud ue).getD i 0)))]) := by
        intro t kt
        show oS T11 (mkF m 35 #[oa r0, oi (Int32.ofNat fn), oi (Int32.ofNat tn), oi (Int32.ofNat i), oi ((own_u5 ua ub uc ud ue).getD i 0), o5] [(.int (own_dgt ((own_u5 ua ub uc ud ue).getD i 0)))]) _
        refine XS.ifNo X11.here hx rfl (hb hby d9_35) rfl ((if0 _ _).trans (teq hc35).2) ?_
        show oS T11 (mkF m 38 #[oa r0, oi (Int32.ofNat fn), oi (Int32.ofNat tn), oi (Int32.ofNat i), oi ((own_u5 ua ub uc ud ue).getD i 0), o5] []) _
        refine XS.iload X11.here hx rfl (hb hby d9_38) rfl ?_
        show oS T11 (mkF m 40 #[oa r0, oi (Int32.ofNat fn), oi (Int32.ofNat tn), oi (Int32.ofNat i), oi ((own_u5 ua ub uc ud ue).getD i 0), o5] [(.int ((own_u5 ua ub uc ud ue).getD i 0))]) _
        refine XS.bipush X11.here hx rfl (hb hby d9_40) ?_
        exact kt
      by_cases hc42 : ((own_u5 ua ub uc ud ue).getD i 0) = (43 : Int32)
      · -- it is
        have c13 : own_G p e below T11 (mkF m 2 #[oa r0, oi (Int32.ofNat fn), oi (Int32.ofNat tn), oi ((Int32.ofNat i) + (1 : Int32)), oi ((own_u5 ua ub uc ud ue).getD i 0), oi 1] []) (mkF m 42 #[oa r0, oi (Int32.ofNat fn), oi (Int32.ofNat tn), oi (Int32.ofNat i), oi ((own_u5 ua ub uc ud ue).getD i 0), o5] [(.int (43 : Int32)), (.int ((own_u5 ua ub uc ud ue).getD i 0))]) := by
          intro t kt
          show oS T11 (mkF m 42 #[oa r0, oi (Int32.ofNat fn), oi (Int32.ofNat tn), oi (Int32.ofNat i), oi ((own_u5 ua ub uc ud ue).getD i 0), o5] [(.int (43 : Int32)), (.int ((own_u5 ua ub uc ud ue).getD i 0))]) _
          refine XS.icmpYes X11.here hx rfl (pc0 := 42) (pc' := 59) rfl (hb hby d9_42) rfl (teq hc42).1 (by decide) (by decide) ?_
          show oS T11 (mkF m 59 #[oa r0, oi (Int32.ofNat fn), oi (Int32.ofNat tn), oi (Int32.ofNat i), oi ((own_u5 ua ub uc ud ue).getD i 0), o5] []) _
          refine XS.iconst X11.here hx rfl (hb hby d9_59) ?_
          show oS T11 (mkF m 60 #[oa r0, oi (Int32.ofNat fn), oi (Int32.ofNat tn), oi (Int32.ofNat i), oi ((own_u5 ua ub uc ud ue).getD i 0), o5] [(.int (1 : Int32))]) _
          refine XS.goto X11.here hx rfl (pc0 := 60) (pc' := 64) rfl (hb hby d9_60) (by decide) (by decide) ?_
          show oS T11 (mkF m 64 #[oa r0, oi (Int32.ofNat fn), oi (Int32.ofNat tn), oi (Int32.ofNat i), oi ((own_u5 ua ub uc ud ue).getD i 0), o5] [(.int (1 : Int32))]) _
          refine XS.istore X11.here hx rfl (hb hby d9_64) rfl (l' := #[oa r0, oi (Int32.ofNat fn), oi (Int32.ofNat tn), oi (Int32.ofNat i), oi ((own_u5 ua ub uc ud ue).getD i 0), oi 1]) (own_st5 h_o5) ?_
          show oS T11 (mkF m 66 #[oa r0, oi (Int32.ofNat fn), oi (Int32.ofNat tn), oi (Int32.ofNat i), oi ((own_u5 ua ub uc ud ue).getD i 0), oi 1] []) _
          refine XS.iload X11.here hx rfl (hb hby d9_66) rfl ?_
          show oS T11 (mkF m 68 #[oa r0, oi (Int32.ofNat fn), oi (Int32.ofNat tn), oi (Int32.ofNat i), oi ((own_u5 ua ub uc ud ue).getD i 0), oi 1] [(.int (1 : Int32))]) _
          refine XS.ifYes X11.here hx rfl (pc0 := 68) (pc' := 86) rfl (hb hby d9_68) rfl ((if0 _ _).trans (feq (by decide : ¬ ((1 : Int32) = (0 : Int32)))).2) (by decide) (by decide) ?_
          show oS T11 (mkF m 86 #[oa r0, oi (Int32.ofNat fn), oi (Int32.ofNat tn), oi (Int32.ofNat i), oi ((own_u5 ua ub uc ud ue).getD i 0), oi 1] []) _
          refine XS.iinc X11.here hx rfl (hb hby d9_86) rfl (l' := #[oa r0, oi (Int32.ofNat fn), oi (Int32.ofNat tn), oi ((Int32.ofNat i) + (1 : Int32)), oi ((own_u5 ua ub uc ud ue).getD i 0), oi 1]) rfl ?_
          show oS T11 (mkF m 89 #[oa r0, oi (Int32.ofNat fn), oi (Int32.ofNat tn), oi ((Int32.ofNat i) + (1 : Int32)), oi ((own_u5 ua ub uc ud ue).getD i 0), oi 1] []) _
          refine XS.goto X11.here hx rfl (pc0 := 89) (pc' := 2) rfl (hb hby d9_89) (by decide) (by decide) ?_
          exact kt
        exact ⟨T11, _, h0, X11, e11, N11, (Keep.refl h0 []), rfl, fun t kt => c2 _ (c4 _ (st3 _ (c5 _ (st7.trans (c8 _ (st9 _ (c10 _ (st11 _ (c12 _ (c13 _ (kt)))))))))))⟩
      · -- it isn't
        have c14 : own_G p e below T11 (mkF m 49 #[oa r0, oi (Int32.ofNat fn), oi (Int32.ofNat tn), oi (Int32.ofNat i), oi ((own_u5 ua ub uc ud ue).getD i 0), o5] [(.int (45 : Int32)), (.int ((own_u5 ua ub uc ud ue).getD i 0))]) (mkF m 42 #[oa r0, oi (Int32.ofNat fn), oi (Int32.ofNat tn), oi (Int32.ofNat i), oi ((own_u5 ua ub uc ud ue).getD i 0), o5] [(.int (43 : Int32)), (.int ((own_u5 ua ub uc ud ue).getD i 0))]) := by
          intro t kt
          show oS T11 (mkF m 42 #[oa r0, oi (Int32.ofNat fn), oi (Int32.ofNat tn), oi (Int32.ofNat i), oi ((own_u5 ua ub uc ud ue).getD i 0), o5] [(.int (43 : Int32)), (.int ((own_u5 ua ub uc ud ue).getD i 0))]) _
          refine XS.icmpNo X11.here hx rfl (hb hby d9_42) rfl (feq hc42).1 ?_
          show oS T11 (mkF m 45 #[oa r0, oi (Int32.ofNat fn), oi (Int32.ofNat tn), oi (Int32.ofNat i), oi ((own_u5 ua ub uc ud ue).getD i 0), o5] []) _
          refine XS.iload X11.here hx rfl (hb hby d9_45) rfl ?_
          show oS T11 (mkF m 47 #[oa r0, oi (Int32.ofNat fn), oi (Int32.ofNat tn), oi (Int32.ofNat i), oi ((own_u5 ua ub uc ud ue).getD i 0), o5] [(.int ((own_u5 ua ub uc ud ue).getD i 0))]) _
          refine XS.bipush X11.here hx rfl (hb hby d9_47) ?_
          exact kt
        by_cases hc49 : ((own_u5 ua ub uc ud ue).getD i 0) = (45 : Int32)
        · -- it is
          have c15 : own_G p e below T11 (mkF m 2 #[oa r0, oi (Int32.ofNat fn), oi (Int32.ofNat tn), oi ((Int32.ofNat i) + (1 : Int32)), oi ((own_u5 ua ub uc ud ue).getD i 0), oi 1] []) (mkF m 49 #[oa r0, oi (Int32.ofNat fn), oi (Int32.ofNat tn), oi (Int32.ofNat i), oi ((own_u5 ua ub uc ud ue).getD i 0), o5] [(.int (45 : Int32)), (.int ((own_u5 ua ub uc ud ue).getD i 0))]) := by
            intro t kt
            show oS T11 (mkF m 49 #[oa r0, oi (Int32.ofNat fn), oi (Int32.ofNat tn), oi (Int32.ofNat i), oi ((own_u5 ua ub uc ud ue).getD i 0), o5] [(.int (45 : Int32)), (.int ((own_u5 ua ub uc ud ue).getD i 0))]) _
            refine XS.icmpYes X11.here hx rfl (pc0 := 49) (pc' := 59) rfl (hb hby d9_49) rfl (teq hc49).1 (by decide) (by decide) ?_
            show oS T11 (mkF m 59 #[oa r0, oi (Int32.ofNat fn), oi (Int32.ofNat tn), oi (Int32.ofNat i), oi ((own_u5 ua ub uc ud ue).getD i 0), o5] []) _
            refine XS.iconst X11.here hx rfl (hb hby d9_59) ?_
            show oS T11 (mkF m 60 #[oa r0, oi (Int32.ofNat fn), oi (Int32.ofNat tn), oi (Int32.ofNat i), oi ((own_u5 ua ub uc ud ue).getD i 0), o5] [(.int (1 : Int32))]) _
            refine XS.goto X11.here hx rfl (pc0 := 60) (pc' := 64) rfl (hb hby d9_60) (by decide) (by decide) ?_
            show oS T11 (mkF m 64 #[oa r0, oi (Int32.ofNat fn), oi (Int32.ofNat tn), oi (Int32.ofNat i), oi ((own_u5 ua ub uc ud ue).getD i 0), o5] [(.int (1 : Int32))]) _
            refine XS.istore X11.here hx rfl (hb hby d9_64) rfl (l' := #[oa r0, oi (Int32.ofNat fn), oi (Int32.ofNat tn), oi (Int32.ofNat i), oi ((own_u5 ua ub uc ud ue).getD i 0), oi 1]) (own_st5 h_o5) ?_
            show oS T11 (mkF m 66 #[oa r0, oi (Int32.ofNat fn), oi (Int32.ofNat tn), oi (Int32.ofNat i), oi ((own_u5 ua ub uc ud ue).getD i 0), oi 1] []) _
            refine XS.iload X11.here hx rfl (hb hby d9_66) rfl ?_
            show oS T11 (mkF m 68 #[oa r0, oi (Int32.ofNat fn), oi (Int32.ofNat tn), oi (Int32.ofNat i), oi ((own_u5 ua ub uc ud ue).getD i 0), oi 1] [(.int (1 : Int32))]) _
            refine XS.ifYes X11.here hx rfl (pc0 := 68) (pc' := 86) rfl (hb hby d9_68) rfl ((if0 _ _).trans (feq (by decide : ¬ ((1 : Int32) = (0 : Int32)))).2) (by decide) (by decide) ?_
            show oS T11 (mkF m 86 #[oa r0, oi (Int32.ofNat fn), oi (Int32.ofNat tn), oi (Int32.ofNat i), oi ((own_u5 ua ub uc ud ue).getD i 0), oi 1] []) _
            refine XS.iinc X11.here hx rfl (hb hby d9_86) rfl (l' := #[oa r0, oi (Int32.ofNat fn), oi (Int32.ofNat tn), oi ((Int32.ofNat i) + (1 : Int32)), oi ((own_u5 ua ub uc ud ue).getD i 0), oi 1]) rfl ?_
            show oS T11 (mkF m 89 #[oa r0, oi (Int32.ofNat fn), oi (Int32.ofNat tn), oi ((Int32.ofNat i) + (1 : Int32)), oi ((own_u5 ua ub uc ud ue).getD i 0), oi 1] []) _
            refine XS.goto X11.here hx rfl (pc0 := 89) (pc' := 2) rfl (hb hby d9_89) (by decide) (by decide) ?_
            exact kt
          exact ⟨T11, _, h0, X11, e11, N11, (Keep.refl h0 []), rfl, fun t kt => c2 _ (c4 _ (st3 _ (c5 _ (st7.trans (c8 _ (st9 _ (c10 _ (st11 _ (c12 _ (c14 _ (c15 _ (kt))))))))))))⟩
        · -- it isn't
          have c16 : own_G p e below T11 (mkF m 2 #[oa r0, oi (Int32.ofNat fn), oi (Int32.ofNat tn), oi ((Int32.ofNat i) + (1 : Int32)), oi ((own_u5 ua ub uc ud ue).getD i 0), oi 1] []) (mkF m 49 #[oa r0, oi (Int32.ofNat fn), oi (Int32.ofNat tn), oi (Int32.ofNat i), oi ((own_u5 ua ub uc ud ue).getD i 0), o5] [(.int (45 : Int32)), (.int ((own_u5 ua ub uc ud ue).getD i 0))]) := by
            intro t kt
            show oS T11 (mkF m 49 #[oa r0, oi (Int32.ofNat fn), oi (Int32.ofNat tn), oi (Int32.ofNat i), oi ((own_u5 ua ub uc ud ue).getD i 0), o5] [(.int (45 : Int32)), (.int ((own_u5 ua ub uc ud ue).getD i 0))]) _
            refine XS.icmpNo X11.here hx rfl (hb hby d9_49) rfl (feq hc49).1 ?_
            show oS T11 (mkF m 52 #[oa r0, oi (Int32.ofNat fn), oi (Int32.ofNat tn), oi (Int32.ofNat i), oi ((own_u5 ua ub uc ud ue).getD i 0), o5] []) _
            refine XS.iload X11.here hx rfl (hb hby d9_52) rfl ?_
            show oS T11 (mkF m 54 #[oa r0, oi (Int32.ofNat fn), oi (Int32.ofNat tn), oi (Int32.ofNat i), oi ((own_u5 ua ub uc ud ue).getD i 0), o5] [(.int ((own_u5 ua ub uc ud ue).getD i 0))]) _
            refine XS.bipush X11.here hx rfl (hb hby d9_54) ?_
            show oS T11 (mkF m 56 #[oa r0, oi (Int32.ofNat fn), oi (Int32.ofNat tn), oi (Int32.ofNat i), oi ((own_u5 ua ub uc ud ue).getD i 0), o5] [(.int (46 : Int32)), (.int ((own_u5 ua ub uc ud ue).getD i 0))]) _
            refine XS.icmpNo X11.here hx rfl (hb hby d9_56) rfl (teq ((((hok.resolve_left (fun q => q hc22)).2.resolve_left (fun q => q hc35)).resolve_left hc42).resolve_left hc49)).2 ?_
            show oS T11 (mkF m 59 #[oa r0, oi (Int32.ofNat fn), oi (Int32.ofNat tn), oi (Int32.ofNat i), oi ((own_u5 ua ub uc ud ue).getD i 0), o5] []) _
            refine XS.iconst X11.here hx rfl (hb hby d9_59) ?_
            show oS T11 (mkF m 60 #[oa r0, oi (Int32.ofNat fn), oi (Int32.ofNat tn), oi (Int32.ofNat i), oi ((own_u5 ua ub uc ud ue).getD i 0), o5] [(.int (1 : Int32))]) _
            refine XS.goto X11.here hx rfl (pc0 := 60) (pc' := 64) rfl (hb hby d9_60) (by decide) (by decide) ?_
            show oS T11 (mkF m 64 #[oa r0, oi (Int32.ofNat fn), oi (Int32.ofNat tn), oi (Int32.ofNat i), oi ((own_u5 ua ub uc ud ue).getD i 0), o5] [(.int (1 : Int32))]) _
            refine XS.istore X11.here hx rfl (hb hby d9_64) rfl (l' := #[oa r0, oi (Int32.ofNat fn), oi (Int32.ofNat tn), oi (Int32.ofNat i), oi ((own_u5 ua ub uc ud ue).getD i 0), oi 1]) (own_st5 h_o5) ?_
            show oS T11 (mkF m 66 #[oa r0, oi (Int32.ofNat fn), oi (Int32.ofNat tn), oi (Int32.ofNat i), oi ((own_u5 ua ub uc ud ue).getD i 0), oi 1] []) _
            refine XS.iload X11.here hx rfl (hb hby d9_66) rfl ?_
            show oS T11 (mkF m 68 #[oa r0, oi (Int32.ofNat fn), oi (Int32.ofNat tn), oi (Int32.ofNat i), oi ((own_u5 ua ub uc ud ue).getD i 0), oi 1] [(.int (1 : Int32))]) _
            refine XS.ifYes X11.here hx rfl (pc0 := 68) (pc' := 86) rfl (hb hby d9_68) rfl ((if0 _ _).trans (feq (by decide : ¬ ((1 : Int32) = (0 : Int32)))).2) (by decide) (by decide) ?_
            show oS T11 (mkF m 86 #[oa r0, oi (Int32.ofNat fn), oi (Int32.ofNat tn), oi (Int32.ofNat i), oi ((own_u5 ua ub uc ud ue).getD i 0), oi 1] []) _
            refine XS.iinc X11.here hx rfl (hb hby d9_86) rfl (l' := #[oa r0, oi (Int32.ofNat fn), oi (Int32.ofNat tn), oi ((Int32.ofNat i) + (1 : Int32)), oi ((own_u5 ua ub uc ud ue).getD i 0), oi 1]) rfl ?_
            show oS T11 (mkF m 89 #[oa r0, oi (Int32.ofNat fn), oi (Int32.ofNat tn), oi ((Int32.ofNat i) + (1 : Int32)), oi ((own_u5 ua ub uc ud ue).getD i 0), oi 1] []) _
            refine XS.goto X11.here hx rfl (pc0 := 89) (pc' := 2) rfl (hb hby d9_89) (by decide) (by decide) ?_
            exact kt
          exact ⟨T11, _, h0, X11, e11, N11, (Keep.refl h0 []), rfl, fun t kt => c2 _ (c4 _ (st3 _ (c5 _ (st7.trans (c8 _ (st9 _ (c10 _ (st11 _ (c12 _ (c14 _ (c16 _ (kt))))))))))))⟩
    · -- it isn't
      have c17 : own_G p e below T11 (mkF m 2 #[oa r0, oi (Int32.ofNat fn), oi (Int32.ofNat tn), oi ((Int32.ofNat i) + (1 : Int32)), oi ((own_u5 ua ub uc ud ue).getD i 0), oi 1] []) (mkF m 35 #[oa r0, oi (Int32.ofNat fn), oi (Int32.ofNat tn), oi (Int32.ofNat i), oi ((own_u5 ua ub uc ud ue).getD i 0), o5] [(.int (own_dgt ((own_u5 ua ub uc ud ue).getD i 0)))]) := by
        intro t kt
        show oS T11 (mkF m 35 #[oa r0, oi (Int32.ofNat fn), oi (Int32.ofNat tn), oi (Int32.ofNat i), oi ((own_u5 ua ub uc ud ue).getD i 0), o5] [(.int (own_dgt ((own_u5 ua ub uc ud ue).getD i 0)))]) _
        refine XS.ifYes X11.here hx rfl (pc0 := 35) (pc' := 59) rfl (hb hby d9_35) rfl ((if0 _ _).trans (feq hc35).2) (by decide) (by decide) ?_
        show oS T11 (mkF m 59 #[oa r0, oi (Int32.ofNat fn), oi (Int32.ofNat tn), oi (Int32.ofNat i), oi ((own_u5 ua ub uc ud ue).getD i 0), o5] []) _
        refine XS.iconst X11.here hx rfl (hb hby d9_59) ?_
        show oS T11 (mkF m 60 #[oa r0, oi (Int32.ofNat fn), oi (Int32.ofNat tn), oi (Int32.ofNat i), oi ((own_u5 ua ub uc ud ue).getD i 0), o5] [(.int (1 : Int32))]) _
        refine XS.goto X11.here hx rfl (pc0 := 60) (pc' := 64) rfl (hb hby d9_60) (by decide) (by decide) ?_
        show oS T11 (mkF m 64 #[oa r0, oi (Int32.ofNat fn), oi (Int32.ofNat tn), oi (Int32.ofNat i), oi ((own_u5 ua ub uc ud ue).getD i 0), o5] [(.int (1 : Int32))]) _
        refine XS.istore X11.here hx rfl (hb hby d9_64) rfl (l' := #[oa r0, oi (Int32.ofNat fn), oi (Int32.ofNat tn), oi (Int32.ofNat i), oi ((own_u5 ua ub uc ud ue).getD i 0), oi 1]) (own_st5 h_o5) ?_
        show oS T11 (mkF m 66 #[oa r0, oi (Int32.ofNat fn), oi (Int32.ofNat tn), oi (Int32.ofNat i), oi ((own_u5 ua ub uc ud ue).getD i 0), oi 1] []) _
        refine XS.iload X11.here hx rfl (hb hby d9_66) rfl ?_
        show oS T11 (mkF m 68 #[oa r0, oi (Int32.ofNat fn), oi (Int32.ofNat tn), oi (Int32.ofNat i), oi ((own_u5 ua ub uc ud ue).getD i 0), oi 1] [(.int (1 : Int32))]) _
        refine XS.ifYes X11.here hx rfl (pc0 := 68) (pc' := 86) rfl (hb hby d9_68) rfl ((if0 _ _).trans (feq (by decide : ¬ ((1 : Int32) = (0 : Int32)))).2) (by decide) (by decide) ?_
        show oS T11 (mkF m 86 #[oa r0, oi (Int32.ofNat fn), oi (Int32.ofNat tn), oi (Int32.ofNat i), oi ((own_u5 ua ub uc ud ue).getD i 0), oi 1] []) _
        refine XS.iinc X11.here hx rfl (hb hby d9_86) rfl (l' := #[oa r0, oi (Int32.ofNat fn), oi (Int32.ofNat tn), oi ((Int32.ofNat i) + (1 : Int32)), oi ((own_u5 ua ub uc ud ue).getD i 0), oi 1]) rfl ?_
        show oS T11 (mkF m 89 #[oa r0, oi (Int32.ofNat fn), oi (Int32.ofNat tn), oi ((Int32.ofNat i) + (1 : Int32)), oi ((own_u5 ua ub uc ud ue).getD i 0), oi 1] []) _
        refine XS.goto X11.here hx rfl (pc0 := 89) (pc' := 2) rfl (hb hby d9_89) (by decide) (by decide) ?_
        exact kt
      exact ⟨T11, _, h0, X11, e11, N11, (Keep.refl h0 []), rfl, fun t kt => c2 _ (c4 _ (st3 _ (c5 _ (st7.trans (c8 _ (st9 _ (c10 _ (st11 _ (c17 _ (kt))))))))))⟩
  · -- it isn't
    have c18 : own_G p e below T9 (mkF m 2 #[oa r0, oi (Int32.ofNat fn), oi (Int32.ofNat tn), oi ((Int32.ofNat i) + (1 : Int32)), oi ((own_u5 ua ub uc ud ue).getD i 0), oi 1] []) (mkF m 22 #[oa r0, oi (Int32.ofNat fn), oi (Int32.ofNat tn), oi (Int32.ofNat i), oi ((own_u5 ua ub uc ud ue).getD i 0), o5] [(.int (own_let ((own_u5 ua ub uc ud ue).getD i 0)))]) := by
      intro t kt
      show oS T9 (mkF m 22 #[oa r0, oi (Int32.ofNat fn), oi (Int32.ofNat tn), oi (Int32.ofNat i), oi ((own_u5 ua ub uc ud ue).getD i 0), o5] [(.int (own_let ((own_u5 ua ub uc ud ue).getD i 0)))]) _
      refine XS.ifYes X9.here hx rfl (pc0 := 22) (pc' := 59) rfl (hb hby d9_22) rfl ((if0 _ _).trans (feq hc22).2) (by decide) (by decide) ?_
      show oS T9 (mkF m 59 #[oa r0, oi (Int32.ofNat fn), oi (Int32.ofNat tn), oi (Int32.ofNat i), oi ((own_u5 ua ub uc ud ue).getD i 0), o5] []) _
      refine XS.iconst X9.here hx rfl (hb hby d9_59) ?_
      show oS T9 (mkF m 60 #[oa r0, oi (Int32.ofNat fn), oi (Int32.ofNat tn), oi (Int32.ofNat i), oi ((own_u5 ua ub uc ud ue).getD i 0), o5] [(.int (1 : Int32))]) _
      refine XS.goto X9.here hx rfl (pc0 := 60) (pc' := 64) rfl (hb hby d9_60) (by decide) (by decide) ?_
      show oS T9 (mkF m 64 #[oa r0, oi (Int32.ofNat fn), oi (Int32.ofNat tn), oi (Int32.ofNat i), oi ((own_u5 ua ub uc ud ue).getD i 0), o5] [(.int (1 : Int32))]) _
      refine XS.istore X9.here hx rfl (hb hby d9_64) rfl (l' := #[oa r0, oi (Int32.ofNat fn), oi (Int32.ofNat tn), oi (Int32.ofNat i), oi ((own_u5 ua ub uc ud ue).getD i 0), oi 1]) (own_st5 h_o5) ?_
      show oS T9 (mkF m 66 #[oa r0, oi (Int32.ofNat fn), oi (Int32.ofNat tn), oi (Int32.ofNat i), oi ((own_u5 ua ub uc ud ue).getD i 0), oi 1] []) _
      refine XS.iload X9.here hx rfl (hb hby d9_66) rfl ?_
      show oS T9 (mkF m 68 #[oa r0, oi (Int32.ofNat fn), oi (Int32.ofNat tn), oi (Int32.ofNat i), oi ((own_u5 ua ub uc ud ue).getD i 0), oi 1] [(.int (1 : Int32))]) _
      refine XS.ifYes X9.here hx rfl (pc0 := 68) (pc' := 86) rfl (hb hby d9_68) rfl ((if0 _ _).trans (feq (by decide : ¬ ((1 : Int32) = (0 : Int32)))).2) (by decide) (by decide) ?_
      show oS T9 (mkF m 86 #[oa r0, oi (Int32.ofNat fn), oi (Int32.ofNat tn), oi (Int32.ofNat i), oi ((own_u5 ua ub uc ud ue).getD i 0), oi 1] []) _
      refine XS.iinc X9.here hx rfl (hb hby d9_86) rfl (l' := #[oa r0, oi (Int32.ofNat fn), oi (Int32.ofNat tn), oi ((Int32.ofNat i) + (1 : Int32)), oi ((own_u5 ua ub uc ud ue).getD i 0), oi 1]) rfl ?_
      show oS T9 (mkF m 89 #[oa r0, oi (Int32.ofNat fn), oi (Int32.ofNat tn), oi ((Int32.ofNat i) + (1 : Int32)), oi ((own_u5 ua ub uc ud ue).getD i 0), oi 1] []) _
      refine XS.goto X9.here hx rfl (pc0 := 89) (pc' := 2) rfl (hb hby d9_89) (by decide) (by decide) ?_
      exact kt
    exact ⟨T9, _, h0, X9, e9, N9, (Keep.refl h0 []), rfl, fun t kt => c2 _ (c4 _ (st3 _ (c5 _ (st7.trans (c8 _ (st9 _ (c18 _ (kt))))))))⟩
set_option maxRecDepth 65536 in
set_option maxHeartbeats 40000000 in
theorem tceb {p : Program} {l : Launch} {e : Env} {s : State} {m : MethodId} {args : Array Value} {below : List Frame} {meth : Method} {c : Code} {T0 : State} {locs : List Loc} {Z : State} {a0 : Array Value} {h0 : Heap} {n0 : Nat} (r0 sa rb : Addr) (kb : ClassId) (ua ub uc ud ue : Int32) (i fn tn : Nat) (cs : Int32) (fm : Value) (o4 o5 : Slot)
    (X0 : Stand p l e ({ frames := 6, cells := 0, slots := 0, locals := 90 } : Room) s m args below meth c T0 locs 0 0) (hx : p.tables.exec = Jvm.exec) (hZ : Z.Warmed39 s.vm) (hw : ∀ d ∈ tables_1, d.before a0 Z = true) (hby : c.code = prog_57_method_2_code) (hml : c.maxLocals = 6) (hown : s.vm.findClass "com/example/href/href/uri/IriSyntax" = some m.cls) (e0 : T0.heap = h0) (N0 : Fr n0 locs) (Z0 : n0 ≤ h0.size) (Ei : Exa Z h0 r0 "com/example/href/href/uri/IriSyntax") (Fi : Fld Z h0 r0 "com/example/href/href/uri/IriSyntax" "input" "Ljava/lang/String;" (.ref sa)) (E0 : Exa Z h0 sa "java/lang/String") (F0 : Fld Z h0 sa "java/lang/String" "value" "[B" (.ref rb)) (C0 : Fld Z h0 sa "java/lang/String" "coder" "B" (.int (1 : Int32))) (V0 : Arv Z h0 rb kb .byte (10 : Int32) [(.int (own_lo ua)), (.int (own_hi ua)), (.int (own_lo ub)), (.int (own_hi ub)), (.int (own_lo uc)), (.int (own_hi uc)), (.int (own_lo ud)), (.int (own_hi ud)), (.int (own_lo ue)), (.int (own_hi ue))] (.int 0)) (SF : Sta Z h0 "jdk/internal/util/Preconditions" "SIOOBE_FORMATTER" "Ljava/util/function/BiFunction;" fm) (hfm : fm.isRef = true) (SC : Sta Z h0 "java/lang/String" "COMPACT_STRINGS" "Z" (.int cs)) (hcs : ¬ cs = (0 : Int32)) (SA : Sta Z h0 "java/lang/StringUTF16" "$assertionsDisabled" "Z" (.int (1 : Int32))) (SH : Sta Z h0 "java/lang/StringUTF16" "HI_BYTE_SHIFT" "I" (.int (0 : Int32))) (SL : Sta Z h0 "java/lang/StringUTF16" "LO_BYTE_SHIFT" "I" (.int (8 : Int32))) (hru : own_ru ua ub uc ud ue) (ht : i = tn) (h5 : tn ≤ 5) :
    ∃ (T' : State) (locs' : List Loc) (h' : Heap), Stand p l e ({ frames := 6, cells := 0, slots := 0, locals := 90 } : Room) s m args below meth c T' locs' 0 0 ∧ T'.heap = h' ∧ Fr n0 locs' ∧ Keep h0 h' [] ∧ h' = h0 ∧ ∀ t, own_S p e below T' (mkF m 92 #[oa r0, oi (Int32.ofNat fn), oi (Int32.ofNat tn), oi (Int32.ofNat i), o4, o5] []) t → own_S p e below T0 (mkF m 2 #[oa r0, oi (Int32.ofNat fn), oi (Int32.ofNat tn), oi (Int32.ofNat i), o4, o5] []) t := by
  have c2 : own_G p e below T0 (mkF m 4 #[oa r0, oi (Int32.ofNat fn), oi (Int32.ofNat tn), oi (Int32.ofNat i), o4, o5] [(.int (Int32.ofNat tn)), (.int (Int32.ofNat i))]) (mkF m 2 #[oa r0, oi (Int32.ofNat fn), oi (Int32.ofNat tn), oi (Int32.ofNat i), o4, o5] []) := by
    intro t kt
    show oS T0 (mkF m 2 #[oa r0, oi (Int32.ofNat fn), oi (Int32.ofNat tn), oi (Int32.ofNat i), o4, o5] []) _
    refine XS.iloadN X0.here hx rfl (hb hby d9_2) rfl ?_
    show oS T0 (mkF m 3 #[oa r0, oi (Int32.ofNat fn), oi (Int32.ofNat tn), oi (Int32.ofNat i), o4, o5] [(.int (Int32.ofNat i))]) _
    refine XS.iloadN X0.here hx rfl (hb hby d9_3) rfl ?_
    exact kt
  have hd1 : ¬ ((Int32.ofNat i) < (Int32.ofNat tn)) := by rw [own_lt i tn (by omega) (by omega)]; omega
  have c3 : own_G p e below T0 (mkF m 92 #[oa r0, oi (Int32.ofNat fn), oi (Int32.ofNat tn), oi (Int32.ofNat i), o4, o5] []) (mkF m 4 #[oa r0, oi (Int32.ofNat fn), oi (Int32.ofNat tn), oi (Int32.ofNat i), o4, o5] [(.int (Int32.ofNat tn)), (.int (Int32.ofNat i))]) := by
    intro t kt
    show oS T0 (mkF m 4 #[oa r0, oi (Int32.ofNat fn), oi (Int32.ofNat tn), oi (Int32.ofNat i), o4, o5] [(.int (Int32.ofNat tn)), (.int (Int32.ofNat i))]) _
    refine XS.icmpYes X0.here hx rfl (pc0 := 4) (pc' := 92) rfl (hb hby d9_4) rfl (flt hd1).2.1 (by decide) (by decide) ?_
    exact kt
  exact ⟨T0, _, h0, X0, e0, N0, (Keep.refl h0 []), rfl, fun t kt => c2 _ (c3 _ (kt))⟩
set_option maxRecDepth 65536 in
set_option maxHeartbeats 40000000 in
theorem lckb {p : Program} {l : Launch} {e : Env} {s : State} {m : MethodId} {args : Array Value} {below : List Frame} {meth : Method} {c : Code} {Z : State} {a0 : Array Value} {n0 : Nat} (r0 sa rb : Addr) (kb : ClassId) (ua ub uc ud ue : Int32) (fn tn : Nat) (cs : Int32) (fm : Value) (h0 : Heap) (hx : p.tables.exec = Jvm.exec) (hZ : Z.Warmed39 s.vm) (hw : ∀ d ∈ tables_1, d.before a0 Z = true) (hby : c.code = prog_57_method_2_code) (hml : c.maxLocals = 6) (hown : s.vm.findClass "com/example/href/href/uri/IriSyntax" = some m.cls) (Z0 : n0 ≤ h0.size) (Ei : Exa Z h0 r0 "com/example/href/href/uri/IriSyntax") (Fi : Fld Z h0 r0 "com/example/href/href/uri/IriSyntax" "input" "Ljava/lang/String;" (.ref sa)) (E0 : Exa Z h0 sa "java/lang/String") (F0 : Fld Z h0 sa "java/lang/String" "value" "[B" (.ref rb)) (C0 : Fld Z h0 sa "java/lang/String" "coder" "B" (.int (1 : Int32))) (V0 : Arv Z h0 rb kb .byte (10 : Int32) [(.int (own_lo ua)), (.int (own_hi ua)), (.int (own_lo ub)), (.int (own_hi ub)), (.int (own_lo uc)), (.int (own_hi uc)), (.int (own_lo ud)), (.int (own_hi ud)), (.int (own_lo ue)), (.int (own_hi ue))] (.int 0)) (SF : Sta Z h0 "jdk/internal/util/Preconditions" "SIOOBE_FORMATTER" "Ljava/util/function/BiFunction;" fm) (hfm : fm.isRef = true) (SC : Sta Z h0 "java/lang/String" "COMPACT_STRINGS" "Z" (.int cs)) (hcs : ¬ cs = (0 : Int32)) (SA : Sta Z h0 "java/lang/StringUTF16" "$assertionsDisabled" "Z" (.int (1 : Int32))) (SH : Sta Z h0 "java/lang/StringUTF16" "HI_BYTE_SHIFT" "I" (.int (0 : Int32))) (SL : Sta Z h0 "java/lang/StringUTF16" "LO_BYTE_SHIFT" "I" (.int (8 : Int32))) (hru : own_ru ua ub uc ud ue) (h5 : tn ≤ 5) (hok : ∀ i, fn ≤ i → i < tn → own_ok (Int32.ofNat fn) (Int32.ofNat i) ((own_u5 ua ub uc ud ue).getD i 0)) :
    ∀ (k i : Nat), i + k = tn → fn ≤ i → ∀ (T0 : State) (locs : List Loc) (o4 o5 : Slot), own_sl o4 → own_sl o5 → Stand p l e ({ frames := 6, cells := 0, slots := 0, locals := 90 } : Room) s m args below meth c T0 locs 0 0 → T0.heap = h0 → Fr n0 locs →
      ∃ (T' : State) (locs' : List Loc) (o4' o5' : Slot), Stand p l e ({ frames := 6, cells := 0, slots := 0, locals := 90 } : Room) s m args below meth c T' locs' 0 0 ∧ T'.heap = h0 ∧ Fr n0 locs' ∧ ∀ t, Steps p.tables e below (T'.setTop (mkF m 92 #[.val (.ref r0), .val (.int (Int32.ofNat fn)), .val (.int (Int32.ofNat tn)), .val (.int (Int32.ofNat tn)), o4', o5'] [])) t → Steps p.tables e below (T0.setTop (mkF m 2 #[.val (.ref r0), .val (.int (Int32.ofNat fn)), .val (.int (Int32.ofNat tn)), .val (.int (Int32.ofNat i)), o4, o5] [])) t := by
  intro k
  induction k with
  | zero =>
    intro i hk hf T0 locs o4 o5 h4 h5' X e0 N
    obtain rfl : i = tn := by omega
    obtain ⟨T1, l1, h1, X1, e1, N1, K1, q1, s1⟩ := tceb r0 sa rb kb ua ub uc ud ue i fn i cs fm o4 o5 X hx hZ hw hby hml hown e0 N Z0 Ei Fi E0 F0 C0 V0 SF hfm SC hcs SA SH SL hru rfl h5
    subst q1
    exact ⟨T1, l1, o4, o5, X1, e1, N1, s1⟩
  | succ k ih =>
    intro i hk hf T0 locs o4 o5 h4 h5' X e0 N
    obtain ⟨T1, l1, h1, X1, e1, N1, K1, q1, s1⟩ := tckb r0 sa rb kb ua ub uc ud ue i fn tn cs fm o4 o5 X hx hZ hw hby hml hown e0 N Z0 Ei Fi E0 F0 C0 V0 SF hfm SC hcs SA SH SL hru h4 h5' (by omega) (by omega) h5 (hok i hf (by omega))
    subst q1
    obtain ⟨T2, l2, a4, a5, X2, e2, N2, s2⟩ := ih (i + 1) (by omega) (by omega) T1 l1 _ _ (Or.inr ⟨_, rfl⟩) (Or.inr ⟨_, rfl⟩) X1 e1 N1
    refine ⟨T2, l2, a4, a5, X2, e2, N2, fun t kt => s1 t ?_⟩
    rw [own_up i (by omega)]
    exact s2 t kt
def Q9b (Z : State) (r0 : Addr) (sa rb : Addr) (kb : ClassId) (ua ub uc ud ue : Int32) (fn tn : Nat) (cs : Int32) (fm : Value) (h0 : Heap) (n0 : Nat) (v : Option Value) (h : Heap) (L : List Loc) : Prop := v = none ∧ Fr n0 L ∧ h = h0
set_option maxRecDepth 65536 in
set_option maxHeartbeats 40000000 in
theorem rm9b (l : Launch) (Z : State) (a0 : Array Value) (hw : ∀ d ∈ tables_1, d.before a0 Z = true) (ws : List Jvm.Cond) (r0 : Addr) (sa rb : Addr) (kb : ClassId) (ua ub uc ud ue : Int32) (fn tn : Nat) (cs : Int32) (fm : Value) (h0 : Heap) (n0 : Nat) (Z0 : n0 ≤ h0.size) (Ei : Exa Z h0 r0 "com/example/href/href/uri/IriSyntax") (Fi : Fld Z h0 r0 "com/example/href/href/uri/IriSyntax" "input" "Ljava/lang/String;" (.ref sa)) (E0 : Exa Z h0 sa "java/lang/String") (F0 : Fld Z h0 sa "java/lang/String" "value" "[B" (.ref rb)) (C0 : Fld Z h0 sa "java/lang/String" "coder" "B" (.int (1 : Int32))) (V0 : Arv Z h0 rb kb .byte (10 : Int32) [(.int (own_lo ua)), (.int (own_hi ua)), (.int (own_lo ub)), (.int (own_hi ub)), (.int (own_lo uc)), (.int (own_hi uc)), (.int (own_lo ud)), (.int (own_hi ud)), (.int (own_lo ue)), (.int (own_hi ue))] (.int 0)) (SF : Sta Z h0 "jdk/internal/util/Preconditions" "SIOOBE_FORMATTER" "Ljava/util/function/BiFunction;" fm) (hfm : fm.isRef = true) (SC : Sta Z h0 "java/lang/String" "COMPACT_STRINGS" "Z" (.int cs)) (hcs : ¬ cs = (0 : Int32)) (SA : Sta Z h0 "java/lang/StringUTF16" "$assertionsDisabled" "Z" (.int (1 : Int32))) (SH : Sta Z h0 "java/lang/StringUTF16" "HI_BYTE_SHIFT" "I" (.int (0 : Int32))) (SL : Sta Z h0 "java/lang/StringUTF16" "LO_BYTE_SHIFT" "I" (.int (8 : Int32))) (hru : own_ru ua ub uc ud ue) (hft : fn ≤ tn) (h5 : tn ≤ 5) (hok : ∀ i, fn ≤ i → i < tn → own_ok (Int32.ofNat fn) (Int32.ofNat i) ((own_u5 ua ub uc ud ue).getD i 0)) :
    MetFree l yy_20 (head1 (Jvm.Cond.code yy_20 prog_57_method_2_code 6 none :: ws) ({ frames := 6, cells := 0, slots := 0, locals := 90 } : Room)) (fun a U => a = #[(.ref r0), (.int (Int32.ofNat fn)), (.int (Int32.ofNat tn))] ∧ Z.Warmed39 U.vm ∧ U.heap = h0) (fun _ _ _ _ _ => True) (fun _ U o U' => ∃ v L, o = .returned v ∧ Q9b Z r0 sa rb kb ua ub uc ud ue fn tn cs fm h0 n0 v U'.heap L ∧ FrameEnd U o U' L ({ frames := 6, cells := 0, slots := 0, locals := 90 } : Room).cells ({ frames := 6, cells := 0, slots := 0, locals := 90 } : Room).slots) := by
  refine MetFree.of_bodySF (plainFor_of_name pn_9) hisR ?_
  intro p e s m args below meth c s₁ Bd hml0 hP hK
  obtain ⟨rfl, hZ, hh⟩ := hP
  have hx := Bd.exec
  have hby := Bd.bytes
  have hml : c.maxLocals = 6 := hml0
  have hown : s.vm.findClass "com/example/href/href/uri/IriSyntax" = some m.cls := findClass_of_methodNamed Bd.named
  have hnm := (name_of_methodNamed Bd.named Bd.method).1
  have X0 : Stand p l e ({ frames := 6, cells := 0, slots := 0, locals := 90 } : Room) s m #[(.ref r0), (.int (Int32.ofNat fn)), (.int (Int32.ofNat tn))] below meth c s₁ [] 0 0 := Stand.of_body Bd
  have e0 : s₁.heap = h0 := by rw [← hh, Bd.state]; rfl
  have N0 := Fr.nil n0
  have pre0 : ∀ t, Steps p.tables e below (s₁.setTop (mkF m 0 #[oa r0, oi (Int32.ofNat fn), oi (Int32.ofNat tn), .unset, .unset, .unset] [])) t → Steps p.tables e below (s₁.setTop (entryFrame m #[(.ref r0), (.int (Int32.ofNat fn)), (.int (Int32.ofNat tn))] 6)) t := fun t k => castTop (ef_9 m r0 (Int32.ofNat fn) (Int32.ofNat tn)) k
  have c1 : own_G p e below s₁ (mkF m 2 #[oa r0, oi (Int32.ofNat fn), oi (Int32.ofNat tn), oi (Int32.ofNat fn), .unset, .unset] []) (mkF m 0 #[oa r0, oi (Int32.ofNat fn), oi (Int32.ofNat tn), .unset, .unset, .unset] []) := by
    intro t kt
    show oS s₁ (mkF m 0 #[oa r0, oi (Int32.ofNat fn), oi (Int32.ofNat tn), .unset, .unset, .unset] []) _
    refine XS.iloadN X0.here hx rfl (hb hby d9_0) rfl ?_
    show oS s₁ (mkF m 1 #[oa r0, oi (Int32.ofNat fn), oi (Int32.ofNat tn), .unset, .unset, .unset] [(.int (Int32.ofNat fn))]) _
    refine XS.istoreN X0.here hx rfl (hb hby d9_1) rfl (l' := #[oa r0, oi (Int32.ofNat fn), oi (Int32.ofNat tn), oi (Int32.ofNat fn), .unset, .unset]) rfl ?_
    exact kt
  obtain ⟨T2, L2, o4, o5, X2, e2, N2, st2⟩ := lckb r0 sa rb kb ua ub uc ud ue fn tn cs fm h0 hx hZ hw hby hml hown Z0 Ei Fi E0 F0 C0 V0 SF hfm SC hcs SA SH SL hru h5 hok (tn - fn) fn (by omega) (Nat.le_refl _) s₁ _ .unset .unset (Or.inl rfl) (Or.inl rfl) X0 e0 N0
  obtain ⟨fs, hr, hrun, hended, hW, hsame⟩ := X2.leave (v := none) (fun _ => rfl)
  refine ⟨_, _, pre0 _ (c1 _ (st2 _ (?_))), hrun, hended, _, _, rfl, ?_, ⟨_, rfl⟩, hW, hsame.mono (by decide) (by decide)⟩
  · show Steps p.tables e below (T2.setTop (mkF m 92 #[oa r0, oi (Int32.ofNat fn), oi (Int32.ofNat tn), oi (Int32.ofNat tn), o4, o5] [])) _
    exact X2.returnOut hx Bd.returns (hb hby d9_92) hr
  · show Q9b Z r0 sa rb kb ua ub uc ud ue fn tn cs fm h0 n0 _ T2.heap _
    rw [e2]
    exact ⟨rfl, N2, rfl⟩
theorem d8_0 : decode prog_57_method_1_code 0 = .ok (.aload_n 0, 1) := by decide +kernel
theorem d8_1 : decode prog_57_method_1_code 1 = .ok (.invokespecial 1, 3) := by decide +kernel
theorem d8_4 : decode prog_57_method_1_code 4 = .ok (.aload_n 0, 1) := by decide +kernel
theorem d8_5 : decode prog_57_method_1_code 5 = .ok (.aload_n 1, 1) := by decide +kernel
theorem d8_6 : decode prog_57_method_1_code 6 = .ok (.putfield 7, 3) := by decide +kernel
theorem d8_9 : decode prog_57_method_1_code 9 = .ok (.return_, 1) := by decide +kernel
theorem pn_8 : plainName "com/example/href/href/uri/IriSyntax" = true := by first | (simp [plainName, overriddenIn]; done) | decide +kernel
theorem ef_8 (m : MethodId) (x0 : Addr) (x1 : Addr) : entryFrame m #[(.ref x0), (.ref x1)] 2 = mkF m 0 #[.val (.ref x0), .val (.ref x1)] [] := by first | (simp [entryFrame, mkF, argsToLocals, Value.category]; done) | rfl
def Q8 (Z : State) (r0 : Addr) (r1 : Addr) (h0 : Heap) (n0 : Nat) (v : Option Value) (h : Heap) (L : List Loc) : Prop := v = none ∧ Fr n0 L ∧ Keep h0 h [r0] ∧ Exa Z h r0 "com/example/href/href/uri/IriSyntax" ∧ Fld Z h r0 "com/example/href/href/uri/IriSyntax" "input" "Ljava/lang/String;" (.ref r1)
set_option maxRecDepth 65536 in
set_option maxHeartbeats 40000000 in
theorem rm8 (l : Launch) (Z : State) (a0 : Array Value) (hw : ∀ d ∈ tables_1, d.before a0 Z = true) (ws : List Jvm.Cond) (r0 : Addr) (r1 : Addr)  (h0 : Heap) (n0 : Nat) (Z0 : n0 ≤ h0.size) (E_o : Exa Z h0 r0 "com/example/href/href/uri/IriSyntax") (F_o : Fld Z h0 r0 "com/example/href/href/uri/IriSyntax" "input" "Ljava/lang/String;" .null) (g_r0 : n0 ≤ r0) :
    MetFree l yy_21 (head1 (Jvm.Cond.code yy_21 prog_57_method_1_code 2 none :: ws) ({ frames := 1, cells := 0, slots := 0, locals := 12 } : Room)) (fun a U => a = #[(.ref r0), (.ref r1)] ∧ Z.Warmed39 U.vm ∧ U.heap = h0) (fun _ _ _ _ _ => True) (fun _ U o U' => ∃ v L, o = .returned v ∧ Q8 Z r0 r1 h0 n0 v U'.heap L ∧ FrameEnd U o U' L ({ frames := 1, cells := 0, slots := 0, locals := 12 } : Room).cells ({ frames := 1, cells := 0, slots := 0, locals := 12 } : Room).slots) := by
  refine MetFree.of_bodySF (plainFor_of_name pn_8) hisR ?_
  intro p e s m args below meth c s₁ Bd hml0 hP hK
  obtain ⟨rfl, hZ, hh⟩ := hP
  have hx := Bd.exec
  have hby := Bd.bytes
  have hml : c.maxLocals = 2 := hml0
  have hown : s.vm.findClass "com/example/href/href/uri/IriSyntax" = some m.cls := findClass_of_methodNamed Bd.named
  have hnm := (name_of_methodNamed Bd.named Bd.method).1
  have X0 : Stand p l e ({ frames := 1, cells := 0, slots := 0, locals := 12 } : Room) s m #[(.ref r0), (.ref r1)] below meth c s₁ [] 0 0 := Stand.of_body Bd
  have e0 : s₁.heap = h0 := by rw [← hh, Bd.state]; rfl
  have N0 := Fr.nil n0
  have pre0 : ∀ t, Steps p.tables e below (s₁.setTop (mkF m 0 #[oa r0, oa r1] [])) t → Steps p.tables e below (s₁.setTop (entryFrame m #[(.ref r0), (.ref r1)] 2)) t := fun t k => castTop (ef_8 m r0 r1) k
  have c2 : own_G p e below s₁ (mkF m 1 #[oa r0, oa r1] [(.ref r0)]) (mkF m 0 #[oa r0, oa r1] []) := by
    intro t kt
    show oS s₁ (mkF m 0 #[oa r0, oa r1] []) _
    refine XS.aloadN X0.here hx rfl (hb hby d8_0) rfl rfl ?_
    exact kt
  obtain ⟨T1, X1, e1, st1⟩ := initO X0 hx hZ hown (own_t hw 41 rfl) (own_t hw 20 rfl) (own_t hw 21 rfl) e0 (g := (mkF m 1 #[oa r0, oa r1] [(.ref r0)])) rfl (by rw [hml]; rfl) rfl (hb hby d8_1) (by decide) (W := 0) (by show 2 * 0 + _ ≤ _; exact Nat.le_of_eq rfl) (by decide)
  have c4 : own_G p e below T1 (mkF m 6 #[oa r0, oa r1] [(.ref r1), (.ref r0)]) (mkF m 4 #[oa r0, oa r1] []) := by
    intro t kt
    show oS T1 (mkF m 4 #[oa r0, oa r1] []) _
    refine XS.aloadN X1.here hx rfl (hb hby d8_4) rfl rfl ?_
    show oS T1 (mkF m 5 #[oa r0, oa r1] [(.ref r0)]) _
    refine XS.aloadN X1.here hx rfl (hb hby d8_5) rfl rfl ?_
    exact kt
  obtain ⟨T3, h3, X3, e3, W3, st3⟩ := putF X1 hx hZ hown (host := "") (Or.inl (own_t hw 42 rfl)) Via.refl e1 F_o E_o (Or.inr ⟨(own_t hw 43 rfl), rfl, hnm⟩) (own_t hw 7 rfl) (ty := (.object "java/lang/String")) (by decide) rfl rfl (g := (mkF m 6 #[oa r0, oa r1] [(.ref r1), (.ref r0)])) rfl rfl (hb hby d8_6)
  have Fw3 := F_o.same W3
  have N3 := Fr.snoc X3 N0 g_r0
  obtain ⟨fs, hr, hrun, hended, hW, hsame⟩ := X3.leave (v := none) (fun _ => rfl)
  have f6 := ((Keep.refl h0 [r0]).wr W3 (Or.inl (List.mem_of_getElem? (i := 0) rfl)))
  have f7 := (E_o.wr W3)
  refine ⟨_, _, pre0 _ (c2 _ (st1 _ (c4 _ (st3 _ (?_))))), hrun, hended, _, _, rfl, ?_, ⟨_, rfl⟩, hW, hsame.mono (by decide) (by decide)⟩
  · show Steps p.tables e below (T3.setTop (mkF m 9 #[oa r0, oa r1] [])) _
    exact X3.returnOut hx Bd.returns (hb hby d8_9) hr
  · show Q8 Z r0 r1 h0 n0 _ T3.heap _
    rw [e3]
    exact ⟨rfl, N3, f6, f7, Fw3⟩
theorem d1_0 : decode method_3_code 0 = .ok (.iload_n 1, 1) := by decide +kernel
theorem d1_1 : decode method_3_code 1 = .ok (.iload_n 2, 1) := by decide +kernel
theorem d1_2 : decode method_3_code 2 = .ok (.if_icmp .lt 8, 3) := by decide +kernel
theorem d1_5 : decode method_3_code 5 = .ok (.iload_n 1, 1) := by decide +kernel
theorem d1_6 : decode method_3_code 6 = .ok (.iload_n 3, 1) := by decide +kernel
theorem d1_7 : decode method_3_code 7 = .ok (.if_icmp .lt 9, 3) := by decide +kernel
theorem d1_10 : decode method_3_code 10 = .ok (.iload_n 0, 1) := by decide +kernel
theorem d1_11 : decode method_3_code 11 = .ok (.ldc 27, 2) := by decide +kernel
theorem d1_13 : decode method_3_code 13 = .ok (.iand, 1) := by decide +kernel
theorem d1_14 : decode method_3_code 14 = .ok (.i2c, 1) := by decide +kernel
theorem d1_15 : decode method_3_code 15 = .ok (.ireturn, 1) := by decide +kernel
theorem d1_16 : decode method_3_code 16 = .ok (.iload_n 0, 1) := by decide +kernel
theorem d1_17 : decode method_3_code 17 = .ok (.ldc 28, 2) := by decide +kernel
theorem d1_19 : decode method_3_code 19 = .ok (.iand, 1) := by decide +kernel
theorem d1_20 : decode method_3_code 20 = .ok (.istore 4, 2) := by decide +kernel
theorem d1_22 : decode method_3_code 22 = .ok (.iload_n 1, 1) := by decide +kernel
theorem d1_23 : decode method_3_code 23 = .ok (.iload_n 2, 1) := by decide +kernel
theorem d1_24 : decode method_3_code 24 = .ok (.if_icmp .ne 34, 3) := by decide +kernel
theorem d1_27 : decode method_3_code 27 = .ok (.iload 4, 2) := by decide +kernel
theorem d1_29 : decode method_3_code 29 = .ok (.bipush 52, 2) := by decide +kernel
theorem d1_31 : decode method_3_code 31 = .ok (.irem, 1) := by decide +kernel
theorem d1_32 : decode method_3_code 32 = .ok (.istore 4, 2) := by decide +kernel
theorem d1_34 : decode method_3_code 34 = .ok (.iload 4, 2) := by decide +kernel
theorem d1_36 : decode method_3_code 36 = .ok (.bipush 26, 2) := by decide +kernel
theorem d1_38 : decode method_3_code 38 = .ok (.if_icmp .ge 10, 3) := by decide +kernel
theorem d1_41 : decode method_3_code 41 = .ok (.bipush 65, 2) := by decide +kernel
theorem d1_43 : decode method_3_code 43 = .ok (.iload 4, 2) := by decide +kernel
theorem d1_45 : decode method_3_code 45 = .ok (.iadd, 1) := by decide +kernel
theorem d1_46 : decode method_3_code 46 = .ok (.i2c, 1) := by decide +kernel
theorem d1_47 : decode method_3_code 47 = .ok (.ireturn, 1) := by decide +kernel
theorem d1_48 : decode method_3_code 48 = .ok (.bipush 97, 2) := by decide +kernel
theorem d1_50 : decode method_3_code 50 = .ok (.iload 4, 2) := by decide +kernel
theorem d1_52 : decode method_3_code 52 = .ok (.bipush 26, 2) := by decide +kernel
theorem d1_54 : decode method_3_code 54 = .ok (.isub, 1) := by decide +kernel
theorem d1_55 : decode method_3_code 55 = .ok (.iadd, 1) := by decide +kernel
theorem d1_56 : decode method_3_code 56 = .ok (.i2c, 1) := by decide +kernel
theorem d1_57 : decode method_3_code 57 = .ok (.ireturn, 1) := by decide +kernel
theorem d1_58 : decode method_3_code 58 = .ok (.iload 4, 2) := by decide +kernel
theorem d1_60 : decode method_3_code 60 = .ok (.bipush 65, 2) := by decide +kernel
theorem d1_62 : decode method_3_code 62 = .ok (.irem, 1) := by decide +kernel
theorem d1_63 : decode method_3_code 63 = .ok (.istore 4, 2) := by decide +kernel
theorem d1_65 : decode method_3_code 65 = .ok (.iload 4, 2) := by decide +kernel
theorem d1_67 : decode method_3_code 67 = .ok (.bipush 26, 2) := by decide +kernel
theorem d1_69 : decode method_3_code 69 = .ok (.if_icmp .ge 10, 3) := by decide +kernel
theorem d1_72 : decode method_3_code 72 = .ok (.bipush 65, 2) := by decide +kernel
theorem d1_74 : decode method_3_code 74 = .ok (.iload 4, 2) := by decide +kernel
theorem d1_76 : decode method_3_code 76 = .ok (.iadd, 1) := by decide +kernel
theorem d1_77 : decode method_3_code 77 = .ok (.i2c, 1) := by decide +kernel
theorem d1_78 : decode method_3_code 78 = .ok (.ireturn, 1) := by decide +kernel
theorem d1_79 : decode method_3_code 79 = .ok (.iload 4, 2) := by decide +kernel
theorem d1_81 : decode method_3_code 81 = .ok (.bipush 52, 2) := by decide +kernel
theorem d1_83 : decode method_3_code 83 = .ok (.if_icmp .ge 13, 3) := by decide +kernel
theorem d1_86 : decode method_3_code 86 = .ok (.bipush 97, 2) := by decide +kernel
theorem d1_88 : decode method_3_code 88 = .ok (.iload 4, 2) := by decide +kernel
theorem d1_90 : decode method_3_code 90 = .ok (.bipush 26, 2) := by decide +kernel
theorem d1_92 : decode method_3_code 92 = .ok (.isub, 1) := by decide +kernel
theorem d1_93 : decode method_3_code 93 = .ok (.iadd, 1) := by decide +kernel
theorem d1_94 : decode method_3_code 94 = .ok (.i2c, 1) := by decide +kernel
theorem d1_95 : decode method_3_code 95 = .ok (.ireturn, 1) := by decide +kernel
theorem d1_96 : decode method_3_code 96 = .ok (.iload 4, 2) := by decide +kernel
theorem d1_98 : decode method_3_code 98 = .ok (.bipush 62, 2) := by decide +kernel
theorem d1_100 : decode method_3_code 100 = .ok (.if_icmp .ge 13, 3) := by decide +kernel
theorem d1_103 : decode method_3_code 103 = .ok (.bipush 48, 2) := by decide +kernel
theorem d1_105 : decode method_3_code 105 = .ok (.iload 4, 2) := by decide +kernel
theorem d1_107 : decode method_3_code 107 = .ok (.bipush 52, 2) := by decide +kernel
theorem d1_109 : decode method_3_code 109 = .ok (.isub, 1) := by decide +kernel
theorem d1_110 : decode method_3_code 110 = .ok (.iadd, 1) := by decide +kernel
theorem d1_111 : decode method_3_code 111 = .ok (.i2c, 1) := by decide +kernel
theorem d1_112 : decode method_3_code 112 = .ok (.ireturn, 1) := by decide +kernel
theorem d1_113 : decode method_3_code 113 = .ok (.iload 4, 2) := by decide +kernel
theorem d1_115 : decode method_3_code 115 = .ok (.bipush 62, 2) := by decide +kernel
theorem d1_117 : decode method_3_code 117 = .ok (.if_icmp .ne 6, 3) := by decide +kernel
theorem d1_120 : decode method_3_code 120 = .ok (.bipush 43, 2) := by decide +kernel
theorem d1_122 : decode method_3_code 122 = .ok (.ireturn, 1) := by decide +kernel
theorem d1_123 : decode method_3_code 123 = .ok (.iload 4, 2) := by decide +kernel
theorem d1_125 : decode method_3_code 125 = .ok (.bipush 63, 2) := by decide +kernel
theorem d1_127 : decode method_3_code 127 = .ok (.if_icmp .ne 6, 3) := by decide +kernel
theorem d1_130 : decode method_3_code 130 = .ok (.bipush 45, 2) := by decide +kernel
theorem d1_132 : decode method_3_code 132 = .ok (.ireturn, 1) := by decide +kernel
theorem d1_133 : decode method_3_code 133 = .ok (.bipush 46, 2) := by decide +kernel
theorem d1_135 : decode method_3_code 135 = .ok (.ireturn, 1) := by decide +kernel
theorem pn_1 : plainName "com/example/href/href/uri/IriSyntaxCheckSchemePinLaw" = true := by first | (simp [plainName, overriddenIn]; done) | decide +kernel
theorem ef_1 (m : MethodId) (x0 : Int32) (x1 : Int32) (x2 : Int32) (x3 : Int32) : entryFrame m #[(.int x0), (.int x1), (.int x2), (.int x3)] 5 = mkF m 0 #[.val (.int x0), .val (.int x1), .val (.int x2), .val (.int x3), .unset] [] := by first | (simp [entryFrame, mkF, argsToLocals, Value.category]; done) | rfl
def Q1 (Z : State) (p0 : Int32) (p1 : Int32) (p2 : Int32) (p3 : Int32) (h0 : Heap) (n0 : Nat) (v : Option Value) (h : Heap) (L : List Loc) : Prop := v = some (.int (own_pick p0 p1 p2 p3)) ∧ Fr n0 L ∧ h = h0
set_option maxRecDepth 65536 in
set_option maxHeartbeats 40000000 in
theorem rm1 (l : Launch) (Z : State) (a0 : Array Value) (hw : ∀ d ∈ tables_1, d.before a0 Z = true) (ws : List Jvm.Cond) (p0 : Int32) (p1 : Int32) (p2 : Int32) (p3 : Int32)  (h0 : Heap) (n0 : Nat) (Z0 : n0 ≤ h0.size) :
    MetFree l yy_22 (head1 (Jvm.Cond.code yy_22 method_3_code 5 (some .char) :: ws) ({ frames := 0, cells := 0, slots := 0, locals := 0 } : Room)) (fun a U => a = #[(.int p0), (.int p1), (.int p2), (.int p3)] ∧ Z.Warmed39 U.vm ∧ U.heap = h0) (fun _ _ _ _ _ => True) (fun _ U o U' => ∃ v L, o = .returned v ∧ Q1 Z p0 p1 p2 p3 h0 n0 v U'.heap L ∧ FrameEnd U o U' L ({ frames := 0, cells := 0, slots := 0, locals := 0 } : Room).cells ({ frames := 0, cells := 0, slots := 0, locals := 0 } : Room).slots) := by
  refine MetFree.of_bodySF (plainFor_of_name pn_1) hisR ?_
  intro p e s m args below meth c s₁ Bd hml0 hP hK
  obtain ⟨rfl, hZ, hh⟩ := hP
  have hx := Bd.exec
  have hby := Bd.bytes
  have hml : c.maxLocals = 5 := hml0
  have hown : s.vm.findClass "com/example/href/href/uri/IriSyntaxCheckSchemePinLaw" = some m.cls := findClass_of_methodNamed Bd.named
  have hnm := (name_of_methodNamed Bd.named Bd.method).1
  have X0 : Stand p l e ({ frames := 0, cells := 0, slots := 0, locals := 0 } : Room) s m #[(.int p0), (.int p1), (.int p2), (.int p3)] below meth c s₁ [] 0 0 := Stand.of_body Bd
  have e0 : s₁.heap = h0 := by rw [← hh, Bd.state]; rfl
  have N0 := Fr.nil n0
  have pre0 : ∀ t, Steps p.tables e below (s₁.setTop (mkF m 0 #[oi p0, oi p1, oi p2, oi p3, .unset] [])) t → Steps p.tables e below (s₁.setTop (entryFrame m #[(.int p0), (.int p1), (.int p2), (.int p3)] 5)) t := fun t k => castTop (ef_1 m p0 p1 p2 p3) k
  have c1 : own_G p e below s₁ (mkF m 2 #[oi p0, oi p1, oi p2, oi p3, .unset] [(.int p2), (.int p1)]) (mkF m 0 #[oi p0, oi p1, oi p2, oi p3, .unset] []) := by
    intro t kt
    show oS s₁ (mkF m 0 #[oi p0, oi p1, oi p2, oi p3, .unset] []) _
    refine XS.iloadN X0.here hx rfl (hb hby d1_0) rfl ?_
    show oS s₁ (mkF m 1 #[oi p0, oi p1, oi p2, oi p3, .unset] [(.int p1)]) _
    refine XS.iloadN X0.here hx rfl (hb hby d1_1) rfl ?_
    exact kt
  by_cases hc2 : p1 < p2
  · -- it is
    have c2 : own_G p e below s₁ (mkF m 15 #[oi p0, oi p1, oi p2, oi p3, .unset] [(.int ((p0 &&& (65535 : Int32)).toUInt32.toUInt16.toUInt32.toInt32))]) (mkF m 2 #[oi p0, oi p1, oi p2, oi p3, .unset] [(.int p2), (.int p1)]) := by
      intro t kt
      show oS s₁ (mkF m 2 #[oi p0, oi p1, oi p2, oi p3, .unset] [(.int p2), (.int p1)]) _
      refine XS.icmpYes X0.here hx rfl (pc0 := 2) (pc' := 10) rfl (hb hby d1_2) rfl (tlt hc2).1 (by decide) (by decide) ?_
      show oS s₁ (mkF m 10 #[oi p0, oi p1, oi p2, oi p3, .unset] []) _
      refine XS.iloadN X0.here hx rfl (hb hby d1_10) rfl ?_
      show oS s₁ (mkF m 11 #[oi p0, oi p1, oi p2, oi p3, .unset] [(.int p0)]) _
      refine X0.ldcInt hx hown (mvT hZ (own_t hw 5 rfl)) (g := (mkF m 11 #[oi p0, oi p1, oi p2, oi p3, .unset] [(.int p0)])) rfl (hb hby d1_11) _ ?_
      show oS s₁ (mkF m 13 #[oi p0, oi p1, oi p2, oi p3, .unset] [(.int (65535 : Int32)), (.int p0)]) _
      refine XS.iand X0.here hx rfl (hb hby d1_13) rfl ?_
      show oS s₁ (mkF m 14 #[oi p0, oi p1, oi p2, oi p3, .unset] [(.int (p0 &&& (65535 : Int32)))]) _
      refine XS.i2c X0.here hx rfl (hb hby d1_14) rfl ?_
      exact kt
    obtain ⟨fs, hr, hrun, hended, hW, hsame⟩ := X0.leave (v := some (.int (((p0 &&& (65535 : Int32)).toUInt32.toUInt16.toUInt32.toInt32).toUInt32.toUInt16.toUInt32.toInt32))) (fun h => by rw [Bd.returns] at h; cases h)
    refine ⟨_, _, pre0 _ (c1 _ (c2 _ (?_))), hrun, hended, _, _, rfl, ?_, ⟨_, rfl⟩, hW, hsame.mono (by decide) (by decide)⟩
    · show Steps p.tables e below (s₁.setTop (mkF m 15 #[oi p0, oi p1, oi p2, oi p3, .unset] [(.int ((p0 &&& (65535 : Int32)).toUInt32.toUInt16.toUInt32.toInt32))])) _
      exact retN X0 hx (t := .char) Bd.returns (by simp) (hb hby d1_15) hr
    · show Q1 Z p0 p1 p2 p3 h0 n0 _ s₁.heap _
      rw [e0]
      exact ⟨congrArg (fun z => some (Value.int z)) (show (((p0 &&& (65535 : Int32)).toUInt32.toUInt16.toUInt32.toInt32).toUInt32.toUInt16.toUInt32.toInt32) = (own_pick p0 p1 p2 p3) from by unfold own_pick; rw [if_pos hc2]; rfl), N0, rfl⟩
  · -- it isn't
    have c4 : own_G p e below s₁ (mkF m 7 #[oi p0, oi p1, oi p2, oi p3, .unset] [(.int p3), (.int p1)]) (mkF m 2 #[oi p0, oi p1, oi p2, oi p3, .unset] [(.int p2), (.int p1)]) := by
      intro t kt
      show oS s₁ (mkF m 2 #[oi p0, oi p1, oi p2, oi p3, .unset] [(.int p2), (.int p1)]) _
      refine XS.icmpNo X0.here hx rfl (hb hby d1_2) rfl (flt hc2).1 ?_
      show oS s₁ (mkF m 5 #[oi p0, oi p1, oi p2, oi p3, .unset] []) _
      refine XS.iloadN X0.here hx rfl (hb hby d1_5) rfl ?_
      show oS s₁ (mkF m 6 #[oi p0, oi p1, oi p2, oi p3, .unset] [(.int p1)]) _
      refine XS.iloadN X0.here hx rfl (hb hby d1_6) rfl ?_
      exact kt
    by_cases hc7 : p1 < p3
    · -- it is
      have c5 : own_G p e below s₁ (mkF m 24 #[oi p0, oi p1, oi p2, oi p3, oi (p0 &&& (2147483647 : Int32))] [(.int p2), (.int p1)]) (mkF m 7 #[oi p0, oi p1, oi p2, oi p3, .unset] [(.int p3), (.int p1)]) := by
        intro t kt
        show oS s₁ (mkF m 7 #[oi p0, oi p1, oi p2, oi p3, .unset] [(.int p3), (.int p1)]) _
        refine XS.icmpYes X0.here hx rfl (pc0 := 7) (pc' := 16) rfl (hb hby d1_7) rfl (tlt hc7).1 (by decide) (by decide) ?_
        show oS s₁ (mkF m 16 #[oi p0, oi p1, oi p2, oi p3, .unset] []) _
        refine XS.iloadN X0.here hx rfl (hb hby d1_16) rfl ?_
        show oS s₁ (mkF m 17 #[oi p0, oi p1, oi p2, oi p3, .unset] [(.int p0)]) _
        refine X0.ldcInt hx hown (mvT hZ (own_t hw 49 rfl)) (g := (mkF m 17 #[oi p0, oi p1, oi p2, oi p3, .unset] [(.int p0)])) rfl (hb hby d1_17) _ ?_
        show oS s₁ (mkF m 19 #[oi p0, oi p1, oi p2, oi p3, .unset] [(.int (2147483647 : Int32)), (.int p0)]) _
        refine XS.iand X0.here hx rfl (hb hby d1_19) rfl ?_
        show oS s₁ (mkF m 20 #[oi p0, oi p1, oi p2, oi p3, .unset] [(.int (p0 &&& (2147483647 : Int32)))]) _
        refine XS.istore X0.here hx rfl (hb hby d1_20) rfl (l' := #[oi p0, oi p1, oi p2, oi p3, oi (p0 &&& (2147483647 : Int32))]) rfl ?_
        show oS s₁ (mkF m 22 #[oi p0, oi p1, oi p2, oi p3, oi (p0 &&& (2147483647 : Int32))] []) _
        refine XS.iloadN X0.here hx rfl (hb hby d1_22) rfl ?_
        show oS s₁ (mkF m 23 #[oi p0, oi p1, oi p2, oi p3, oi (p0 &&& (2147483647 : Int32))] [(.int p1)]) _
        refine XS.iloadN X0.here hx rfl (hb hby d1_23) rfl ?_
        exact kt
      by_cases hc24 : p1 = p2
      · -- it is
        have c6 : own_G p e below s₁ (mkF m 38 #[oi p0, oi p1, oi p2, oi p3, oi ((p0 &&& (2147483647 : Int32)) % (52 : Int32))] [(.int (26 : Int32)), (.int ((p0 &&& (2147483647 : Int32)) % (52 : Int32)))]) (mkF m 24 #[oi p0, oi p1, oi p2, oi p3, oi (p0 &&& (2147483647 : Int32))] [(.int p2), (.int p1)]) := by
          intro t kt
          show oS s₁ (mkF m 24 #[oi p0, oi p1, oi p2, oi p3, oi (p0 &&& (2147483647 : Int32))] [(.int p2), (.int p1)]) _
          refine XS.icmpNo X0.here hx rfl (hb hby d1_24) rfl (teq hc24).2 ?_
          show oS s₁ (mkF m 27 #[oi p0, oi p1, oi p2, oi p3, oi (p0 &&& (2147483647 : Int32))] []) _
          refine XS.iload X0.here hx rfl (hb hby d1_27) rfl ?_
          show oS s₁ (mkF m 29 #[oi p0, oi p1, oi p2, oi p3, oi (p0 &&& (2147483647 : Int32))] [(.int (p0 &&& (2147483647 : Int32)))]) _
          refine XS.bipush X0.here hx rfl (hb hby d1_29) ?_
          show oS s₁ (mkF m 31 #[oi p0, oi p1, oi p2, oi p3, oi (p0 &&& (2147483647 : Int32))] [(.int (52 : Int32)), (.int (p0 &&& (2147483647 : Int32)))]) _
          refine iremM X0 hx rfl (hb hby d1_31) rfl (by decide) ?_
          show oS s₁ (mkF m 32 #[oi p0, oi p1, oi p2, oi p3, oi (p0 &&& (2147483647 : Int32))] [(.int ((p0 &&& (2147483647 : Int32)) % (52 : Int32)))]) _
          refine XS.istore X0.here hx rfl (hb hby d1_32) rfl (l' := #[oi p0, oi p1, oi p2, oi p3, oi ((p0 &&& (2147483647 : Int32)) % (52 : Int32))]) rfl ?_
          show oS s₁ (mkF m 34 #[oi p0, oi p1, oi p2, oi p3, oi ((p0 &&& (2147483647 : Int32)) % (52 : Int32))] []) _
          refine XS.iload X0.here hx rfl (hb hby d1_34) rfl ?_
          show oS s₁ (mkF m 36 #[oi p0, oi p1, oi p2, oi p3, oi ((p0 &&& (2147483647 : Int32)) % (52 : Int32))] [(.int ((p0 &&& (2147483647 : Int32)) % (52 : Int32)))]) _
          refine XS.bipush X0.here hx rfl (hb hby d1_36) ?_
          exact kt
        by_cases hc38 : ((p0 &&& (2147483647 : Int32)) % (52 : Int32)) < (26 : Int32)
        · -- it is
          have c7 : own_G p e below s₁ (mkF m 47 #[oi p0, oi p1, oi p2, oi p3, oi ((p0 &&& (2147483647 : Int32)) % (52 : Int32))] [(.int (((65 : Int32) + ((p0 &&& (2147483647 : Int32)) % (52 : Int32))).toUInt32.toUInt16.toUInt32.toInt32))]) (mkF m 38 #[oi p0, oi p1, oi p2, oi p3, oi ((p0 &&& (2147483647 : Int32)) % (52 : Int32))] [(.int (26 : Int32)), (.int ((p0 &&& (2147483647 : Int32)) % (52 : Int32)))]) := by
            intro t kt
            show oS s₁ (mkF m 38 #[oi p0, oi p1, oi p2, oi p3, oi ((p0 &&& (2147483647 : Int32)) % (52 : Int32))] [(.int (26 : Int32)), (.int ((p0 &&& (2147483647 : Int32)) % (52 : Int32)))]) _
            refine XS.icmpNo X0.here hx rfl (hb hby d1_38) rfl (tlt hc38).2.1 ?_
            show oS s₁ (mkF m 41 #[oi p0, oi p1, oi p2, oi p3, oi ((p0 &&& (2147483647 : Int32)) % (52 : Int32))] []) _
            refine XS.bipush X0.here hx rfl (hb hby d1_41) ?_
            show oS s₁ (mkF m 43 #[oi p0, oi p1, oi p2, oi p3, oi ((p0 &&& (2147483647 : Int32)) % (52 : Int32))] [(.int (65 : Int32))]) _
            refine XS.iload X0.here hx rfl (hb hby d1_43) rfl ?_
            show oS s₁ (mkF m 45 #[oi p0, oi p1, oi p2, oi p3, oi ((p0 &&& (2147483647 : Int32)) % (52 : Int32))] [(.int ((p0 &&& (2147483647 : Int32)) % (52 : Int32))), (.int (65 : Int32))]) _
            refine XS.iadd X0.here hx rfl (hb hby d1_45) rfl ?_
            show oS s₁ (mkF m 46 #[oi p0, oi p1, oi p2, oi p3, oi ((p0 &&& (2147483647 : Int32)) % (52 : Int32))] [(.int ((65 : Int32) + ((p0 &&& (2147483647 : Int32)) % (52 : Int32))))]) _
            refine XS.i2c X0.here hx rfl (hb hby d1_46) rfl ?_
            exact kt
          obtain ⟨fs, hr, hrun, hended, hW, hsame⟩ := X0.leave (v := some (.int ((((65 : Int32) + ((p0 &&& (2147483647 : Int32)) % (52 : Int32))).toUInt32.toUInt16.toUInt32.toInt32).toUInt32.toUInt16.toUInt32.toInt32))) (fun h => by rw [Bd.returns] at h; cases h)
          refine ⟨_, _, pre0 _ (c1 _ (c4 _ (c5 _ (c6 _ (c7 _ (?_)))))), hrun, hended, _, _, rfl, ?_, ⟨_, rfl⟩, hW, hsame.mono (by decide) (by decide)⟩
          · show Steps p.tables e below (s₁.setTop (mkF m 47 #[oi p0, oi p1, oi p2, oi p3, oi ((p0 &&& (2147483647 : Int32)) % (52 : Int32))] [(.int (((65 : Int32) + ((p0 &&& (2147483647 : Int32)) % (52 : Int32))).toUInt32.toUInt16.toUInt32.toInt32))])) _
            exact retN X0 hx (t := .char) Bd.returns (by simp) (hb hby d1_47) hr
          · show Q1 Z p0 p1 p2 p3 h0 n0 _ s₁.heap _
            rw [e0]
            exact ⟨congrArg (fun z => some (Value.int z)) (show ((((65 : Int32) + ((p0 &&& (2147483647 : Int32)) % (52 : Int32))).toUInt32.toUInt16.toUInt32.toInt32).toUInt32.toUInt16.toUInt32.toInt32) = (own_pick p0 p1 p2 p3) from by unfold own_pick; rw [if_neg hc2, if_pos hc7, if_pos hc24]; unfold own_pin; rw [if_pos hc38]; rfl), N0, rfl⟩
        · -- it isn't
          have c9 : own_G p e below s₁ (mkF m 57 #[oi p0, oi p1, oi p2, oi p3, oi ((p0 &&& (2147483647 : Int32)) % (52 : Int32))] [(.int (((97 : Int32) + (((p0 &&& (2147483647 : Int32)) % (52 : Int32)) - (26 : Int32))).toUInt32.toUInt16.toUInt32.toInt32))]) (mkF m 38 #[oi p0, oi p1, oi p2, oi p3, oi ((p0 &&& (2147483647 : Int32)) % (52 : Int32))] [(.int (26 : Int32)), (.int ((p0 &&& (2147483647 : Int32)) % (52 : Int32)))]) := by
            intro t kt
            show oS s₁ (mkF m 38 #[oi p0, oi p1, oi p2, oi p3, oi ((p0 &&& (2147483647 : Int32)) % (52 : Int32))] [(.int (26 : Int32)), (.int ((p0 &&& (2147483647 : Int32)) % (52 : Int32)))]) _
            refine XS.icmpYes X0.here hx rfl (pc0 := 38) (pc' := 48) rfl (hb hby d1_38) rfl (flt hc38).2.1 (by decide) (by decide) ?_
            show oS s₁ (mkF m 48 #[oi p0, oi p1, oi p2, oi p3, oi ((p0 &&& (2147483647 : Int32)) % (52 : Int32))] []) _
            refine XS.bipush X0.here hx rfl (hb hby d1_48) ?_
            show oS s₁ (mkF m 50 #[oi p0, oi p1, oi p2, oi p3, oi ((p0 &&& (2147483647 : Int32)) % (52 : Int32))] [(.int (97 : Int32))]) _
            refine XS.iload X0.here hx rfl (hb hby d1_50) rfl ?_
            show oS s₁ (mkF m 52 #[oi p0, oi p1, oi p2, oi p3, oi ((p0 &&& (2147483647 : Int32)) % (52 : Int32))] [(.int ((p0 &&& (2147483647 : Int32)) % (52 : Int32))), (.int (97 : Int32))]) _
            refine XS.bipush X0.here hx rfl (hb hby d1_52) ?_
            show oS s₁ (mkF m 54 #[oi p0, oi p1, oi p2, oi p3, oi ((p0 &&& (2147483647 : Int32)) % (52 : Int32))] [(.int (26 : Int32)), (.int ((p0 &&& (2147483647 : Int32)) % (52 : Int32))), (.int (97 : Int32))]) _
            refine XS.isub X0.here hx rfl (hb hby d1_54) rfl ?_
            show oS s₁ (mkF m 55 #[oi p0, oi p1, oi p2, oi p3, oi ((p0 &&& (2147483647 : Int32)) % (52 : Int32))] [(.int (((p0 &&& (2147483647 : Int32)) % (52 : Int32)) - (26 : Int32))), (.int (97 : Int32))]) _
            refine XS.iadd X0.here hx rfl (hb hby d1_55) rfl ?_
            show oS s₁ (mkF m 56 #[oi p0, oi p1, oi p2, oi p3, oi ((p0 &&& (2147483647 : Int32)) % (52 : Int32))] [(.int ((97 : Int32) + (((p0 &&& (2147483647 : Int32)) % (52 : Int32)) - (26 : Int32))))]) _
            refine XS.i2c X0.here hx rfl (hb hby d1_56) rfl ?_
            exact kt
          obtain ⟨fs, hr, hrun, hended, hW, hsame⟩ := X0.leave (v := some (.int ((((97 : Int32) + (((p0 &&& (2147483647 : Int32)) % (52 : Int32)) - (26 : Int32))).toUInt32.toUInt16.toUInt32.toInt32).toUInt32.toUInt16.toUInt32.toInt32))) (fun h => by rw [Bd.returns] at h; cases h)
          refine ⟨_, _, pre0 _ (c1 _ (c4 _ (c5 _ (c6 _ (c9 _ (?_)))))), hrun, hended, _, _, rfl, ?_, ⟨_, rfl⟩, hW, hsame.mono (by decide) (by decide)⟩
          · show Steps p.tables e below (s₁.setTop (mkF m 57 #[oi p0, oi p1, oi p2, oi p3, oi ((p0 &&& (2147483647 : Int32)) % (52 : Int32))] [(.int (((97 : Int32) + (((p0 &&& (2147483647 : Int32)) % (52 : Int32)) - (26 : Int32))).toUInt32.toUInt16.toUInt32.toInt32))])) _
            exact retN X0 hx (t := .char) Bd.returns (by simp) (hb hby d1_57) hr
          · show Q1 Z p0 p1 p2 p3 h0 n0 _ s₁.heap _
            rw [e0]
            exact ⟨congrArg (fun z => some (Value.int z)) (show ((((97 : Int32) + (((p0 &&& (2147483647 : Int32)) % (52 : Int32)) - (26 : Int32))).toUInt32.toUInt16.toUInt32.toInt32).toUInt32.toUInt16.toUInt32.toInt32) = (own_pick p0 p1 p2 p3) from by unfold own_pick; rw [if_neg hc2, if_pos hc7, if_pos hc24]; unfold own_pin; rw [if_neg hc38]; rfl), N0, rfl⟩
      · -- it isn't
        have c11 : own_G p e below s₁ (mkF m 69 #[oi p0, oi p1, oi p2, oi p3, oi ((p0 &&& (2147483647 : Int32)) % (65 : Int32))] [(.int (26 : Int32)), (.int ((p0 &&& (2147483647 : Int32)) % (65 : Int32)))]) (mkF m 24 #[oi p0, oi p1, oi p2, oi p3, oi (p0 &&& (2147483647 : Int32))] [(.int p2), (.int p1)]) := by
          intro t kt
          show oS s₁ (mkF m 24 #[oi p0, oi p1, oi p2, oi p3, oi (p0 &&& (2147483647 : Int32))] [(.int p2), (.int p1)]) _
          refine XS.icmpYes X0.here hx rfl (pc0 := 24) (pc' := 58) rfl (hb hby d1_24) rfl (feq hc24).2 (by decide) (by decide) ?_
          show oS s₁ (mkF m 58 #[oi p0, oi p1, oi p2, oi p3, oi (p0 &&& (2147483647 : Int32))] []) _
          refine XS.iload X0.here hx rfl (hb hby d1_58) rfl ?_
          show oS s₁ (mkF m 60 #[oi p0, oi p1, oi p2, oi p3, oi (p0 &&& (2147483647 : Int32))] [(.int (p0 &&& (2147483647 : Int32)))]) _
          refine XS.bipush X0.here hx rfl (hb hby d1_60) ?_
          show oS s₁ (mkF m 62 #[oi p0, oi p1, oi p2, oi p3, oi (p0 &&& (2147483647 : Int32))] [(.int (65 : Int32)), (.int (p0 &&& (2147483647 : Int32)))]) _
          refine iremM X0 hx rfl (hb hby d1_62) rfl (by decide) ?_
          show oS s₁ (mkF m 63 #[oi p0, oi p1, oi p2, oi p3, oi (p0 &&& (2147483647 : Int32))] [(.int ((p0 &&& (2147483647 : Int32)) % (65 : Int32)))]) _
          refine XS.istore X0.here hx rfl (hb hby d1_63) rfl (l' := #[oi p0, oi p1, oi p2, oi p3, oi ((p0 &&& (2147483647 : Int32)) % (65 : Int32))]) rfl ?_
          show oS s₁ (mkF m 65 #[oi p0, oi p1, oi p2, oi p3, oi ((p0 &&& (2147483647 : Int32)) % (65 : Int32))] []) _
          refine XS.iload X0.here hx rfl (hb hby d1_65) rfl ?_
          show oS s₁ (mkF m 67 #[oi p0, oi p1, oi p2, oi p3, oi ((p0 &&& (2147483647 : Int32)) % (65 : Int32))] [(.int ((p0 &&& (2147483647 : Int32)) % (65 : Int32)))]) _
          refine XS.bipush X0.here hx rfl (hb hby d1_67) ?_
          exact kt
        by_cases hc69 : ((p0 &&& (2147483647 : Int32)) % (65 : Int32)) < (26 : Int32)
        · -- it is
          have c12 : own_G p e below s₁ (mkF m 78 #[oi p0, oi p1, oi p2, oi p3, oi ((p0 &&& (2147483647 : Int32)) % (65 : Int32))] [(.int (((65 : Int32) + ((p0 &&& (2147483647 : Int32)) % (65 : Int32))).toUInt32.toUInt16.toUInt32.toInt32))]) (mkF m 69 #[oi p0, oi p1, oi p2, oi p3, oi ((p0 &&& (2147483647 : Int32)) % (65 : Int32))] [(.int (26 : Int32)), (.int ((p0 &&& (2147483647 : Int32)) % (65 : Int32)))]) := by
            intro t kt
            show oS s₁ (mkF m 69 #[oi p0, oi p1, oi p2, oi p3, oi ((p0 &&& (2147483647 : Int32)) % (65 : Int32))] [(.int (26 : Int32)), (.int ((p0 &&& (2147483647 : Int32)) % (65 : Int32)))]) _
            refine XS.icmpNo X0.here hx rfl (hb hby d1_69) rfl (tlt hc69).2.1 ?_
            show oS s₁ (mkF m 72 #[oi p0, oi p1, oi p2, oi p3, oi ((p0 &&& (2147483647 : Int32)) % (65 : Int32))] []) _
            refine XS.bipush X0.here hx rfl (hb hby d1_72) ?_
            show oS s₁ (mkF m 74 #[oi p0, oi p1, oi p2, oi p3, oi ((p0 &&& (2147483647 : Int32)) % (65 : Int32))] [(.int (65 : Int32))]) _
            refine XS.iload X0.here hx rfl (hb hby d1_74) rfl ?_
            show oS s₁ (mkF m 76 #[oi p0, oi p1, oi p2, oi p3, oi ((p0 &&& (2147483647 : Int32)) % (65 : Int32))] [(.int ((p0 &&& (2147483647 : Int32)) % (65 : Int32))), (.int (65 : Int32))]) _
            refine XS.iadd X0.here hx rfl (hb hby d1_76) rfl ?_
            show oS s₁ (mkF m 77 #[oi p0, oi p1, oi p2, oi p3, oi ((p0 &&& (2147483647 : Int32)) % (65 : Int32))] [(.int ((65 : Int32) + ((p0 &&& (2147483647 : Int32)) % (65 : Int32))))]) _
            refine XS.i2c X0.here hx rfl (hb hby d1_77) rfl ?_
            exact kt
          obtain ⟨fs, hr, hrun, hended, hW, hsame⟩ := X0.leave (v := some (.int ((((65 : Int32) + ((p0 &&& (2147483647 : Int32)) % (65 : Int32))).toUInt32.toUInt16.toUInt32.toInt32).toUInt32.toUInt16.toUInt32.toInt32))) (fun h => by rw [Bd.returns] at h; cases h)
          refine ⟨_, _, pre0 _ (c1 _ (c4 _ (c5 _ (c11 _ (c12 _ (?_)))))), hrun, hended, _, _, rfl, ?_, ⟨_, rfl⟩, hW, hsame.mono (by decide) (by decide)⟩
          · show Steps p.tables e below (s₁.setTop (mkF m 78 #[oi p0, oi p1, oi p2, oi p3, oi ((p0 &&& (2147483647 : Int32)) % (65 : Int32))] [(.int (((65 : Int32) + ((p0 &&& (2147483647 : Int32)) % (65 : Int32))).toUInt32.toUInt16.toUInt32.toInt32))])) _
            exact retN X0 hx (t := .char) Bd.returns (by simp) (hb hby d1_78) hr
          · show Q1 Z p0 p1 p2 p3 h0 n0 _ s₁.heap _
            rw [e0]
            exact ⟨congrArg (fun z => some (Value.int z)) (show ((((65 : Int32) + ((p0 &&& (2147483647 : Int32)) % (65 : Int32))).toUInt32.toUInt16.toUInt32.toInt32).toUInt32.toUInt16.toUInt32.toInt32) = (own_pick p0 p1 p2 p3) from by unfold own_pick; rw [if_neg hc2, if_pos hc7, if_neg hc24]; unfold own_pre; rw [if_pos hc69]; rfl), N0, rfl⟩
        · -- it isn't
          have c14 : own_G p e below s₁ (mkF m 83 #[oi p0, oi p1, oi p2, oi p3, oi ((p0 &&& (2147483647 : Int32)) % (65 : Int32))] [(.int (52 : Int32)), (.int ((p0 &&& (2147483647 : Int32)) % (65 : Int32)))]) (mkF m 69 #[oi p0, oi p1, oi p2, oi p3, oi ((p0 &&& (2147483647 : Int32)) % (65 : Int32))] [(.int (26 : Int32)), (.int ((p0 &&& (2147483647 : Int32)) % (65 : Int32)))]) := by
            intro t kt
            show oS s₁ (mkF m 69 #[oi p0, oi p1, oi p2, oi p3, oi ((p0 &&& (2147483647 : Int32)) % (65 : Int32))] [(.int (26 : Int32)), (.int ((p0 &&& (2147483647 : Int32)) % (65 : Int32)))]) _
            refine XS.icmpYes X0.here hx rfl (pc0 := 69) (pc' := 79) rfl (hb hby d1_69) rfl (flt hc69).2.1 (by decide) (by decide) ?_
            show oS s₁ (mkF m 79 #[oi p0, oi p1, oi p2, oi p3, oi ((p0 &&& (2147483647 : Int32)) % (65 : Int32))] []) _
            refine XS.iload X0.here hx rfl (hb hby d1_79) rfl ?_
            show oS s₁ (mkF m 81 #[oi p0, oi p1, oi p2, oi p3, oi ((p0 &&& (2147483647 : Int32)) % (65 : Int32))] [(.int ((p0 &&& (2147483647 : Int32)) % (65 : Int32)))]) _
            refine XS.bipush X0.here hx rfl (hb hby d1_81) ?_
            exact kt
          by_cases hc83 : ((p0 &&& (2147483647 : Int32)) % (65 : Int32)) < (52 : Int32)
          · -- it is
            have c15 : own_G p e below s₁ (mkF m 95 #[oi p0, oi p1, oi p2, oi p3, oi ((p0 &&& (2147483647 : Int32)) % (65 : Int32))] [(.int (((97 : Int32) + (((p0 &&& (2147483647 : Int32)) % (65 : Int32)) - (26 : Int32))).toUInt32.toUInt16.toUInt32.toInt32))]) (mkF m 83 #[oi p0, oi p1, oi p2, oi p3, oi ((p0 &&& (2147483647 : Int32)) % (65 : Int32))] [(.int (52 : Int32)), (.int ((p0 &&& (2147483647 : Int32)) % (65 : Int32)))]) := by
              intro t kt
              show oS s₁ (mkF m 83 #[oi p0, oi p1, oi p2, oi p3, oi ((p0 &&& (2147483647 : Int32)) % (65 : Int32))] [(.int (52 : Int32)), (.int ((p0 &&& (2147483647 : Int32)) % (65 : Int32)))]) _
              refine XS.icmpNo X0.here hx rfl (hb hby d1_83) rfl (tlt hc83).2.1 ?_
              show oS s₁ (mkF m 86 #[oi p0, oi p1, oi p2, oi p3, oi ((p0 &&& (2147483647 : Int32)) % (65 : Int32))] []) _
              refine XS.bipush X0.here hx rfl (hb hby d1_86) ?_
              show oS s₁ (mkF m 88 #[oi p0, oi p1, oi p2, oi p3, oi ((p0 &&& (2147483647 : Int32)) % (65 : Int32))] [(.int (97 : Int32))]) _
              refine XS.iload X0.here hx rfl (hb hby d1_88) rfl ?_
              show oS s₁ (mkF m 90 #[oi p0, oi p1, oi p2, oi p3, oi ((p0 &&& (2147483647 : Int32)) % (65 : Int32))] [(.int ((p0 &&& (2147483647 : Int32)) % (65 : Int32))), (.int (97 : Int32))]) _
              refine XS.bipush X0.here hx rfl (hb hby d1_90) ?_
              show oS s₁ (mkF m 92 #[oi p0, oi p1, oi p2, oi p3, oi ((p0 &&& (2147483647 : Int32)) % (65 : Int32))] [(.int (26 : Int32)), (.int ((p0 &&& (2147483647 : Int32)) % (65 : Int32))), (.int (97 : Int32))]) _
              refine XS.isub X0.here hx rfl (hb hby d1_92) rfl ?_
              show oS s₁ (mkF m 93 #[oi p0, oi p1, oi p2, oi p3, oi ((p0 &&& (2147483647 : Int32)) % (65 : Int32))] [(.int (((p0 &&& (2147483647 : Int32)) % (65 : Int32)) - (26 : Int32))), (.int (97 : Int32))]) _
              refine XS.iadd X0.here hx rfl (hb hby d1_93) rfl ?_
              show oS s₁ (mkF m 94 #[oi p0, oi p1, oi p2, oi p3, oi ((p0 &&& (2147483647 : Int32)) % (65 : Int32))] [(.int ((97 : Int32) + (((p0 &&& (2147483647 : Int32)) % (65 : Int32)) - (26 : Int32))))]) _
              refine XS.i2c X0.here hx rfl (hb hby d1_94) rfl ?_
              exact kt
            obtain ⟨fs, hr, hrun, hended, hW, hsame⟩ := X0.leave (v := some (.int ((((97 : Int32) + (((p0 &&& (2147483647 : Int32)) % (65 : Int32)) - (26 : Int32))).toUInt32.toUInt16.toUInt32.toInt32).toUInt32.toUInt16.toUInt32.toInt32))) (fun h => by rw [Bd.returns] at h; cases h)
            refine ⟨_, _, pre0 _ (c1 _ (c4 _ (c5 _ (c11 _ (c14 _ (c15 _ (?_))))))), hrun, hended, _, _, rfl, ?_, ⟨_, rfl⟩, hW, hsame.mono (by decide) (by decide)⟩
            · show Steps p.tables e below (s₁.setTop (mkF m 95 #[oi p0, oi p1, oi p2, oi p3, oi ((p0 &&& (2147483647 : Int32)) % (65 : Int32))] [(.int (((97 : Int32) + (((p0 &&& (2147483647 : Int32)) % (65 : Int32)) - (26 : Int32))).toUInt32.toUInt16.toUInt32.toInt32))])) _
              exact retN X0 hx (t := .char) Bd.returns (by simp) (hb hby d1_95) hr
            · show Q1 Z p0 p1 p2 p3 h0 n0 _ s₁.heap _
              rw [e0]
              exact ⟨congrArg (fun z => some (Value.int z)) (show ((((97 : Int32) + (((p0 &&& (2147483647 : Int32)) % (65 : Int32)) - (26 : Int32))).toUInt32.toUInt16.toUInt32.toInt32).toUInt32.toUInt16.toUInt32.toInt32) = (own_pick p0 p1 p2 p3) from by unfold own_pick; rw [if_neg hc2, if_pos hc7, if_neg hc24]; unfold own_pre; rw [if_neg hc69, if_pos hc83]; rfl), N0, rfl⟩
          · -- it isn't
            have c17 : own_G p e below s₁ (mkF m 100 #[oi p0, oi p1, oi p2, oi p3, oi ((p0 &&& (2147483647 : Int32)) % (65 : Int32))] [(.int (62 : Int32)), (.int ((p0 &&& (2147483647 : Int32)) % (65 : Int32)))]) (mkF m 83 #[oi p0, oi p1, oi p2, oi p3, oi ((p0 &&& (2147483647 : Int32)) % (65 : Int32))] [(.int (52 : Int32)), (.int ((p0 &&& (2147483647 : Int32)) % (65 : Int32)))]) := by
              intro t kt
              show oS s₁ (mkF m 83 #[oi p0, oi p1, oi p2, oi p3, oi ((p0 &&& (2147483647 : Int32)) % (65 : Int32))] [(.int (52 : Int32)), (.int ((p0 &&& (2147483647 : Int32)) % (65 : Int32)))]) _
              refine XS.icmpYes X0.here hx rfl (pc0 := 83) (pc' := 96) rfl (hb hby d1_83) rfl (flt hc83).2.1 (by decide) (by decide) ?_
              show oS s₁ (mkF m 96 #[oi p0, oi p1, oi p2, oi p3, oi ((p0 &&& (2147483647 : Int32)) % (65 : Int32))] []) _
              refine XS.iload X0.here hx rfl (hb hby d1_96) rfl ?_
              show oS s₁ (mkF m 98 #[oi p0, oi p1, oi p2, oi p3, oi ((p0 &&& (2147483647 : Int32)) % (65 : Int32))] [(.int ((p0 &&& (2147483647 : Int32)) % (65 : Int32)))]) _
              refine XS.bipush X0.here hx rfl (hb hby d1_98) ?_
              exact kt
            by_cases hc100 : ((p0 &&& (2147483647 : Int32)) % (65 : Int32)) < (62 : Int32)
            · -- it is
              have c18 : own_G p e below s₁ (mkF m 112 #[oi p0, oi p1, oi p2, oi p3, oi ((p0 &&& (2147483647 : Int32)) % (65 : Int32))] [(.int (((48 : Int32) + (((p0 &&& (2147483647 : Int32)) % (65 : Int32)) - (52 : Int32))).toUInt32.toUInt16.toUInt32.toInt32))]) (mkF m 100 #[oi p0, oi p1, oi p2, oi p3, oi ((p0 &&& (2147483647 : Int32)) % (65 : Int32))] [(.int (62 : Int32)), (.int ((p0 &&& (2147483647 : Int32)) % (65 : Int32)))]) := by
                intro t kt
                show oS s₁ (mkF m 100 #[oi p0, oi p1, oi p2, oi p3, oi ((p0 &&& (2147483647 : Int32)) % (65 : Int32))] [(.int (62 : Int32)), (.int ((p0 &&& (2147483647 : Int32)) % (65 : Int32)))]) _
                refine XS.icmpNo X0.here hx rfl (hb hby d1_100) rfl (tlt hc100).2.1 ?_
                show oS s₁ (mkF m 103 #[oi p0, oi p1, oi p2, oi p3, oi ((p0 &&& (2147483647 : Int32)) % (65 : Int32))] []) _
                refine XS.bipush X0.here hx rfl (hb hby d1_103) ?_
                show oS s₁ (mkF m 105 #[oi p0, oi p1, oi p2, oi p3, oi ((p0 &&& (2147483647 : Int32)) % (65 : Int32))] [(.int (48 : Int32))]) _
                refine XS.iload X0.here hx rfl (hb hby d1_105) rfl ?_
                show oS s₁ (mkF m 107 #[oi p0, oi p1, oi p2, oi p3, oi ((p0 &&& (2147483647 : Int32)) % (65 : Int32))] [(.int ((p0 &&& (2147483647 : Int32)) % (65 : Int32))), (.int (48 : Int32))]) _
                refine XS.bipush X0.here hx rfl (hb hby d1_107) ?_
                show oS s₁ (mkF m 109 #[oi p0, oi p1, oi p2, oi p3, oi ((p0 &&& (2147483647 : Int32)) % (65 : Int32))] [(.int (52 : Int32)), (.int ((p0 &&& (2147483647 : Int32)) % (65 : Int32))), (.int (48 : Int32))]) _
                refine XS.isub X0.here hx rfl (hb hby d1_109) rfl ?_
                show oS s₁ (mkF m 110 #[oi p0, oi p1, oi p2, oi p3, oi ((p0 &&& (2147483647 : Int32)) % (65 : Int32))] [(.int (((p0 &&& (2147483647 : Int32)) % (65 : Int32)) - (52 : Int32))), (.int (48 : Int32))]) _
                refine XS.iadd X0.here hx rfl (hb hby d1_110) rfl ?_
                show oS s₁ (mkF m 111 #[oi p0, oi p1, oi p2, oi p3, oi ((p0 &&& (2147483647 : Int32)) % (65 : Int32))] [(.int ((48 : Int32) + (((p0 &&& (2147483647 : Int32)) % (65 : Int32)) - (52 : Int32))))]) _
                refine XS.i2c X0.here hx rfl (hb hby d1_111) rfl ?_
                exact kt
              obtain ⟨fs, hr, hrun, hended, hW, hsame⟩ := X0.leave (v := some (.int ((((48 : Int32) + (((p0 &&& (2147483647 : Int32)) % (65 : Int32)) - (52 : Int32))).toUInt32.toUInt16.toUInt32.toInt32).toUInt32.toUInt16.toUInt32.toInt32))) (fun h => by rw [Bd.returns] at h; cases h)
              refine ⟨_, _, pre0 _ (c1 _ (c4 _ (c5 _ (c11 _ (c14 _ (c17 _ (c18 _ (?_)))))))), hrun, hended, _, _, rfl, ?_, ⟨_, rfl⟩, hW, hsame.mono (by decide) (by decide)⟩
              · show Steps p.tables e below (s₁.setTop (mkF m 112 #[oi p0, oi p1, oi p2, oi p3, oi ((p0 &&& (2147483647 : Int32)) % (65 : Int32))] [(.int (((48 : Int32) + (((p0 &&& (2147483647 : Int32)) % (65 : Int32)) - (52 : Int32))).toUInt32.toUInt16.toUInt32.toInt32))])) _
                exact retN X0 hx (t := .char) Bd.returns (by simp) (hb hby d1_112) hr
              · show Q1 Z p0 p1 p2 p3 h0 n0 _ s₁.heap _
                rw [e0]
                exact ⟨congrArg (fun z => some (Value.int z)) (show ((((48 : Int32) + (((p0 &&& (2147483647 : Int32)) % (65 : Int32)) - (52 : Int32))).toUInt32.toUInt16.toUInt32.toInt32).toUInt32.toUInt16.toUInt32.toInt32) = (own_pick p0 p1 p2 p3) from by unfold own_pick; rw [if_neg hc2, if_pos hc7, if_neg hc24]; unfold own_pre; rw [if_neg hc69, if_neg hc83, if_pos hc100]; rfl), N0, rfl⟩
            · -- it isn't
              have c20 : own_G p e below s₁ (mkF m 117 #[oi p0, oi p1, oi p2, oi p3, oi ((p0 &&& (2147483647 : Int32)) % (65 : Int32))] [(.int (62 : Int32)), (.int ((p0 &&& (2147483647 : Int32)) % (65 : Int32)))]) (mkF m 100 #[oi p0, oi p1, oi p2, oi p3, oi ((p0 &&& (2147483647 : Int32)) % (65 : Int32))] [(.int (62 : Int32)), (.int ((p0 &&& (2147483647 : Int32)) % (65 : Int32)))]) := by
                intro t kt
                show oS s₁ (mkF m 100 #[oi p0, oi p1, oi p2, oi p3, oi ((p0 &&& (2147483647 : Int32)) % (65 : Int32))] [(.int (62 : Int32)), (.int ((p0 &&& (2147483647 : Int32)) % (65 : Int32)))]) _
                refine XS.icmpYes X0.here hx rfl (pc0 := 100) (pc' := 113) rfl (hb hby d1_100) rfl (flt hc100).2.1 (by decide) (by decide) ?_
                show oS s₁ (mkF m 113 #[oi p0, oi p1, oi p2, oi p3, oi ((p0 &&& (2147483647 : Int32)) % (65 : Int32))] []) _
                refine XS.iload X0.here hx rfl (hb hby d1_113) rfl ?_
                show oS s₁ (mkF m 115 #[oi p0, oi p1, oi p2, oi p3, oi ((p0 &&& (2147483647 : Int32)) % (65 : Int32))] [(.int ((p0 &&& (2147483647 : Int32)) % (65 : Int32)))]) _
                refine XS.bipush X0.here hx rfl (hb hby d1_115) ?_
                exact kt
              by_cases hc117 : ((p0 &&& (2147483647 : Int32)) % (65 : Int32)) = (62 : Int32)
              · -- it is
                have c21 : own_G p e below s₁ (mkF m 122 #[oi p0, oi p1, oi p2, oi p3, oi ((p0 &&& (2147483647 : Int32)) % (65 : Int32))] [(.int (43 : Int32))]) (mkF m 117 #[oi p0, oi p1, oi p2, oi p3, oi ((p0 &&& (2147483647 : Int32)) % (65 : Int32))] [(.int (62 : Int32)), (.int ((p0 &&& (2147483647 : Int32)) % (65 : Int32)))]) := by
                  intro t kt
                  show oS s₁ (mkF m 117 #[oi p0, oi p1, oi p2, oi p3, oi ((p0 &&& (2147483647 : Int32)) % (65 : Int32))] [(.int (62 : Int32)), (.int ((p0 &&& (2147483647 : Int32)) % (65 : Int32)))]) _
                  refine XS.icmpNo X0.here hx rfl (hb hby d1_117) rfl (teq hc117).2 ?_
                  show oS s₁ (mkF m 120 #[oi p0, oi p1, oi p2, oi p3, oi ((p0 &&& (2147483647 : Int32)) % (65 : Int32))] []) _
                  refine XS.bipush X0.here hx rfl (hb hby d1_120) ?_
                  exact kt
                obtain ⟨fs, hr, hrun, hended, hW, hsame⟩ := X0.leave (v := some (.int (43 : Int32))) (fun h => by rw [Bd.returns] at h; cases h)
                refine ⟨_, _, pre0 _ (c1 _ (c4 _ (c5 _ (c11 _ (c14 _ (c17 _ (c20 _ (c21 _ (?_))))))))), hrun, hended, _, _, rfl, ?_, ⟨_, rfl⟩, hW, hsame.mono (by decide) (by decide)⟩
                · show Steps p.tables e below (s₁.setTop (mkF m 122 #[oi p0, oi p1, oi p2, oi p3, oi ((p0 &&& (2147483647 : Int32)) % (65 : Int32))] [(.int (43 : Int32))])) _
                  exact retN X0 hx (t := .char) Bd.returns (by simp) (hb hby d1_122) hr
                · show Q1 Z p0 p1 p2 p3 h0 n0 _ s₁.heap _
                  rw [e0]
                  exact ⟨congrArg (fun z => some (Value.int z)) (show (43 : Int32) = (own_pick p0 p1 p2 p3) from by unfold own_pick; rw [if_neg hc2, if_pos hc7, if_neg hc24]; unfold own_pre; rw [if_neg hc69, if_neg hc83, if_neg hc100, if_pos hc117]), N0, rfl⟩
              · -- it isn't
                have c23 : own_G p e below s₁ (mkF m 127 #[oi p0, oi p1, oi p2, oi p3, oi ((p0 &&& (2147483647 : Int32)) % (65 : Int32))] [(.int (63 : Int32)), (.int ((p0 &&& (2147483647 : Int32)) % (65 : Int32)))]) (mkF m 117 #[oi p0, oi p1, oi p2, oi p3, oi ((p0 &&& (2147483647 : Int32)) % (65 : Int32))] [(.int (62 : Int32)), (.int ((p0 &&& (2147483647 : Int32)) % (65 : Int32)))]) := by
                  intro t kt
                  show oS s₁ (mkF m 117 #[oi p0, oi p1, oi p2, oi p3, oi ((p0 &&& (2147483647 : Int32)) % (65 : Int32))] [(.int (62 : Int32)), (.int ((p0 &&& (2147483647 : Int32)) % (65 : Int32)))]) _
                  refine XS.icmpYes X0.here hx rfl (pc0 := 117) (pc' := 123) rfl (hb hby d1_117) rfl (feq hc117).2 (by decide) (by decide) ?_
                  show oS s₁ (mkF m 123 #[oi p0, oi p1, oi p2, oi p3, oi ((p0 &&& (2147483647 : Int32)) % (65 : Int32))] []) _
                  refine XS.iload X0.here hx rfl (hb hby d1_123) rfl ?_
                  show oS s₁ (mkF m 125 #[oi p0, oi p1, oi p2, oi p3, oi ((p0 &&& (2147483647 : Int32)) % (65 : Int32))] [(.int ((p0 &&& (2147483647 : Int32)) % (65 : Int32)))]) _
                  refine XS.bipush X0.here hx rfl (hb hby d1_125) ?_
                  exact kt
                by_cases hc127 : ((p0 &&& (2147483647 : Int32)) % (65 : Int32)) = (63 : Int32)
                · -- it is
                  have c24 : own_G p e below s₁ (mkF m 132 #[oi p0, oi p1, oi p2, oi p3, oi ((p0 &&& (2147483647 : Int32)) % (65 : Int32))] [(.int (45 : Int32))]) (mkF m 127 #[oi p0, oi p1, oi p2, oi p3, oi ((p0 &&& (2147483647 : Int32)) % (65 : Int32))] [(.int (63 : Int32)), (.int ((p0 &&& (2147483647 : Int32)) % (65 : Int32)))]) := by
                    intro t kt
                    show oS s₁ (mkF m 127 #[oi p0, oi p1, oi p2, oi p3, oi ((p0 &&& (2147483647 : Int32)) % (65 : Int32))] [(.int (63 : Int32)), (.int ((p0 &&& (2147483647 : Int32)) % (65 : Int32)))]) _
                    refine XS.icmpNo X0.here hx rfl (hb hby d1_127) rfl (teq hc127).2 ?_
                    show oS s₁ (mkF m 130 #[oi p0, oi p1, oi p2, oi p3, oi ((p0 &&& (2147483647 : Int32)) % (65 : Int32))] []) _
                    refine XS.bipush X0.here hx rfl (hb hby d1_130) ?_
                    exact kt
                  obtain ⟨fs, hr, hrun, hended, hW, hsame⟩ := X0.leave (v := some (.int (45 : Int32))) (fun h => by rw [Bd.returns] at h; cases h)
                  refine ⟨_, _, pre0 _ (c1 _ (c4 _ (c5 _ (c11 _ (c14 _ (c17 _ (c20 _ (c23 _ (c24 _ (?_)))))))))), hrun, hended, _, _, rfl, ?_, ⟨_, rfl⟩, hW, hsame.mono (by decide) (by decide)⟩
                  · show Steps p.tables e below (s₁.setTop (mkF m 132 #[oi p0, oi p1, oi p2, oi p3, oi ((p0 &&& (2147483647 : Int32)) % (65 : Int32))] [(.int (45 : Int32))])) _
                    exact retN X0 hx (t := .char) Bd.returns (by simp) (hb hby d1_132) hr
                  · show Q1 Z p0 p1 p2 p3 h0 n0 _ s₁.heap _
                    rw [e0]
                    exact ⟨congrArg (fun z => some (Value.int z)) (show (45 : Int32) = (own_pick p0 p1 p2 p3) from by unfold own_pick; rw [if_neg hc2, if_pos hc7, if_neg hc24]; unfold own_pre; rw [if_neg hc69, if_neg hc83, if_neg hc100, if_neg hc117, if_pos hc127]), N0, rfl⟩
                · -- it isn't
                  have c26 : own_G p e below s₁ (mkF m 135 #[oi p0, oi p1, oi p2, oi p3, oi ((p0 &&& (2147483647 : Int32)) % (65 : Int32))] [(.int (46 : Int32))]) (mkF m 127 #[oi p0, oi p1, oi p2, oi p3, oi ((p0 &&& (2147483647 : Int32)) % (65 : Int32))] [(.int (63 : Int32)), (.int ((p0 &&& (2147483647 : Int32)) % (65 : Int32)))]) := by
                    intro t kt
                    show oS s₁ (mkF m 127 #[oi p0, oi p1, oi p2, oi p3, oi ((p0 &&& (2147483647 : Int32)) % (65 : Int32))] [(.int (63 : Int32)), (.int ((p0 &&& (2147483647 : Int32)) % (65 : Int32)))]) _
                    refine XS.icmpYes X0.here hx rfl (pc0 := 127) (pc' := 133) rfl (hb hby d1_127) rfl (feq hc127).2 (by decide) (by decide) ?_
                    show oS s₁ (mkF m 133 #[oi p0, oi p1, oi p2, oi p3, oi ((p0 &&& (2147483647 : Int32)) % (65 : Int32))] []) _
                    refine XS.bipush X0.here hx rfl (hb hby d1_133) ?_
                    exact kt
                  obtain ⟨fs, hr, hrun, hended, hW, hsame⟩ := X0.leave (v := some (.int (46 : Int32))) (fun h => by rw [Bd.returns] at h; cases h)
                  refine ⟨_, _, pre0 _ (c1 _ (c4 _ (c5 _ (c11 _ (c14 _ (c17 _ (c20 _ (c23 _ (c26 _ (?_)))))))))), hrun, hended, _, _, rfl, ?_, ⟨_, rfl⟩, hW, hsame.mono (by decide) (by decide)⟩
                  · show Steps p.tables e below (s₁.setTop (mkF m 135 #[oi p0, oi p1, oi p2, oi p3, oi ((p0 &&& (2147483647 : Int32)) % (65 : Int32))] [(.int (46 : Int32))])) _
                    exact retN X0 hx (t := .char) Bd.returns (by simp) (hb hby d1_135) hr
                  · show Q1 Z p0 p1 p2 p3 h0 n0 _ s₁.heap _
                    rw [e0]
                    exact ⟨congrArg (fun z => some (Value.int z)) (show (46 : Int32) = (own_pick p0 p1 p2 p3) from by unfold own_pick; rw [if_neg hc2, if_pos hc7, if_neg hc24]; unfold own_pre; rw [if_neg hc69, if_neg hc83, if_neg hc100, if_neg hc117, if_neg hc127]), N0, rfl⟩
    · -- it isn't
      have c28 : own_G p e below s₁ (mkF m 15 #[oi p0, oi p1, oi p2, oi p3, .unset] [(.int ((p0 &&& (65535 : Int32)).toUInt32.toUInt16.toUInt32.toInt32))]) (mkF m 7 #[oi p0, oi p1, oi p2, oi p3, .unset] [(.int p3), (.int p1)]) := by
        intro t kt
        show oS s₁ (mkF m 7 #[oi p0, oi p1, oi p2, oi p3, .unset] [(.int p3), (.int p1)]) _
        refine XS.icmpNo X0.here hx rfl (hb hby d1_7) rfl (flt hc7).1 ?_
        show oS s₁ (mkF m 10 #[oi p0, oi p1, oi p2, oi p3, .unset] []) _
        refine XS.iloadN X0.here hx rfl (hb hby d1_10) rfl ?_
        show oS s₁ (mkF m 11 #[oi p0, oi p1, oi p2, oi p3, .unset] [(.int p0)]) _
        refine X0.ldcInt hx hown (mvT hZ (own_t hw 5 rfl)) (g := (mkF m 11 #[oi p0, oi p1, oi p2, oi p3, .unset] [(.int p0)])) rfl (hb hby d1_11) _ ?_
        show oS s₁ (mkF m 13 #[oi p0, oi p1, oi p2, oi p3, .unset] [(.int (65535 : Int32)), (.int p0)]) _
        refine XS.iand X0.here hx rfl (hb hby d1_13) rfl ?_
        show oS s₁ (mkF m 14 #[oi p0, oi p1, oi p2, oi p3, .unset] [(.int (p0 &&& (65535 : Int32)))]) _
        refine XS.i2c X0.here hx rfl (hb hby d1_14) rfl ?_
        exact kt
      obtain ⟨fs, hr, hrun, hended, hW, hsame⟩ := X0.leave (v := some (.int (((p0 &&& (65535 : Int32)).toUInt32.toUInt16.toUInt32.toInt32).toUInt32.toUInt16.toUInt32.toInt32))) (fun h => by rw [Bd.returns] at h; cases h)
      refine ⟨_, _, pre0 _ (c1 _ (c4 _ (c28 _ (?_)))), hrun, hended, _, _, rfl, ?_, ⟨_, rfl⟩, hW, hsame.mono (by decide) (by decide)⟩
      · show Steps p.tables e below (s₁.setTop (mkF m 15 #[oi p0, oi p1, oi p2, oi p3, .unset] [(.int ((p0 &&& (65535 : Int32)).toUInt32.toUInt16.toUInt32.toInt32))])) _
        exact retN X0 hx (t := .char) Bd.returns (by simp) (hb hby d1_15) hr
      · show Q1 Z p0 p1 p2 p3 h0 n0 _ s₁.heap _
        rw [e0]
        exact ⟨congrArg (fun z => some (Value.int z)) (show (((p0 &&& (65535 : Int32)).toUInt32.toUInt16.toUInt32.toInt32).toUInt32.toUInt16.toUInt32.toInt32) = (own_pick p0 p1 p2 p3) from by unfold own_pick; rw [if_neg hc2, if_neg hc7]; rfl), N0, rfl⟩
theorem pn_0 : plainName "com/example/href/href/uri/IriSyntaxCheckSchemePinLaw" = true := by first | (simp [plainName, overriddenIn]; done) | decide +kernel
theorem ef_0 (m : MethodId) (x0 : Int32) (x1 : Int32) (x2 : Int32) (x3 : Int32) (x4 : Int32) (x5 : Int32) : entryFrame m #[(.int x0), (.int x1), (.int x2), (.int x3), (.int x4), (.int x5)] maxLocals = mkF m 0 #[.val (.int x0), .val (.int x1), .val (.int x2), .val (.int x3), .val (.int x4), .val (.int x5), .unset, .unset, .unset, .unset] [] := by first | (simp [entryFrame, mkF, argsToLocals, Value.category, maxLocals]; done) | rfl
def Q0 (Z : State) (p0 : Int32) (p1 : Int32) (p2 : Int32) (p3 : Int32) (p4 : Int32) (p5 : Int32) (cs : Int32) (fm : Value) (h0 : Heap) (n0 : Nat) (v : Option Value) (h : Heap) (L : List Loc) : Prop := v = some (.int 1) ∧ Fr n0 L
set_option maxRecDepth 65536 in
set_option maxHeartbeats 40000000 in
theorem rm0 (l : Launch) (Z : State) (a0 : Array Value) (hw : ∀ d ∈ tables_1, d.before a0 Z = true) (ws : List Jvm.Cond) (p0 : Int32) (p1 : Int32) (p2 : Int32) (p3 : Int32) (p4 : Int32) (p5 : Int32) (cs : Int32) (fm : Value) (h0 : Heap) (n0 : Nat) (Z0 : n0 ≤ h0.size) (O0 : Old Z n0 h0) (SC : Sta Z Z.heap "java/lang/String" "COMPACT_STRINGS" "Z" (.int cs)) (hcs : ¬ cs = (0 : Int32)) (SF : Sta Z Z.heap "jdk/internal/util/Preconditions" "SIOOBE_FORMATTER" "Ljava/util/function/BiFunction;" fm) (hfm : fm.isRef = true) (SA : Sta Z Z.heap "java/lang/StringUTF16" "$assertionsDisabled" "Z" (.int (1 : Int32))) (SH : Sta Z Z.heap "java/lang/StringUTF16" "HI_BYTE_SHIFT" "I" (.int (0 : Int32))) (SL : Sta Z Z.heap "java/lang/StringUTF16" "LO_BYTE_SHIFT" "I" (.int (8 : Int32))) :
    MetFree l x (head1 (Jvm.Cond.code x code maxLocals ret :: ws) room_1) (fun a U => a = #[(.int p0), (.int p1), (.int p2), (.int p3), (.int p4), (.int p5)] ∧ Z.Warmed39 U.vm ∧ U.heap = h0) (fun _ _ _ _ _ => True) (fun _ U o U' => ∃ v L, o = .returned v ∧ Q0 Z p0 p1 p2 p3 p4 p5 cs fm h0 n0 v U'.heap L ∧ FrameEnd U o U' L room_1.cells room_1.slots) := by
  refine MetFree.of_bodySF (plainFor_of_name pn_0) hisR ?_
  intro p e s m args below meth c s₁ Bd hml0 hP hK
  obtain ⟨rfl, hZ, hh⟩ := hP
  have hx := Bd.exec
  have hby := Bd.bytes
  have hml : c.maxLocals = 10 := hml0
  have hown : s.vm.findClass "com/example/href/href/uri/IriSyntaxCheckSchemePinLaw" = some m.cls := findClass_of_methodNamed Bd.named
  have hnm := (name_of_methodNamed Bd.named Bd.method).1
  have X0 : Stand p l e room_1 s m #[(.int p0), (.int p1), (.int p2), (.int p3), (.int p4), (.int p5)] below meth c s₁ [] 0 0 := Stand.of_body Bd
  have e0 : s₁.heap = h0 := by rw [← hh, Bd.state]; rfl
  have N0 := Fr.nil n0
  have pre0 : ∀ t, Steps p.tables e below (s₁.setTop (mkF m 0 #[oi p0, oi p1, oi p2, oi p3, oi p4, oi p5, .unset, .unset, .unset, .unset] [])) t → Steps p.tables e below (s₁.setTop (entryFrame m #[(.int p0), (.int p1), (.int p2), (.int p3), (.int p4), (.int p5)] maxLocals)) t := fun t k => castTop (ef_0 m p0 p1 p2 p3 p4 p5) k
  have c1 : own_G p e below s₁ (mkF m 26 #[oi p0, oi p1, oi p2, oi p3, oi p4, oi p5, oi ((p0 &&& (7 : Int32)) % (6 : Int32)), oi (((p0 &&& (7 : Int32)) % (6 : Int32)) + ((((p0.toUInt32 >>> ((3 : Int32) &&& 31).toUInt32).toInt32) &&& (7 : Int32)) % ((6 : Int32) - ((p0 &&& (7 : Int32)) % (6 : Int32))))), .unset, .unset] []) (mkF m 0 #[oi p0, oi p1, oi p2, oi p3, oi p4, oi p5, .unset, .unset, .unset, .unset] []) := by
    intro t kt
    show oS s₁ (mkF m 0 #[oi p0, oi p1, oi p2, oi p3, oi p4, oi p5, .unset, .unset, .unset, .unset] []) _
    refine XS.iloadN X0.here hx rfl (hb hby at_0) rfl ?_
    show oS s₁ (mkF m 1 #[oi p0, oi p1, oi p2, oi p3, oi p4, oi p5, .unset, .unset, .unset, .unset] [(.int p0)]) _
    refine XS.bipush X0.here hx rfl (hb hby at_1) ?_
    show oS s₁ (mkF m 3 #[oi p0, oi p1, oi p2, oi p3, oi p4, oi p5, .unset, .unset, .unset, .unset] [(.int (7 : Int32)), (.int p0)]) _
    refine XS.iand X0.here hx rfl (hb hby at_3) rfl ?_
    show oS s₁ (mkF m 4 #[oi p0, oi p1, oi p2, oi p3, oi p4, oi p5, .unset, .unset, .unset, .unset] [(.int (p0 &&& (7 : Int32)))]) _
    refine XS.bipush X0.here hx rfl (hb hby at_4) ?_
    show oS s₁ (mkF m 6 #[oi p0, oi p1, oi p2, oi p3, oi p4, oi p5, .unset, .unset, .unset, .unset] [(.int (6 : Int32)), (.int (p0 &&& (7 : Int32)))]) _
    refine iremM X0 hx rfl (hb hby at_6) rfl (by decide) ?_
    show oS s₁ (mkF m 7 #[oi p0, oi p1, oi p2, oi p3, oi p4, oi p5, .unset, .unset, .unset, .unset] [(.int ((p0 &&& (7 : Int32)) % (6 : Int32)))]) _
    refine XS.istore X0.here hx rfl (hb hby at_7) rfl (l' := #[oi p0, oi p1, oi p2, oi p3, oi p4, oi p5, oi ((p0 &&& (7 : Int32)) % (6 : Int32)), .unset, .unset, .unset]) rfl ?_
    show oS s₁ (mkF m 9 #[oi p0, oi p1, oi p2, oi p3, oi p4, oi p5, oi ((p0 &&& (7 : Int32)) % (6 : Int32)), .unset, .unset, .unset] []) _
    refine XS.iload X0.here hx rfl (hb hby at_9) rfl ?_
    show oS s₁ (mkF m 11 #[oi p0, oi p1, oi p2, oi p3, oi p4, oi p5, oi ((p0 &&& (7 : Int32)) % (6 : Int32)), .unset, .unset, .unset] [(.int ((p0 &&& (7 : Int32)) % (6 : Int32)))]) _
    refine XS.iloadN X0.here hx rfl (hb hby at_11) rfl ?_
    show oS s₁ (mkF m 12 #[oi p0, oi p1, oi p2, oi p3, oi p4, oi p5, oi ((p0 &&& (7 : Int32)) % (6 : Int32)), .unset, .unset, .unset] [(.int p0), (.int ((p0 &&& (7 : Int32)) % (6 : Int32)))]) _
    refine XS.iconst X0.here hx rfl (hb hby at_12) ?_
    show oS s₁ (mkF m 13 #[oi p0, oi p1, oi p2, oi p3, oi p4, oi p5, oi ((p0 &&& (7 : Int32)) % (6 : Int32)), .unset, .unset, .unset] [(.int (3 : Int32)), (.int p0), (.int ((p0 &&& (7 : Int32)) % (6 : Int32)))]) _
    refine XS.iushr X0.here hx rfl (hb hby at_13) rfl ?_
    show oS s₁ (mkF m 14 #[oi p0, oi p1, oi p2, oi p3, oi p4, oi p5, oi ((p0 &&& (7 : Int32)) % (6 : Int32)), .unset, .unset, .unset] [(.int ((p0.toUInt32 >>> ((3 : Int32) &&& 31).toUInt32).toInt32)), (.int ((p0 &&& (7 : Int32)) % (6 : Int32)))]) _
    refine XS.bipush X0.here hx rfl (hb hby at_14) ?_
    show oS s₁ (mkF m 16 #[oi p0, oi p1, oi p2, oi p3, oi p4, oi p5, oi ((p0 &&& (7 : Int32)) % (6 : Int32)), .unset, .unset, .unset] [(.int (7 : Int32)), (.int ((p0.toUInt32 >>> ((3 : Int32) &&& 31).toUInt32).toInt32)), (.int ((p0 &&& (7 : Int32)) % (6 : Int32)))]) _
    refine XS.iand X0.here hx rfl (hb hby at_16) rfl ?_
    show oS s₁ (mkF m 17 #[oi p0, oi p1, oi p2, oi p3, oi p4, oi p5, oi ((p0 &&& (7 : Int32)) % (6 : Int32)), .unset, .unset, .unset] [(.int (((p0.toUInt32 >>> ((3 : Int32) &&& 31).toUInt32).toInt32) &&& (7 : Int32))), (.int ((p0 &&& (7 : Int32)) % (6 : Int32)))]) _
    refine XS.bipush X0.here hx rfl (hb hby at_17) ?_
    show oS s₁ (mkF m 19 #[oi p0, oi p1, oi p2, oi p3, oi p4, oi p5, oi ((p0 &&& (7 : Int32)) % (6 : Int32)), .unset, .unset, .unset] [(.int (6 : Int32)), (.int (((p0.toUInt32 >>> ((3 : Int32) &&& 31).toUInt32).toInt32) &&& (7 : Int32))), (.int ((p0 &&& (7 : Int32)) % (6 : Int32)))]) _
    refine XS.iload X0.here hx rfl (hb hby at_19) rfl ?_
    show oS s₁ (mkF m 21 #[oi p0, oi p1, oi p2, oi p3, oi p4, oi p5, oi ((p0 &&& (7 : Int32)) % (6 : Int32)), .unset, .unset, .unset] [(.int ((p0 &&& (7 : Int32)) % (6 : Int32))), (.int (6 : Int32)), (.int (((p0.toUInt32 >>> ((3 : Int32) &&& 31).toUInt32).toInt32) &&& (7 : Int32))), (.int ((p0 &&& (7 : Int32)) % (6 : Int32)))]) _
    refine XS.isub X0.here hx rfl (hb hby at_21) rfl ?_
    show oS s₁ (mkF m 22 #[oi p0, oi p1, oi p2, oi p3, oi p4, oi p5, oi ((p0 &&& (7 : Int32)) % (6 : Int32)), .unset, .unset, .unset] [(.int ((6 : Int32) - ((p0 &&& (7 : Int32)) % (6 : Int32)))), (.int (((p0.toUInt32 >>> ((3 : Int32) &&& 31).toUInt32).toInt32) &&& (7 : Int32))), (.int ((p0 &&& (7 : Int32)) % (6 : Int32)))]) _
    refine iremM X0 hx rfl (hb hby at_22) rfl (own_nz p0) ?_
    show oS s₁ (mkF m 23 #[oi p0, oi p1, oi p2, oi p3, oi p4, oi p5, oi ((p0 &&& (7 : Int32)) % (6 : Int32)), .unset, .unset, .unset] [(.int ((((p0.toUInt32 >>> ((3 : Int32) &&& 31).toUInt32).toInt32) &&& (7 : Int32)) % ((6 : Int32) - ((p0 &&& (7 : Int32)) % (6 : Int32))))), (.int ((p0 &&& (7 : Int32)) % (6 : Int32)))]) _
    refine XS.iadd X0.here hx rfl (hb hby at_23) rfl ?_
    show oS s₁ (mkF m 24 #[oi p0, oi p1, oi p2, oi p3, oi p4, oi p5, oi ((p0 &&& (7 : Int32)) % (6 : Int32)), .unset, .unset, .unset] [(.int (((p0 &&& (7 : Int32)) % (6 : Int32)) + ((((p0.toUInt32 >>> ((3 : Int32) &&& 31).toUInt32).toInt32) &&& (7 : Int32)) % ((6 : Int32) - ((p0 &&& (7 : Int32)) % (6 : Int32))))))]) _
    refine XS.istore X0.here hx rfl (hb hby at_24) rfl (l' := #[oi p0, oi p1, oi p2, oi p3, oi p4, oi p5, oi ((p0 &&& (7 : Int32)) % (6 : Int32)), oi (((p0 &&& (7 : Int32)) % (6 : Int32)) + ((((p0.toUInt32 >>> ((3 : Int32) &&& 31).toUInt32).toInt32) &&& (7 : Int32)) % ((6 : Int32) - ((p0 &&& (7 : Int32)) % (6 : Int32))))), .unset, .unset]) rfl ?_
    exact kt
  obtain ⟨vt, hvt⟩ : ∃ z, z = (((p0 &&& (7 : Int32)) % (6 : Int32)) + ((((p0.toUInt32 >>> ((3 : Int32) &&& 31).toUInt32).toInt32) &&& (7 : Int32)) % ((6 : Int32) - ((p0 &&& (7 : Int32)) % (6 : Int32))))) := ⟨_, rfl⟩
  have c2 : ∀ t, own_S p e below s₁ (mkF m 26 #[oi p0, oi p1, oi p2, oi p3, oi p4, oi p5, oi ((p0 &&& (7 : Int32)) % (6 : Int32)), oi vt, .unset, .unset] []) t → own_S p e below s₁ (mkF m 26 #[oi p0, oi p1, oi p2, oi p3, oi p4, oi p5, oi ((p0 &&& (7 : Int32)) % (6 : Int32)), oi (((p0 &&& (7 : Int32)) % (6 : Int32)) + ((((p0.toUInt32 >>> ((3 : Int32) &&& 31).toUInt32).toInt32) &&& (7 : Int32)) % ((6 : Int32) - ((p0 &&& (7 : Int32)) % (6 : Int32))))), .unset, .unset] []) t := fun t kt => by rw [hvt] at kt; exact kt
  obtain ⟨vf, hvf⟩ : ∃ z, z = ((p0 &&& (7 : Int32)) % (6 : Int32)) := ⟨_, rfl⟩
  have c3 : ∀ t, own_S p e below s₁ (mkF m 26 #[oi p0, oi p1, oi p2, oi p3, oi p4, oi p5, oi vf, oi vt, .unset, .unset] []) t → own_S p e below s₁ (mkF m 26 #[oi p0, oi p1, oi p2, oi p3, oi p4, oi p5, oi ((p0 &&& (7 : Int32)) % (6 : Int32)), oi vt, .unset, .unset] []) t := fun t kt => by rw [hvf] at kt; exact kt
  obtain ⟨fn, tn, hfn, htn, hft, h5⟩ := own_ft p0 vf vt hvf (by rw [hvt, hvf])
  have c4 : own_G p e below s₁ (mkF m 26 #[oi p0, oi p1, oi p2, oi p3, oi p4, oi p5, oi (Int32.ofNat fn), oi vt, .unset, .unset] []) (mkF m 26 #[oi p0, oi p1, oi p2, oi p3, oi p4, oi p5, oi vf, oi vt, .unset, .unset] []) := fun t kt => castTop (congrArg (fun zv => (mkF m 26 #[oi p0, oi p1, oi p2, oi p3, oi p4, oi p5, oi zv, oi vt, .unset, .unset] [])) (show vf = (Int32.ofNat fn) from hfn)) kt
  have c5 : own_G p e below s₁ (mkF m 26 #[oi p0, oi p1, oi p2, oi p3, oi p4, oi p5, oi (Int32.ofNat fn), oi (Int32.ofNat tn), .unset, .unset] []) (mkF m 26 #[oi p0, oi p1, oi p2, oi p3, oi p4, oi p5, oi (Int32.ofNat fn), oi vt, .unset, .unset] []) := fun t kt => castTop (congrArg (fun zv => (mkF m 26 #[oi p0, oi p1, oi p2, oi p3, oi p4, oi p5, oi (Int32.ofNat fn), oi zv, .unset, .unset] [])) (show vt = (Int32.ofNat tn) from htn)) kt
  have c7 : own_G p e below s₁ (mkF m 27 #[oi p0, oi p1, oi p2, oi p3, oi p4, oi p5, oi (Int32.ofNat fn), oi (Int32.ofNat tn), .unset, .unset] [(.int (5 : Int32))]) (mkF m 26 #[oi p0, oi p1, oi p2, oi p3, oi p4, oi p5, oi (Int32.ofNat fn), oi (Int32.ofNat tn), .unset, .unset] []) := by
    intro t kt
    show oS s₁ (mkF m 26 #[oi p0, oi p1, oi p2, oi p3, oi p4, oi p5, oi (Int32.ofNat fn), oi (Int32.ofNat tn), .unset, .unset] []) _
    refine XS.iconst X0.here hx rfl (hb hby at_26) ?_
    exact kt
  obtain ⟨T6, h6, k6, X6, e6, E6, A6, st6⟩ := newP X0 hx hZ (own_t hw 0 rfl) e0 (g := (mkF m 27 #[oi p0, oi p1, oi p2, oi p3, oi p4, oi p5, oi (Int32.ofNat fn), oi (Int32.ofNat tn), .unset, .unset] [(.int (5 : Int32))])) rfl (hb hby at_27) rfl (by decide) (cap := 5) (by decide) (by decide) (by decide) (by decide)
  obtain ⟨b6, g6⟩ : ∃ z, z = h0.size := ⟨_, rfl⟩
  rw [← g6] at A6 st6
  have g_b6 : n0 ≤ b6 := Nat.le_trans Z0 (Nat.le_of_eq g6.symm)
  have sz_b6 : h0.size ≤ b6 := Nat.le_trans (Keep.refl h0 []).1 (Nat.le_of_eq g6.symm)
  have V6 : Arv Z h6 b6 k6 .char (5 : Int32) [(.int (0 : Int32)), (.int (0 : Int32)), (.int (0 : Int32)), (.int (0 : Int32)), (.int (0 : Int32))] (.int (0 : Int32)) := (Arv.new A6 (by decide)).pad (pad_rep [] (.int (0 : Int32)) 5)
  have c8 : own_G p e below T6 (mkF m 40 #[oi p0, oi p1, oi p2, oi p3, oi p4, oi p5, oi (Int32.ofNat fn), oi (Int32.ofNat tn), oa b6, .unset] [(.int (Int32.ofNat tn)), (.int (Int32.ofNat fn)), (.int (0 : Int32)), (.int p1), (.int (0 : Int32)), (.ref b6)]) (mkF m 29 #[oi p0, oi p1, oi p2, oi p3, oi p4, oi p5, oi (Int32.ofNat fn), oi (Int32.ofNat tn), .unset, .unset] [(.ref b6)]) := by
    intro t kt
    show oS T6 (mkF m 29 #[oi p0, oi p1, oi p2, oi p3, oi p4, oi p5, oi (Int32.ofNat fn), oi (Int32.ofNat tn), .unset, .unset] [(.ref b6)]) _
    refine XS.astore X6.here hx rfl (hb hby at_29) rfl rfl (l' := #[oi p0, oi p1, oi p2, oi p3, oi p4, oi p5, oi (Int32.ofNat fn), oi (Int32.ofNat tn), oa b6, .unset]) rfl ?_
    show oS T6 (mkF m 31 #[oi p0, oi p1, oi p2, oi p3, oi p4, oi p5, oi (Int32.ofNat fn), oi (Int32.ofNat tn), oa b6, .unset] []) _
    refine XS.aload X6.here hx rfl (hb hby at_31) rfl rfl ?_
    show oS T6 (mkF m 33 #[oi p0, oi p1, oi p2, oi p3, oi p4, oi p5, oi (Int32.ofNat fn), oi (Int32.ofNat tn), oa b6, .unset] [(.ref b6)]) _
    refine XS.iconst X6.here hx rfl (hb hby at_33) ?_
    show oS T6 (mkF m 34 #[oi p0, oi p1, oi p2, oi p3, oi p4, oi p5, oi (Int32.ofNat fn), oi (Int32.ofNat tn), oa b6, .unset] [(.int (0 : Int32)), (.ref b6)]) _
    refine XS.iloadN X6.here hx rfl (hb hby at_34) rfl ?_
    show oS T6 (mkF m 35 #[oi p0, oi p1, oi p2, oi p3, oi p4, oi p5, oi (Int32.ofNat fn), oi (Int32.ofNat tn), oa b6, .unset] [(.int p1), (.int (0 : Int32)), (.ref b6)]) _
    refine XS.iconst X6.here hx rfl (hb hby at_35) ?_
    show oS T6 (mkF m 36 #[oi p0, oi p1, oi p2, oi p3, oi p4, oi p5, oi (Int32.ofNat fn), oi (Int32.ofNat tn), oa b6, .unset] [(.int (0 : Int32)), (.int p1), (.int (0 : Int32)), (.ref b6)]) _
    refine XS.iload X6.here hx rfl (hb hby at_36) rfl ?_
    show oS T6 (mkF m 38 #[oi p0, oi p1, oi p2, oi p3, oi p4, oi p5, oi (Int32.ofNat fn), oi (Int32.ofNat tn), oa b6, .unset] [(.int (Int32.ofNat fn)), (.int (0 : Int32)), (.int p1), (.int (0 : Int32)), (.ref b6)]) _
    refine XS.iload X6.here hx rfl (hb hby at_38) rfl ?_
    exact kt
  have f9 := (Nat.le_trans Z0 E6.1)
  obtain ⟨_, _, ⟨T10, L10, k10, n10⟩, -, X10, ⟨Lc10, hQ10, l10, y10, z10⟩, st10⟩ := Jvm.LawKit.callS X6 hx (y := yy_22) hown (mvT hZ (own_t hw 1 rfl)) (mvT hZ (own_t hw 2 rfl)) (mvT hZ (own_t hw 3 rfl)) (mvT hZ (own_t hw 4 rfl)) (by decide) (backOf (W := 2) (rm1 l Z a0 hw [] p1 (0 : Int32) (Int32.ofNat fn) (Int32.ofNat tn)  h6 n0 f9 ) hZ (own_t hw 4 rfl) (own_t hw 3 rfl) (by decide) (by decide)) (g := (mkF m 40 #[oi p0, oi p1, oi p2, oi p3, oi p4, oi p5, oi (Int32.ofNat fn), oi (Int32.ofNat tn), oa b6, .unset] [(.int (Int32.ofNat tn)), (.int (Int32.ofNat fn)), (.int (0 : Int32)), (.int p1), (.int (0 : Int32)), (.ref b6)])) rfl (by rw [hml]; rfl) (argsL := [(.int p1), (.int (0 : Int32)), (.int (Int32.ofNat fn)), (.int (Int32.ofNat tn))]) (rest := [(.int (0 : Int32)), (.ref b6)]) (lenOf pd_15 rfl) rfl (by show 2 * 0 + _ ≤ _; exact Nat.le_of_eq rfl) (hb hby at_40) (fun _ _ => ⟨rfl, e6, (by decide : 1 + 0 ≤ _), (by decide : 5 + 0 ≤ _)⟩)
  dsimp only [Pt.U, Pt.locs, Pt.cells, Pt.slots] at X10 l10 y10 z10 st10 hQ10
  subst l10 y10 z10
  obtain ⟨rfl, N10q, e10⟩ := hQ10
  have N10 := Fr.app N0 N10q
  obtain ⟨Go10, X10, N10⟩ := own_opq X10 N10
  have Vc11 := V6
  obtain ⟨cl11, Ar11, qk11, S11, M11, H11, G11⟩ := Vc11
  have hin11 : ¬ ((0 : Int32) < 0 ∨ cl11.slots.size ≤ ((0 : Int32)).toNatClampNeg) := inb_of S11 ⟨by decide, by decide⟩
  obtain ⟨T12, h12, X12, e12, W12, st12⟩ := stC X10 hx hZ e10 Ar11 (j := (0 : Int32)) hin11 (g := (mkF m 43 #[oi p0, oi p1, oi p2, oi p3, oi p4, oi p5, oi (Int32.ofNat fn), oi (Int32.ofNat tn), oa b6, .unset] [(.int (own_pick p1 (0 : Int32) (Int32.ofNat fn) (Int32.ofNat tn))), (.int (0 : Int32)), (.ref b6)])) rfl rfl (hb hby at_43)
  have V12 : Arv Z h12 b6 k6 .char (5 : Int32) [(.int ((own_pick p1 (0 : Int32) (Int32.ofNat fn) (Int32.ofNat tn)).toUInt32.toUInt16.toUInt32.toInt32)), (.int (0 : Int32)), (.int (0 : Int32)), (.int (0 : Int32)), (.int (0 : Int32))] (.int (0 : Int32)) := Arv.set Ar11 qk11 S11 M11 H11 G11 (fits_nar_char _) W12 0 rfl (Nat.le_of_ble_eq_true rfl)
  have N12 := Fr.snoc X12 N10 g_b6
  have c13 : own_G p e below T12 (mkF m 53 #[oi p0, oi p1, oi p2, oi p3, oi p4, oi p5, oi (Int32.ofNat fn), oi (Int32.ofNat tn), oa b6, .unset] [(.int (Int32.ofNat tn)), (.int (Int32.ofNat fn)), (.int (1 : Int32)), (.int p2), (.int (1 : Int32)), (.ref b6)]) (mkF m 44 #[oi p0, oi p1, oi p2, oi p3, oi p4, oi p5, oi (Int32.ofNat fn), oi (Int32.ofNat tn), oa b6, .unset] []) := by
    intro t kt
    show oS T12 (mkF m 44 #[oi p0, oi p1, oi p2, oi p3, oi p4, oi p5, oi (Int32.ofNat fn), oi (Int32.ofNat tn), oa b6, .unset] []) _
    refine XS.aload X12.here hx rfl (hb hby at_44) rfl rfl ?_
    show oS T12 (mkF m 46 #[oi p0, oi p1, oi p2, oi p3, oi p4, oi p5, oi (Int32.ofNat fn), oi (Int32.ofNat tn), oa b6, .unset] [(.ref b6)]) _
    refine XS.iconst X12.here hx rfl (hb hby at_46) ?_
    show oS T12 (mkF m 47 #[oi p0, oi p1, oi p2, oi p3, oi p4, oi p5, oi (Int32.ofNat fn), oi (Int32.ofNat tn), oa b6, .unset] [(.int (1 : Int32)), (.ref b6)]) _
    refine XS.iloadN X12.here hx rfl (hb hby at_47) rfl ?_
    show oS T12 (mkF m 48 #[oi p0, oi p1, oi p2, oi p3, oi p4, oi p5, oi (Int32.ofNat fn), oi (Int32.ofNat tn), oa b6, .unset] [(.int p2), (.int (1 : Int32)), (.ref b6)]) _
    refine XS.iconst X12.here hx rfl (hb hby at_48) ?_
    show oS T12 (mkF m 49 #[oi p0, oi p1, oi p2, oi p3, oi p4, oi p5, oi (Int32.ofNat fn), oi (Int32.ofNat tn), oa b6, .unset] [(.int (1 : Int32)), (.int p2), (.int (1 : Int32)), (.ref b6)]) _
    refine XS.iload X12.here hx rfl (hb hby at_49) rfl ?_
    show oS T12 (mkF m 51 #[oi p0, oi p1, oi p2, oi p3, oi p4, oi p5, oi (Int32.ofNat fn), oi (Int32.ofNat tn), oa b6, .unset] [(.int (Int32.ofNat fn)), (.int (1 : Int32)), (.int p2), (.int (1 : Int32)), (.ref b6)]) _
    refine XS.iload X12.here hx rfl (hb hby at_51) rfl ?_
    exact kt
  have f14 := (Nat.le_trans f9 (Keep.of_wr W12).1)
  obtain ⟨_, _, ⟨T15, L15, k15, n15⟩, -, X15, ⟨Lc15, hQ15, l15, y15, z15⟩, st15⟩ := Jvm.LawKit.callS X12 hx (y := yy_22) hown (mvT hZ (own_t hw 1 rfl)) (mvT hZ (own_t hw 2 rfl)) (mvT hZ (own_t hw 3 rfl)) (mvT hZ (own_t hw 4 rfl)) (by decide) (backOf (W := 2) (rm1 l Z a0 hw [] p2 (1 : Int32) (Int32.ofNat fn) (Int32.ofNat tn)  h12 n0 f14 ) hZ (own_t hw 4 rfl) (own_t hw 3 rfl) (by decide) (by decide)) (g := (mkF m 53 #[oi p0, oi p1, oi p2, oi p3, oi p4, oi p5, oi (Int32.ofNat fn), oi (Int32.ofNat tn), oa b6, .unset] [(.int (Int32.ofNat tn)), (.int (Int32.ofNat fn)), (.int (1 : Int32)), (.int p2), (.int (1 : Int32)), (.ref b6)])) rfl (by rw [hml]; rfl) (argsL := [(.int p2), (.int (1 : Int32)), (.int (Int32.ofNat fn)), (.int (Int32.ofNat tn))]) (rest := [(.int (1 : Int32)), (.ref b6)]) (lenOf pd_15 rfl) rfl (by show 2 * 0 + _ ≤ _; exact Nat.le_of_eq rfl) (hb hby at_53) (fun _ _ => ⟨rfl, e12, (by decide : 1 + 0 ≤ _), (by decide : 5 + 0 ≤ _)⟩)
  dsimp only [Pt.U, Pt.locs, Pt.cells, Pt.slots] at X15 l15 y15 z15 st15 hQ15
  subst l15 y15 z15
  obtain ⟨rfl, N15q, e15⟩ := hQ15
  have N15 := Fr.app N12 N15q
  obtain ⟨Go15, X15, N15⟩ := own_opq X15 N15
  have Vc16 := V12
  obtain ⟨cl16, Ar16, qk16, S16, M16, H16, G16⟩ := Vc16
  have hin16 : ¬ ((1 : Int32) < 0 ∨ cl16.slots.size ≤ ((1 : Int32)).toNatClampNeg) := inb_of S16 ⟨by decide, by decide⟩
  obtain ⟨T17, h17, X17, e17, W17, st17⟩ := stC X15 hx hZ e15 Ar16 (j := (1 : Int32)) hin16 (g := (mkF m 56 #[oi p0, oi p1, oi p2, oi p3, oi p4, oi p5, oi (Int32.ofNat fn), oi (Int32.ofNat tn), oa b6, .unset] [(.int (own_pick p2 (1 : Int32) (Int32.ofNat fn) (Int32.ofNat tn))), (.int (1 : Int32)), (.ref b6)])) rfl rfl (hb hby at_56)
  have V17 : Arv Z h17 b6 k6 .char (5 : Int32) [(.int ((own_pick p1 (0 : Int32) (Int32.ofNat fn) (Int32.ofNat tn)).toUInt32.toUInt16.toUInt32.toInt32)), (.int ((own_pick p2 (1 : Int32) (Int32.ofNat fn) (Int32.ofNat tn)).toUInt32.toUInt16.toUInt32.toInt32)), (.int (0 : Int32)), (.int (0 : Int32)), (.int (0 : Int32))] (.int (0 : Int32)) := Arv.set Ar16 qk16 S16 M16 H16 G16 (fits_nar_char _) W17 1 rfl (Nat.le_of_ble_eq_true rfl)
  have N17 := Fr.snoc X17 N15 g_b6
  have c18 : own_G p e below T17 (mkF m 66 #[oi p0, oi p1, oi p2, oi p3, oi p4, oi p5, oi (Int32.ofNat fn), oi (Int32.ofNat tn), oa b6, .unset] [(.int (Int32.ofNat tn)), (.int (Int32.ofNat fn)), (.int (2 : Int32)), (.int p3), (.int (2 : Int32)), (.ref b6)]) (mkF m 57 #[oi p0, oi p1, oi p2, oi p3, oi p4, oi p5, oi (Int32.ofNat fn), oi (Int32.ofNat tn), oa b6, .unset] []) := by
    intro t kt
    show oS T17 (mkF m 57 #[oi p0, oi p1, oi p2, oi p3, oi p4, oi p5, oi (Int32.ofNat fn), oi (Int32.ofNat tn), oa b6, .unset] []) _
    refine XS.aload X17.here hx rfl (hb hby at_57) rfl rfl ?_
    show oS T17 (mkF m 59 #[oi p0, oi p1, oi p2, oi p3, oi p4, oi p5, oi (Int32.ofNat fn), oi (Int32.ofNat tn), oa b6, .unset] [(.ref b6)]) _
    refine XS.iconst X17.here hx rfl (hb hby at_59) ?_
    show oS T17 (mkF m 60 #[oi p0, oi p1, oi p2, oi p3, oi p4, oi p5, oi (Int32.ofNat fn), oi (Int32.ofNat tn), oa b6, .unset] [(.int (2 : Int32)), (.ref b6)]) _
    refine XS.iloadN X17.here hx rfl (hb hby at_60) rfl ?_
    show oS T17 (mkF m 61 #[oi p0, oi p1, oi p2, oi p3, oi p4, oi p5, oi (Int32.ofNat fn), oi (Int32.ofNat tn), oa b6, .unset] [(.int p3), (.int (2 : Int32)), (.ref b6)]) _
    refine XS.iconst X17.here hx rfl (hb hby at_61) ?_
    show oS T17 (mkF m 62 #[oi p0, oi p1, oi p2, oi p3, oi p4, oi p5, oi (Int32.ofNat fn), oi (Int32.ofNat tn), oa b6, .unset] [(.int (2 : Int32)), (.int p3), (.int (2 : Int32)), (.ref b6)]) _
    refine XS.iload X17.here hx rfl (hb hby at_62) rfl ?_
    show oS T17 (mkF m 64 #[oi p0, oi p1, oi p2, oi p3, oi p4, oi p5, oi (Int32.ofNat fn), oi (Int32.ofNat tn), oa b6, .unset] [(.int (Int32.ofNat fn)), (.int (2 : Int32)), (.int p3), (.int (2 : Int32)), (.ref b6)]) _
    refine XS.iload X17.here hx rfl (hb hby at_64) rfl ?_
    exact kt
  have f19 := (Nat.le_trans f14 (Keep.of_wr W17).1)
  obtain ⟨_, _, ⟨T20, L20, k20, n20⟩, -, X20, ⟨Lc20, hQ20, l20, y20, z20⟩, st20⟩ := Jvm.LawKit.callS X17 hx (y := yy_22) hown (mvT hZ (own_t hw 1 rfl)) (mvT hZ (own_t hw 2 rfl)) (mvT hZ (own_t hw 3 rfl)) (mvT hZ (own_t hw 4 rfl)) (by decide) (backOf (W := 2) (rm1 l Z a0 hw [] p3 (2 : Int32) (Int32.ofNat fn) (Int32.ofNat tn)  h17 n0 f19 ) hZ (own_t hw 4 rfl) (own_t hw 3 rfl) (by decide) (by decide)) (g := (mkF m 66 #[oi p0, oi p1, oi p2, oi p3, oi p4, oi p5, oi (Int32.ofNat fn), oi (Int32.ofNat tn), oa b6, .unset] [(.int (Int32.ofNat tn)), (.int (Int32.ofNat fn)), (.int (2 : Int32)), (.int p3), (.int (2 : Int32)), (.ref b6)])) rfl (by rw [hml]; rfl) (argsL := [(.int p3), (.int (2 : Int32)), (.int (Int32.ofNat fn)), (.int (Int32.ofNat tn))]) (rest := [(.int (2 : Int32)), (.ref b6)]) (lenOf pd_15 rfl) rfl (by show 2 * 0 + _ ≤ _; exact Nat.le_of_eq rfl) (hb hby at_66) (fun _ _ => ⟨rfl, e17, (by decide : 1 + 0 ≤ _), (by decide : 5 + 0 ≤ _)⟩)
  dsimp only [Pt.U, Pt.locs, Pt.cells, Pt.slots] at X20 l20 y20 z20 st20 hQ20
  subst l20 y20 z20
  obtain ⟨rfl, N20q, e20⟩ := hQ20
  have N20 := Fr.app N17 N20q
  obtain ⟨Go20, X20, N20⟩ := own_opq X20 N20
  have Vc21 := V17
  obtain ⟨cl21, Ar21, qk21, S21, M21, H21, G21⟩ := Vc21
  have hin21 : ¬ ((2 : Int32) < 0 ∨ cl21.slots.size ≤ ((2 : Int32)).toNatClampNeg) := inb_of S21 ⟨by decide, by decide⟩
  obtain ⟨T22, h22, X22, e22, W22, st22⟩ := stC X20 hx hZ e20 Ar21 (j := (2 : Int32)) hin21 (g := (mkF m 69 #[oi p0, oi p1, oi p2, oi p3, oi p4, oi p5, oi (Int32.ofNat fn), oi (Int32.ofNat tn), oa b6, .unset] [(.int (own_pick p3 (2 : Int32) (Int32.ofNat fn) (Int32.ofNat tn))), (.int (2 : Int32)), (.ref b6)])) rfl rfl (hb hby at_69)
  have V22 : Arv Z h22 b6 k6 .char (5 : Int32) [(.int ((own_pick p1 (0 : Int32) (Int32.ofNat fn) (Int32.ofNat tn)).toUInt32.toUInt16.toUInt32.toInt32)), (.int ((own_pick p2 (1 : Int32) (Int32.ofNat fn) (Int32.ofNat tn)).toUInt32.toUInt16.toUInt32.toInt32)), (.int ((own_pick p3 (2 : Int32) (Int32.ofNat fn) (Int32.ofNat tn)).toUInt32.toUInt16.toUInt32.toInt32)), (.int (0 : Int32)), (.int (0 : Int32))] (.int (0 : Int32)) := Arv.set Ar21 qk21 S21 M21 H21 G21 (fits_nar_char _) W22 2 rfl (Nat.le_of_ble_eq_true rfl)
  have N22 := Fr.snoc X22 N20 g_b6
  have c23 : own_G p e below T22 (mkF m 80 #[oi p0, oi p1, oi p2, oi p3, oi p4, oi p5, oi (Int32.ofNat fn), oi (Int32.ofNat tn), oa b6, .unset] [(.int (Int32.ofNat tn)), (.int (Int32.ofNat fn)), (.int (3 : Int32)), (.int p4), (.int (3 : Int32)), (.ref b6)]) (mkF m 70 #[oi p0, oi p1, oi p2, oi p3, oi p4, oi p5, oi (Int32.ofNat fn), oi (Int32.ofNat tn), oa b6, .unset] []) := by
    intro t kt
    show oS T22 (mkF m 70 #[oi p0, oi p1, oi p2, oi p3, oi p4, oi p5, oi (Int32.ofNat fn), oi (Int32.ofNat tn), oa b6, .unset] []) _
    refine XS.aload X22.here hx rfl (hb hby at_70) rfl rfl ?_
    show oS T22 (mkF m 72 #[oi p0, oi p1, oi p2, oi p3, oi p4, oi p5, oi (Int32.ofNat fn), oi (Int32.ofNat tn), oa b6, .unset] [(.ref b6)]) _
    refine XS.iconst X22.here hx rfl (hb hby at_72) ?_
    show oS T22 (mkF m 73 #[oi p0, oi p1, oi p2, oi p3, oi p4, oi p5, oi (Int32.ofNat fn), oi (Int32.ofNat tn), oa b6, .unset] [(.int (3 : Int32)), (.ref b6)]) _
    refine XS.iload X22.here hx rfl (hb hby at_73) rfl ?_
    show oS T22 (mkF m 75 #[oi p0, oi p1, oi p2, oi p3, oi p4, oi p5, oi (Int32.ofNat fn), oi (Int32.ofNat tn), oa b6, .unset] [(.int p4), (.int (3 : Int32)), (.ref b6)]) _
    refine XS.iconst X22.here hx rfl (hb hby at_75) ?_
    show oS T22 (mkF m 76 #[oi p0, oi p1, oi p2, oi p3, oi p4, oi p5, oi (Int32.ofNat fn), oi (Int32.ofNat tn), oa b6, .unset] [(.int (3 : Int32)), (.int p4), (.int (3 : Int32)), (.ref b6)]) _
    refine XS.iload X22.here hx rfl (hb hby at_76) rfl ?_
    show oS T22 (mkF m 78 #[oi p0, oi p1, oi p2, oi p3, oi p4, oi p5, oi (Int32.ofNat fn), oi (Int32.ofNat tn), oa b6, .unset] [(.int (Int32.ofNat fn)), (.int (3 : Int32)), (.int p4), (.int (3 : Int32)), (.ref b6)]) _
    refine XS.iload X22.here hx rfl (hb hby at_78) rfl ?_
    exact kt
  have f24 := (Nat.le_trans f19 (Keep.of_wr W22).1)
  obtain ⟨_, _, ⟨T25, L25, k25, n25⟩, -, X25, ⟨Lc25, hQ25, l25, y25, z25⟩, st25⟩ := Jvm.LawKit.callS X22 hx (y := yy_22) hown (mvT hZ (own_t hw 1 rfl)) (mvT hZ (own_t hw 2 rfl)) (mvT hZ (own_t hw 3 rfl)) (mvT hZ (own_t hw 4 rfl)) (by decide) (backOf (W := 2) (rm1 l Z a0 hw [] p4 (3 : Int32) (Int32.ofNat fn) (Int32.ofNat tn)  h22 n0 f24 ) hZ (own_t hw 4 rfl) (own_t hw 3 rfl) (by decide) (by decide)) (g := (mkF m 80 #[oi p0, oi p1, oi p2, oi p3, oi p4, oi p5, oi (Int32.ofNat fn), oi (Int32.ofNat tn), oa b6, .unset] [(.int (Int32.ofNat tn)), (.int (Int32.ofNat fn)), (.int (3 : Int32)), (.int p4), (.int (3 : Int32)), (.ref b6)])) rfl (by rw [hml]; rfl) (argsL := [(.int p4), (.int (3 : Int32)), (.int (Int32.ofNat fn)), (.int (Int32.ofNat tn))]) (rest := [(.int (3 : Int32)), (.ref b6)]) (lenOf pd_15 rfl) rfl (by show 2 * 0 + _ ≤ _; exact Nat.le_of_eq rfl) (hb hby at_80) (fun _ _ => ⟨rfl, e22, (by decide : 1 + 0 ≤ _), (by decide : 5 + 0 ≤ _)⟩)
  dsimp only [Pt.U, Pt.locs, Pt.cells, Pt.slots] at X25 l25 y25 z25 st25 hQ25
  subst l25 y25 z25
  obtain ⟨rfl, N25q, e25⟩ := hQ25
  have N25 := Fr.app N22 N25q
  obtain ⟨Go25, X25, N25⟩ := own_opq X25 N25
  have Vc26 := V22
  obtain ⟨cl26, Ar26, qk26, S26, M26, H26, G26⟩ := Vc26
  have hin26 : ¬ ((3 : Int32) < 0 ∨ cl26.slots.size ≤ ((3 : Int32)).toNatClampNeg) := inb_of S26 ⟨by decide, by decide⟩
  obtain ⟨T27, h27, X27, e27, W27, st27⟩ := stC X25 hx hZ e25 Ar26 (j := (3 : Int32)) hin26 (g := (mkF m 83 #[oi p0, oi p1, oi p2, oi p3, oi p4, oi p5, oi (Int32.ofNat fn), oi (Int32.ofNat tn), oa b6, .unset] [(.int (own_pick p4 (3 : Int32) (Int32.ofNat fn) (Int32.ofNat tn))), (.int (3 : Int32)), (.ref b6)])) rfl rfl (hb hby at_83)
  have V27 : Arv Z h27 b6 k6 .char (5 : Int32) [(.int ((own_pick p1 (0 : Int32) (Int32.ofNat fn) (Int32.ofNat tn)).toUInt32.toUInt16.toUInt32.toInt32)), (.int ((own_pick p2 (1 : Int32) (Int32.ofNat fn) (Int32.ofNat tn)).toUInt32.toUInt16.toUInt32.toInt32)), (.int ((own_pick p3 (2 : Int32) (Int32.ofNat fn) (Int32.ofNat tn)).toUInt32.toUInt16.toUInt32.toInt32)), (.int ((own_pick p4 (3 : Int32) (Int32.ofNat fn) (Int32.ofNat tn)).toUInt32.toUInt16.toUInt32.toInt32)), (.int (0 : Int32))] (.int (0 : Int32)) := Arv.set Ar26 qk26 S26 M26 H26 G26 (fits_nar_char _) W27 3 rfl (Nat.le_of_ble_eq_true rfl)
  have N27 := Fr.snoc X27 N25 g_b6
  have c28 : own_G p e below T27 (mkF m 94 #[oi p0, oi p1, oi p2, oi p3, oi p4, oi p5, oi (Int32.ofNat fn), oi (Int32.ofNat tn), oa b6, .unset] [(.int (Int32.ofNat tn)), (.int (Int32.ofNat fn)), (.int (4 : Int32)), (.int p5), (.int (4 : Int32)), (.ref b6)]) (mkF m 84 #[oi p0, oi p1, oi p2, oi p3, oi p4, oi p5, oi (Int32.ofNat fn), oi (Int32.ofNat tn), oa b6, .unset] []) := by
    intro t kt
    show oS T27 (mkF m 84 #[oi p0, oi p1, oi p2, oi p3, oi p4, oi p5, oi (Int32.ofNat fn), oi (Int32.ofNat tn), oa b6, .unset] []) _
    refine XS.aload X27.here hx rfl (hb hby at_84) rfl rfl ?_
    show oS T27 (mkF m 86 #[oi p0, oi p1, oi p2, oi p3, oi p4, oi p5, oi (Int32.ofNat fn), oi (Int32.ofNat tn), oa b6, .unset] [(.ref b6)]) _
    refine XS.iconst X27.here hx rfl (hb hby at_86) ?_
    show oS T27 (mkF m 87 #[oi p0, oi p1, oi p2, oi p3, oi p4, oi p5, oi (Int32.ofNat fn), oi (Int32.ofNat tn), oa b6, .unset] [(.int (4 : Int32)), (.ref b6)]) _
    refine XS.iload X27.here hx rfl (hb hby at_87) rfl ?_
    show oS T27 (mkF m 89 #[oi p0, oi p1, oi p2, oi p3, oi p4, oi p5, oi (Int32.ofNat fn), oi (Int32.ofNat tn), oa b6, .unset] [(.int p5), (.int (4 : Int32)), (.ref b6)]) _
    refine XS.iconst X27.here hx rfl (hb hby at_89) ?_
    show oS T27 (mkF m 90 #[oi p0, oi p1, oi p2, oi p3, oi p4, oi p5, oi (Int32.ofNat fn), oi (Int32.ofNat tn), oa b6, .unset] [(.int (4 : Int32)), (.int p5), (.int (4 : Int32)), (.ref b6)]) _
    refine XS.iload X27.here hx rfl (hb hby at_90) rfl ?_
    show oS T27 (mkF m 92 #[oi p0, oi p1, oi p2, oi p3, oi p4, oi p5, oi (Int32.ofNat fn), oi (Int32.ofNat tn), oa b6, .unset] [(.int (Int32.ofNat fn)), (.int (4 : Int32)), (.int p5), (.int (4 : Int32)), (.ref b6)]) _
    refine XS.iload X27.here hx rfl (hb hby at_92) rfl ?_
    exact kt
  have f29 := (Nat.le_trans f24 (Keep.of_wr W27).1)
  obtain ⟨_, _, ⟨T30, L30, k30, n30⟩, -, X30, ⟨Lc30, hQ30, l30, y30, z30⟩, st30⟩ := Jvm.LawKit.callS X27 hx (y := yy_22) hown (mvT hZ (own_t hw 1 rfl)) (mvT hZ (own_t hw 2 rfl)) (mvT hZ (own_t hw 3 rfl)) (mvT hZ (own_t hw 4 rfl)) (by decide) (backOf (W := 2) (rm1 l Z a0 hw [] p5 (4 : Int32) (Int32.ofNat fn) (Int32.ofNat tn)  h27 n0 f29 ) hZ (own_t hw 4 rfl) (own_t hw 3 rfl) (by decide) (by decide)) (g := (mkF m 94 #[oi p0, oi p1, oi p2, oi p3, oi p4, oi p5, oi (Int32.ofNat fn), oi (Int32.ofNat tn), oa b6, .unset] [(.int (Int32.ofNat tn)), (.int (Int32.ofNat fn)), (.int (4 : Int32)), (.int p5), (.int (4 : Int32)), (.ref b6)])) rfl (by rw [hml]; rfl) (argsL := [(.int p5), (.int (4 : Int32)), (.int (Int32.ofNat fn)), (.int (Int32.ofNat tn))]) (rest := [(.int (4 : Int32)), (.ref b6)]) (lenOf pd_15 rfl) rfl (by show 2 * 0 + _ ≤ _; exact Nat.le_of_eq rfl) (hb hby at_94) (fun _ _ => ⟨rfl, e27, (by decide : 1 + 0 ≤ _), (by decide : 5 + 0 ≤ _)⟩)
  dsimp only [Pt.U, Pt.locs, Pt.cells, Pt.slots] at X30 l30 y30 z30 st30 hQ30
  subst l30 y30 z30
  obtain ⟨rfl, N30q, e30⟩ := hQ30
  have N30 := Fr.app N27 N30q
  obtain ⟨Go30, X30, N30⟩ := own_opq X30 N30
  have Vc31 := V27
  obtain ⟨cl31, Ar31, qk31, S31, M31, H31, G31⟩ := Vc31
  have hin31 : ¬ ((4 : Int32) < 0 ∨ cl31.slots.size ≤ ((4 : Int32)).toNatClampNeg) := inb_of S31 ⟨by decide, by decide⟩
  obtain ⟨T32, h32, X32, e32, W32, st32⟩ := stC X30 hx hZ e30 Ar31 (j := (4 : Int32)) hin31 (g := (mkF m 97 #[oi p0, oi p1, oi p2, oi p3, oi p4, oi p5, oi (Int32.ofNat fn), oi (Int32.ofNat tn), oa b6, .unset] [(.int (own_pick p5 (4 : Int32) (Int32.ofNat fn) (Int32.ofNat tn))), (.int (4 : Int32)), (.ref b6)])) rfl rfl (hb hby at_97)
  have V32 : Arv Z h32 b6 k6 .char (5 : Int32) [(.int ((own_pick p1 (0 : Int32) (Int32.ofNat fn) (Int32.ofNat tn)).toUInt32.toUInt16.toUInt32.toInt32)), (.int ((own_pick p2 (1 : Int32) (Int32.ofNat fn) (Int32.ofNat tn)).toUInt32.toUInt16.toUInt32.toInt32)), (.int ((own_pick p3 (2 : Int32) (Int32.ofNat fn) (Int32.ofNat tn)).toUInt32.toUInt16.toUInt32.toInt32)), (.int ((own_pick p4 (3 : Int32) (Int32.ofNat fn) (Int32.ofNat tn)).toUInt32.toUInt16.toUInt32.toInt32)), (.int ((own_pick p5 (4 : Int32) (Int32.ofNat fn) (Int32.ofNat tn)).toUInt32.toUInt16.toUInt32.toInt32))] (.int (0 : Int32)) := Arv.set Ar31 qk31 S31 M31 H31 G31 (fits_nar_char _) W32 4 rfl (Nat.le_of_ble_eq_true rfl)
  have N32 := Fr.snoc X32 N30 g_b6
  obtain ⟨T33, h33, X33, e33, E33, A33, D33, U33, st33⟩ := newO X32 hx hZ hown (own_t hw 6 rfl) (own_t hw 7 rfl) (own_t hw 8 rfl) e32 (g := (mkF m 98 #[oi p0, oi p1, oi p2, oi p3, oi p4, oi p5, oi (Int32.ofNat fn), oi (Int32.ofNat tn), oa b6, .unset] [])) rfl (hb hby at_98) (by decide) (by decide)
  obtain ⟨b33, g33⟩ : ∃ z, z = h32.size := ⟨_, rfl⟩
  rw [← g33] at A33 D33 U33 st33
  have f34 := (Nat.le_trans f29 (Keep.of_wr W32).1)
  have f35 := (((((((Keep.refl h0 []).ext E6).wr W12 (Or.inr sz_b6)).wr W17 (Or.inr sz_b6)).wr W22 (Or.inr sz_b6)).wr W27 (Or.inr sz_b6)).wr W32 (Or.inr sz_b6))
  have g_b33 : n0 ≤ b33 := Nat.le_trans f34 (Nat.le_of_eq g33.symm)
  have sz_b33 : h0.size ≤ b33 := Nat.le_trans f35.1 (Nat.le_of_eq g33.symm)
  have lt_b6_33 := V32.lt
  have F33_input : Fld Z h33 b33 "com/example/href/href/uri/IriSyntax" "input" "Ljava/lang/String;" .null := D33 (Or.inr (own_t hw 43 rfl)) (ty := (.object "java/lang/String")) (by decide)
  have c37 : own_G p e below T33 (mkF m 102 #[oi p0, oi p1, oi p2, oi p3, oi p4, oi p5, oi (Int32.ofNat fn), oi (Int32.ofNat tn), oa b6, .unset] [(.ref b33), (.ref b33)]) (mkF m 101 #[oi p0, oi p1, oi p2, oi p3, oi p4, oi p5, oi (Int32.ofNat fn), oi (Int32.ofNat tn), oa b6, .unset] [(.ref b33)]) := by
    intro t kt
    show oS T33 (mkF m 101 #[oi p0, oi p1, oi p2, oi p3, oi p4, oi p5, oi (Int32.ofNat fn), oi (Int32.ofNat tn), oa b6, .unset] [(.ref b33)]) _
    refine XS.dup X33.here hx rfl (hb hby at_101) rfl rfl ?_
    exact kt
  obtain ⟨T36, h36, X36, e36, E36, A36, D36, U36, st36⟩ := newO X33 hx hZ hown (own_t hw 9 rfl) (own_t hw 10 rfl) (own_t hw 11 rfl) e33 (g := (mkF m 102 #[oi p0, oi p1, oi p2, oi p3, oi p4, oi p5, oi (Int32.ofNat fn), oi (Int32.ofNat tn), oa b6, .unset] [(.ref b33), (.ref b33)])) rfl (hb hby at_102) (by decide) (by decide)
  obtain ⟨b36, g36⟩ : ∃ z, z = h33.size := ⟨_, rfl⟩
  rw [← g36] at A36 D36 U36 st36
  have f38 := (Nat.le_trans f34 E33.1)
  have f39 := (f35.ext E33)
  have g_b36 : n0 ≤ b36 := Nat.le_trans f38 (Nat.le_of_eq g36.symm)
  have sz_b36 : h0.size ≤ b36 := Nat.le_trans f39.1 (Nat.le_of_eq g36.symm)
  have f40 := (V32.ext E33)
  have lt_b6_36 := f40.lt
  have lt_b33_36 := A33.lt
  have F36_coder : Fld Z h36 b36 "java/lang/String" "coder" "B" (.int (0 : Int32)) := D36 (Or.inr (own_t hw 35 rfl)) (ty := .byte) (by decide)
  have F36_value : Fld Z h36 b36 "java/lang/String" "value" "[B" .null := D36 (Or.inr (own_t hw 37 rfl)) (ty := (.array .byte)) (by decide)
  have hru : own_ru (own_pk p1 (0 : Int32) (Int32.ofNat fn) (Int32.ofNat tn)) (own_pk p2 (1 : Int32) (Int32.ofNat fn) (Int32.ofNat tn)) (own_pk p3 (2 : Int32) (Int32.ofNat fn) (Int32.ofNat tn)) (own_pk p4 (3 : Int32) (Int32.ofNat fn) (Int32.ofNat tn)) (own_pk p5 (4 : Int32) (Int32.ofNat fn) (Int32.ofNat tn)) := ⟨own_pkr _ _ _ _, own_pkr _ _ _ _, own_pkr _ _ _ _, own_pkr _ _ _ _, own_pkr _ _ _ _⟩
  have f41 := (f40.ext E36)
  have Vpk : Arv Z _ _ _ _ _ [(.int (own_pk p1 (0 : Int32) (Int32.ofNat fn) (Int32.ofNat tn))), (.int (own_pk p2 (1 : Int32) (Int32.ofNat fn) (Int32.ofNat tn))), (.int (own_pk p3 (2 : Int32) (Int32.ofNat fn) (Int32.ofNat tn))), (.int (own_pk p4 (3 : Int32) (Int32.ofNat fn) (Int32.ofNat tn))), (.int (own_pk p5 (4 : Int32) (Int32.ofNat fn) (Int32.ofNat tn)))] _ := f41
  have c42 : own_G p e below T36 (mkF m 108 #[oi p0, oi p1, oi p2, oi p3, oi p4, oi p5, oi (Int32.ofNat fn), oi (Int32.ofNat tn), oa b6, .unset] [(.ref b6), (.ref b36), (.ref b36), (.ref b33), (.ref b33)]) (mkF m 105 #[oi p0, oi p1, oi p2, oi p3, oi p4, oi p5, oi (Int32.ofNat fn), oi (Int32.ofNat tn), oa b6, .unset] [(.ref b36), (.ref b33), (.ref b33)]) := by
    intro t kt
    show oS T36 (mkF m 105 #[oi p0, oi p1, oi p2, oi p3, oi p4, oi p5, oi (Int32.ofNat fn), oi (Int32.ofNat tn), oa b6, .unset] [(.ref b36), (.ref b33), (.ref b33)]) _
    refine XS.dup X36.here hx rfl (hb hby at_105) rfl rfl ?_
    show oS T36 (mkF m 106 #[oi p0, oi p1, oi p2, oi p3, oi p4, oi p5, oi (Int32.ofNat fn), oi (Int32.ofNat tn), oa b6, .unset] [(.ref b36), (.ref b36), (.ref b33), (.ref b33)]) _
    refine XS.aload X36.here hx rfl (hb hby at_106) rfl rfl ?_
    exact kt
  have f43 := (Nat.le_trans f38 E36.1)
  have f44 := ((((((((O0.ext E6).wr W12 g_b6).wr W17 g_b6).wr W22 g_b6).wr W27 g_b6).wr W32 g_b6).ext E33).ext E36)
  obtain ⟨_, _, ⟨T45, L45, k45, n45⟩, -, X45, ⟨Lc45, hQ45, l45, y45, z45⟩, st45⟩ := X36.specialBack hx (y := yy_15) rfl hown (mvT hZ (own_t hw 12 rfl)) (mvT hZ (own_t hw 13 rfl)) (mvT hZ (own_t hw 14 rfl)) (by decide) (backOf (W := 3) (rm2 l Z a0 hw []  b36 b6 k6 (own_pk p1 (0 : Int32) (Int32.ofNat fn) (Int32.ofNat tn)) (own_pk p2 (1 : Int32) (Int32.ofNat fn) (Int32.ofNat tn)) (own_pk p3 (2 : Int32) (Int32.ofNat fn) (Int32.ofNat tn)) (own_pk p4 (3 : Int32) (Int32.ofNat fn) (Int32.ofNat tn)) (own_pk p5 (4 : Int32) (Int32.ofNat fn) (Int32.ofNat tn)) cs fm h36 n0 f43 A36 F36_value F36_coder g_b36 Vpk f44 SC hcs SF hfm SA SH SL hru (Nat.ne_of_lt (Nat.lt_of_lt_of_le lt_b6_36 (Nat.le_of_eq g36.symm)))) hZ (own_t hw 14 rfl) (own_t hw 11 rfl) (by decide) (by decide)) (g := (mkF m 108 #[oi p0, oi p1, oi p2, oi p3, oi p4, oi p5, oi (Int32.ofNat fn), oi (Int32.ofNat tn), oa b6, .unset] [(.ref b6), (.ref b36), (.ref b36), (.ref b33), (.ref b33)])) rfl (by rw [hml]; rfl) (Steps.refl _) (a := b36) (argsL := [(.ref b6)]) (rest := [(.ref b36), (.ref b33), (.ref b33)]) (lenOf pd_16 rfl) rfl (by show 2 * 0 + _ ≤ _; exact Nat.le_of_eq rfl) (hb hby at_108) (fun _ _ => ⟨rfl, e36, (by decide : 3 + 2 ≤ _), (by decide : 10 + 15 ≤ _)⟩)
  dsimp only [Pt.U, Pt.locs, Pt.cells, Pt.slots] at X45 l45 y45 z45 st45 hQ45
  subst l45 y45 z45
  obtain ⟨rfl, N45q, Kq45, Eq45, rb45, kb45, szq45, g_rb45, Fv45, henc⟩ := hQ45
  have N45 := Fr.app N32 N45q
  have lt_b6_45 := Vpk.lt
  have f46 := (A33.ext E36)
  have lt_b33_45 := f46.lt
  have lt_b36_45 := A36.lt
  obtain ⟨Go45, X45, N45⟩ := own_opq X45 N45
  rcases henc with ⟨hall, Fcz, Vz⟩ | ⟨Fcz, Vz⟩
  · skip
    have f47 := (Nat.le_trans f43 Kq45.1)
    have f48 := (f46.keep Kq45)
    have f49 := ((F33_input.ext E36).keep Kq45 (ninS (Nat.ne_of_lt (Nat.lt_of_lt_of_le lt_b33_36 (Nat.le_of_eq g36.symm))) nin0))
    obtain ⟨_, _, ⟨T50, L50, k50, n50⟩, -, X50, ⟨Lc50, hQ50, l50, y50, z50⟩, st50⟩ := X45.specialBack hx (y := yy_21) rfl hown (mvT hZ (own_t hw 38 rfl)) (mvT hZ (own_t hw 39 rfl)) (mvT hZ (own_t hw 40 rfl)) (by decide) (backOf (W := 1) (rm8 l Z a0 hw [] b33 b36  T45.heap n0 f47 f48 f49 g_b33) hZ (own_t hw 40 rfl) (own_t hw 8 rfl) (by decide) (by decide)) (g := (mkF m 111 #[oi p0, oi p1, oi p2, oi p3, oi p4, oi p5, oi (Int32.ofNat fn), oi (Int32.ofNat tn), oa b6, .unset] [(.ref b36), (.ref b33), (.ref b33)])) rfl (by rw [hml]; rfl) (Steps.refl _) (a := b33) (argsL := [(.ref b36)]) (rest := [(.ref b33)]) (lenOf pd_17 rfl) rfl (by show 2 * 0 + _ ≤ _; exact Nat.le_of_eq rfl) (hb hby at_111) (fun _ _ => ⟨rfl, rfl, (by decide : 5 + 0 ≤ _), (by decide : 25 + 0 ≤ _)⟩)
    dsimp only [Pt.U, Pt.locs, Pt.cells, Pt.slots] at X50 l50 y50 z50 st50 hQ50
    subst l50 y50 z50
    obtain ⟨rfl, N50q, Kq50, Eq50, Fq50_0⟩ := hQ50
    have N50 := Fr.app N45 N50q
    obtain ⟨Go50, X50, N50⟩ := own_opq X50 N50
    have c51 : own_G p e below T50 (mkF m 122 #[oi p0, oi p1, oi p2, oi p3, oi p4, oi p5, oi (Int32.ofNat fn), oi (Int32.ofNat tn), oa b6, oa b33] [(.int (Int32.ofNat tn)), (.int (Int32.ofNat fn)), (.ref b33)]) (mkF m 114 #[oi p0, oi p1, oi p2, oi p3, oi p4, oi p5, oi (Int32.ofNat fn), oi (Int32.ofNat tn), oa b6, .unset] [(.ref b33)]) := by
      intro t kt
      show oS T50 (mkF m 114 #[oi p0, oi p1, oi p2, oi p3, oi p4, oi p5, oi (Int32.ofNat fn), oi (Int32.ofNat tn), oa b6, .unset] [(.ref b33)]) _
      refine XS.astore X50.here hx rfl (hb hby at_114) rfl rfl (l' := #[oi p0, oi p1, oi p2, oi p3, oi p4, oi p5, oi (Int32.ofNat fn), oi (Int32.ofNat tn), oa b6, oa b33]) rfl ?_
      show oS T50 (mkF m 116 #[oi p0, oi p1, oi p2, oi p3, oi p4, oi p5, oi (Int32.ofNat fn), oi (Int32.ofNat tn), oa b6, oa b33] []) _
      refine XS.aload X50.here hx rfl (hb hby at_116) rfl rfl ?_
      show oS T50 (mkF m 118 #[oi p0, oi p1, oi p2, oi p3, oi p4, oi p5, oi (Int32.ofNat fn), oi (Int32.ofNat tn), oa b6, oa b33] [(.ref b33)]) _
      refine XS.iload X50.here hx rfl (hb hby at_118) rfl ?_
      show oS T50 (mkF m 120 #[oi p0, oi p1, oi p2, oi p3, oi p4, oi p5, oi (Int32.ofNat fn), oi (Int32.ofNat tn), oa b6, oa b33] [(.int (Int32.ofNat fn)), (.ref b33)]) _
      refine XS.iload X50.here hx rfl (hb hby at_120) rfl ?_
      exact kt
    have f52 := (Nat.le_trans f47 Kq50.1)
    have f53 := (Eq45.keep Kq50)
    have f54 := (Fv45.keep Kq50 (ninS (Ne.symm (Nat.ne_of_lt (Nat.lt_of_lt_of_le lt_b33_36 (Nat.le_of_eq g36.symm)))) nin0))
    have f55 := (Fcz.keep Kq50 (ninS (Ne.symm (Nat.ne_of_lt (Nat.lt_of_lt_of_le lt_b33_36 (Nat.le_of_eq g36.symm)))) nin0))
    have f56 := (Vz.keep Kq50 (ninS (Ne.symm (Nat.ne_of_lt (Nat.lt_of_lt_of_le lt_b33_45 szq45))) nin0))
    have f57 := ((f44.keep Kq45 (allS g_b36 all0)).keep Kq50 (allS g_b33 all0))
    obtain ⟨cq58, kq58, q58a, q58b, q58c⟩ := isOf hZ rfl Eq50
    obtain ⟨_, _, ⟨T59, L59, k59, n59⟩, -, X59, ⟨Lc59, hQ59, l59, y59, z59⟩, st59⟩ := X50.virtualBack hx (y := yy_20) (z := yy_20) hown (mvT hZ (own_t hw 44 rfl)) (mvT hZ (own_t hw 45 rfl)) (notFace_of_selects (args := #[]) (mvT hZ (own_t hw 47 rfl))) (mvT hZ (own_t hw 47 rfl)) (mvT hZ (own_t hw 46 rfl)) (by decide) (backOf (W := 0) (rm9a l Z a0 hw []  b33 b36 rb45 kb45 (own_pk p1 (0 : Int32) (Int32.ofNat fn) (Int32.ofNat tn)) (own_pk p2 (1 : Int32) (Int32.ofNat fn) (Int32.ofNat tn)) (own_pk p3 (2 : Int32) (Int32.ofNat fn) (Int32.ofNat tn)) (own_pk p4 (3 : Int32) (Int32.ofNat fn) (Int32.ofNat tn)) (own_pk p5 (4 : Int32) (Int32.ofNat fn) (Int32.ofNat tn)) fn tn cs fm T50.heap n0 f52 Eq50 Fq50_0 f53 f54 f55 f56 (SF.ext f57.2) hfm (SC.ext f57.2) hcs (SA.ext f57.2) (SH.ext f57.2) (SL.ext f57.2) hall hru hft h5 (own_pka p1 p2 p3 p4 p5 fn tn h5)) hZ (own_t hw 48 rfl) (own_t hw 8 rfl) (by decide) (by decide)) q58a q58c (g := (mkF m 122 #[oi p0, oi p1, oi p2, oi p3, oi p4, oi p5, oi (Int32.ofNat fn), oi (Int32.ofNat tn), oa b6, oa b33] [(.int (Int32.ofNat tn)), (.int (Int32.ofNat fn)), (.ref b33)])) rfl (by rw [hml]; rfl) (Steps.refl _) (argsL := [(.int (Int32.ofNat fn)), (.int (Int32.ofNat tn))]) (rest := []) (lenOf pd_1 rfl) rfl (by show 2 * 0 + _ ≤ _; exact Nat.le_of_eq rfl) (hb hby at_122) (fun _ _ => ⟨rfl, rfl, (by decide : 5 + 0 ≤ _), (by decide : 25 + 0 ≤ _)⟩)
    dsimp only [Pt.U, Pt.locs, Pt.cells, Pt.slots] at X59 l59 y59 z59 st59 hQ59
    subst l59 y59 z59
    obtain ⟨rfl, N59q, e59⟩ := hQ59
    have N59 := Fr.app N50 N59q
    obtain ⟨Go59, X59, N59⟩ := own_opq X59 N59
    have c60 : own_G p e below T59 (mkF m 126 #[oi p0, oi p1, oi p2, oi p3, oi p4, oi p5, oi (Int32.ofNat fn), oi (Int32.ofNat tn), oa b6, oa b33] [(.int (1 : Int32))]) (mkF m 125 #[oi p0, oi p1, oi p2, oi p3, oi p4, oi p5, oi (Int32.ofNat fn), oi (Int32.ofNat tn), oa b6, oa b33] []) := by
      intro t kt
      show oS T59 (mkF m 125 #[oi p0, oi p1, oi p2, oi p3, oi p4, oi p5, oi (Int32.ofNat fn), oi (Int32.ofNat tn), oa b6, oa b33] []) _
      refine XS.iconst X59.here hx rfl (hb hby at_125) ?_
      exact kt
    obtain ⟨fs, hr, hrun, hended, hW, hsame⟩ := X59.leave (v := some (.int (1 : Int32))) (fun h => by rw [Bd.returns] at h; cases h)
    refine ⟨_, _, pre0 _ (c1 _ (c2 _ (c3 _ (c4 _ (c5 _ (c7 _ (st6 _ (c8 _ (st10 _ (st12 _ (c13 _ (st15 _ (st17 _ (c18 _ (st20 _ (st22 _ (c23 _ (st25 _ (st27 _ (c28 _ (st30 _ (st32 _ (st33 _ (c37 _ (st36 _ (c42 _ (st45.trans (st50.trans (c51 _ (st59.trans (c60 _ (?_)))))))))))))))))))))))))))))))), hrun, hended, _, _, rfl, ?_, ⟨_, rfl⟩, hW, hsame.mono (by decide) (by decide)⟩
    · show Steps p.tables e below (T59.setTop (mkF m 126 #[oi p0, oi p1, oi p2, oi p3, oi p4, oi p5, oi (Int32.ofNat fn), oi (Int32.ofNat tn), oa b6, oa b33] [(.int (1 : Int32))])) _
      exact retN X59 hx (t := .boolean) Bd.returns (by simp) (hb hby at_126) hr
    · show Q0 Z p0 p1 p2 p3 p4 p5 cs fm h0 n0 _ T59.heap _
      rw [e59]
      exact ⟨congrArg (fun z => some (Value.int z)) (show (1 : Int32) = (1 : Int32) from by rfl), N59⟩
  · skip
    have f62 := (Nat.le_trans f43 Kq45.1)
    have f63 := (f46.keep Kq45)
    have f64 := ((F33_input.ext E36).keep Kq45 (ninS (Nat.ne_of_lt (Nat.lt_of_lt_of_le lt_b33_36 (Nat.le_of_eq g36.symm))) nin0))
    obtain ⟨_, _, ⟨T65, L65, k65, n65⟩, -, X65, ⟨Lc65, hQ65, l65, y65, z65⟩, st65⟩ := X45.specialBack hx (y := yy_21) rfl hown (mvT hZ (own_t hw 38 rfl)) (mvT hZ (own_t hw 39 rfl)) (mvT hZ (own_t hw 40 rfl)) (by decide) (backOf (W := 1) (rm8 l Z a0 hw [] b33 b36  T45.heap n0 f62 f63 f64 g_b33) hZ (own_t hw 40 rfl) (own_t hw 8 rfl) (by decide) (by decide)) (g := (mkF m 111 #[oi p0, oi p1, oi p2, oi p3, oi p4, oi p5, oi (Int32.ofNat fn), oi (Int32.ofNat tn), oa b6, .unset] [(.ref b36), (.ref b33), (.ref b33)])) rfl (by rw [hml]; rfl) (Steps.refl _) (a := b33) (argsL := [(.ref b36)]) (rest := [(.ref b33)]) (lenOf pd_17 rfl) rfl (by show 2 * 0 + _ ≤ _; exact Nat.le_of_eq rfl) (hb hby at_111) (fun _ _ => ⟨rfl, rfl, (by decide : 5 + 0 ≤ _), (by decide : 25 + 0 ≤ _)⟩)
    dsimp only [Pt.U, Pt.locs, Pt.cells, Pt.slots] at X65 l65 y65 z65 st65 hQ65
    subst l65 y65 z65
    obtain ⟨rfl, N65q, Kq65, Eq65, Fq65_0⟩ := hQ65
    have N65 := Fr.app N45 N65q
    obtain ⟨Go65, X65, N65⟩ := own_opq X65 N65
    have c66 : own_G p e below T65 (mkF m 122 #[oi p0, oi p1, oi p2, oi p3, oi p4, oi p5, oi (Int32.ofNat fn), oi (Int32.ofNat tn), oa b6, oa b33] [(.int (Int32.ofNat tn)), (.int (Int32.ofNat fn)), (.ref b33)]) (mkF m 114 #[oi p0, oi p1, oi p2, oi p3, oi p4, oi p5, oi (Int32.ofNat fn), oi (Int32.ofNat tn), oa b6, .unset] [(.ref b33)]) := by
      intro t kt
      show oS T65 (mkF m 114 #[oi p0, oi p1, oi p2, oi p3, oi p4, oi p5, oi (Int32.ofNat fn), oi (Int32.ofNat tn), oa b6, .unset] [(.ref b33)]) _
      refine XS.astore X65.here hx rfl (hb hby at_114) rfl rfl (l' := #[oi p0, oi p1, oi p2, oi p3, oi p4, oi p5, oi (Int32.ofNat fn), oi (Int32.ofNat tn), oa b6, oa b33]) rfl ?_
      show oS T65 (mkF m 116 #[oi p0, oi p1, oi p2, oi p3, oi p4, oi p5, oi (Int32.ofNat fn), oi (Int32.ofNat tn), oa b6, oa b33] []) _
      refine XS.aload X65.here hx rfl (hb hby at_116) rfl rfl ?_
      show oS T65 (mkF m 118 #[oi p0, oi p1, oi p2, oi p3, oi p4, oi p5, oi (Int32.ofNat fn), oi (Int32.ofNat tn), oa b6, oa b33] [(.ref b33)]) _
      refine XS.iload X65.here hx rfl (hb hby at_118) rfl ?_
      show oS T65 (mkF m 120 #[oi p0, oi p1, oi p2, oi p3, oi p4, oi p5, oi (Int32.ofNat fn), oi (Int32.ofNat tn), oa b6, oa b33] [(.int (Int32.ofNat fn)), (.ref b33)]) _
      refine XS.iload X65.here hx rfl (hb hby at_120) rfl ?_
      exact kt
    have f67 := (Nat.le_trans f62 Kq65.1)
    have f68 := (Eq45.keep Kq65)
    have f69 := (Fv45.keep Kq65 (ninS (Ne.symm (Nat.ne_of_lt (Nat.lt_of_lt_of_le lt_b33_36 (Nat.le_of_eq g36.symm)))) nin0))
    have f70 := (Fcz.keep Kq65 (ninS (Ne.symm (Nat.ne_of_lt (Nat.lt_of_lt_of_le lt_b33_36 (Nat.le_of_eq g36.symm)))) nin0))
    have f71 := (Vz.keep Kq65 (ninS (Ne.symm (Nat.ne_of_lt (Nat.lt_of_lt_of_le lt_b33_45 szq45))) nin0))
    have f72 := ((f44.keep Kq45 (allS g_b36 all0)).keep Kq65 (allS g_b33 all0))
    obtain ⟨cq73, kq73, q73a, q73b, q73c⟩ := isOf hZ rfl Eq65
    obtain ⟨_, _, ⟨T74, L74, k74, n74⟩, -, X74, ⟨Lc74, hQ74, l74, y74, z74⟩, st74⟩ := X65.virtualBack hx (y := yy_20) (z := yy_20) hown (mvT hZ (own_t hw 44 rfl)) (mvT hZ (own_t hw 45 rfl)) (notFace_of_selects (args := #[]) (mvT hZ (own_t hw 47 rfl))) (mvT hZ (own_t hw 47 rfl)) (mvT hZ (own_t hw 46 rfl)) (by decide) (backOf (W := 0) (rm9b l Z a0 hw []  b33 b36 rb45 kb45 (own_pk p1 (0 : Int32) (Int32.ofNat fn) (Int32.ofNat tn)) (own_pk p2 (1 : Int32) (Int32.ofNat fn) (Int32.ofNat tn)) (own_pk p3 (2 : Int32) (Int32.ofNat fn) (Int32.ofNat tn)) (own_pk p4 (3 : Int32) (Int32.ofNat fn) (Int32.ofNat tn)) (own_pk p5 (4 : Int32) (Int32.ofNat fn) (Int32.ofNat tn)) fn tn cs fm T65.heap n0 f67 Eq65 Fq65_0 f68 f69 f70 f71 (SF.ext f72.2) hfm (SC.ext f72.2) hcs (SA.ext f72.2) (SH.ext f72.2) (SL.ext f72.2) hru hft h5 (own_pka p1 p2 p3 p4 p5 fn tn h5)) hZ (own_t hw 48 rfl) (own_t hw 8 rfl) (by decide) (by decide)) q73a q73c (g := (mkF m 122 #[oi p0, oi p1, oi p2, oi p3, oi p4, oi p5, oi (Int32.ofNat fn), oi (Int32.ofNat tn), oa b6, oa b33] [(.int (Int32.ofNat tn)), (.int (Int32.ofNat fn)), (.ref b33)])) rfl (by rw [hml]; rfl) (Steps.refl _) (argsL := [(.int (Int32.ofNat fn)), (.int (Int32.ofNat tn))]) (rest := []) (lenOf pd_1 rfl) rfl (by show 2 * 0 + _ ≤ _; exact Nat.le_of_eq rfl) (hb hby at_122) (fun _ _ => ⟨rfl, rfl, (by decide : 5 + 0 ≤ _), (by decide : 25 + 0 ≤ _)⟩)
    dsimp only [Pt.U, Pt.locs, Pt.cells, Pt.slots] at X74 l74 y74 z74 st74 hQ74
    subst l74 y74 z74
    obtain ⟨rfl, N74q, e74⟩ := hQ74
    have N74 := Fr.app N65 N74q
    obtain ⟨Go74, X74, N74⟩ := own_opq X74 N74
    have c75 : own_G p e below T74 (mkF m 126 #[oi p0, oi p1, oi p2, oi p3, oi p4, oi p5, oi (Int32.ofNat fn), oi (Int32.ofNat tn), oa b6, oa b33] [(.int (1 : Int32))]) (mkF m 125 #[oi p0, oi p1, oi p2, oi p3, oi p4, oi p5, oi (Int32.ofNat fn), oi (Int32.ofNat tn), oa b6, oa b33] []) := by
      intro t kt
      show oS T74 (mkF m 125 #[oi p0, oi p1, oi p2, oi p3, oi p4, oi p5, oi (Int32.ofNat fn), oi (Int32.ofNat tn), oa b6, oa b33] []) _
      refine XS.iconst X74.here hx rfl (hb hby at_125) ?_
      exact kt
    obtain ⟨fs, hr, hrun, hended, hW, hsame⟩ := X74.leave (v := some (.int (1 : Int32))) (fun h => by rw [Bd.returns] at h; cases h)
    refine ⟨_, _, pre0 _ (c1 _ (c2 _ (c3 _ (c4 _ (c5 _ (c7 _ (st6 _ (c8 _ (st10 _ (st12 _ (c13 _ (st15 _ (st17 _ (c18 _ (st20 _ (st22 _ (c23 _ (st25 _ (st27 _ (c28 _ (st30 _ (st32 _ (st33 _ (c37 _ (st36 _ (c42 _ (st45.trans (st65.trans (c66 _ (st74.trans (c75 _ (?_)))))))))))))))))))))))))))))))), hrun, hended, _, _, rfl, ?_, ⟨_, rfl⟩, hW, hsame.mono (by decide) (by decide)⟩
    · show Steps p.tables e below (T74.setTop (mkF m 126 #[oi p0, oi p1, oi p2, oi p3, oi p4, oi p5, oi (Int32.ofNat fn), oi (Int32.ofNat tn), oa b6, oa b33] [(.int (1 : Int32))])) _
      exact retN X74 hx (t := .boolean) Bd.returns (by simp) (hb hby at_126) hr
    · show Q0 Z p0 p1 p2 p3 p4 p5 cs fm h0 n0 _ T74.heap _
      rw [e74]
      exact ⟨congrArg (fun z => some (Value.int z)) (show (1 : Int32) = (1 : Int32) from by rfl), N74⟩
set_option maxRecDepth 65536 in
set_option maxHeartbeats 40000000 in
theorem comes_1 {Post : Tables → Env → Array Value → State → Outcome → State → Prop} (hpost : ∀ tb e args s v u, (limb_1_1.after args s (.returned v) u = true ∧ limb_1_2.after args s (.returned v) u = true ∧ True) → FrameEnd s (.returned v) u (Jvm.fieldLocs frame_1_writes args s ++ Jvm.arrayLocs frame_1_arrays args s ++ Jvm.staticLocs frame_1_statics s) 24 128 → Post tb e args s (.returned v) u) :
    ArmFor flags0 classFile x code maxLocals ret World_1 tables_1 room_1 Calls_1 rest_1 Pre_1 Post := by
  intro l hfl _ _ p e ha hc hk s m args below hf hA hF happ hP
  obtain ⟨hcalls, hrest, hpre⟩ := hP
  obtain ⟨-, -, -, hnamed, -, -, -, hat⟩ := (Spec.applies_iff hf).mp happ
  obtain ⟨hg, hn⟩ := and_e (Cond.before_iff.mp (show (Jvm.Cond.and given_1 narrow_1).before args s = true from hpre))
  obtain ⟨g1, g2⟩ := and_e hg
  obtain ⟨g3, g4⟩ := and_e g2
  obtain ⟨g5, g6⟩ := and_e g4
  obtain ⟨g7, g8⟩ := and_e g6
  obtain ⟨g9, g10⟩ := and_e g8
  obtain ⟨g11, g12⟩ := and_e g10
  obtain ⟨w0, w1, w2, w3, w4, w5, rfl⟩ : ∃ w0 w1 w2 w3 w4 w5 : Value, args = #[w0, w1, w2, w3, w4, w5] := by
    have hs : args.size = 6 := by simpa [Cond.value, given_1] using g1
    obtain ⟨L⟩ := args
    match L, hs with
    | [w0, w1, w2, w3, w4, w5], _ => exact ⟨w0, w1, w2, w3, w4, w5, rfl⟩
  have hw := fun d (hd : d ∈ tables_1) => atoms_spec (ws := Jvm.Cond.code x code maxLocals ret :: tables_1) hat d (List.mem_cons_of_mem _ hd)
  have hfit : Fit s := fun {y c} hc i hi => by
    obtain ⟨ha, rfl⟩ := Array.getElem?_eq_some_iff.mp hc
    have q := List.all_eq_true.mp ((Array.all_eq_true_iff_forall_mem.mp hF) _ (Array.getElem_mem ha)) i (List.mem_range.mpr hi)
    simpa [Array.getElem?_eq_getElem hi] using q
  obtain ⟨hsets, hown0⟩ := atoms_of _ (rest_1_c_eq ▸ (show rest_1_c.before _ s = true from hrest))
  have hr0 := Cond.before_iff.mp hown0
  obtain ⟨i0, ei0⟩ := is_v g3
  obtain rfl : w0 = (.int i0) := Option.some.inj ei0
  obtain ⟨i1, ei1⟩ := is_v g5
  obtain rfl : w1 = (.int i1) := Option.some.inj ei1
  obtain ⟨i2, ei2⟩ := is_v g7
  obtain rfl : w2 = (.int i2) := Option.some.inj ei2
  obtain ⟨i3, ei3⟩ := is_v g9
  obtain rfl : w3 = (.int i3) := Option.some.inj ei3
  obtain ⟨i4, ei4⟩ := is_v g11
  obtain rfl : w4 = (.int i4) := Option.some.inj ei4
  obtain ⟨i5, ei5⟩ := is_v g12
  obtain rfl : w5 = (.int i5) := Option.some.inj ei5
  have n3 := not_v (Cond.before_iff.mp (hsets _ (List.mem_of_getElem? (i := 2) rfl)))
  obtain ⟨cs, ecs⟩ := is_v (Cond.before_iff.mp (hsets _ (List.mem_of_getElem? (i := 1) rfl)))
  have SC : Sta s s.heap "java/lang/String" "COMPACT_STRINGS" "Z" (.int cs) := Sta.start ecs (Or.inl (hsets _ (List.mem_of_getElem? (i := 0) rfl)))
  have hcs : ¬ (cs = (0 : Int32)) := gotF (Cond.eq_ints ecs (Term.int_eval (0))) n3
  obtain ⟨fm, efm, hfm⟩ := isR_v (Cond.before_iff.mp (hsets _ (List.mem_of_getElem? (i := 8) rfl)))
  have SF : Sta s s.heap "jdk/internal/util/Preconditions" "SIOOBE_FORMATTER" "Ljava/util/function/BiFunction;" fm := Sta.start efm (Or.inl (hsets _ (List.mem_of_getElem? (i := 7) rfl)))
  have SA : Sta s s.heap "java/lang/StringUTF16" "$assertionsDisabled" "Z" (.int (1 : Int32)) := Sta.start (own_int (Cond.before_iff.mp (hsets _ (List.mem_of_getElem? (i := 12) rfl)))) (Or.inl (hsets _ (List.mem_of_getElem? (i := 11) rfl)))
  have SH : Sta s s.heap "java/lang/StringUTF16" "HI_BYTE_SHIFT" "I" (.int (0 : Int32)) := Sta.start (own_int (Cond.before_iff.mp (hsets _ (List.mem_of_getElem? (i := 15) rfl)))) (Or.inl (hsets _ (List.mem_of_getElem? (i := 14) rfl)))
  have SL : Sta s s.heap "java/lang/StringUTF16" "LO_BYTE_SHIFT" "I" (.int (8 : Int32)) := Sta.start (own_int (Cond.before_iff.mp (hsets _ (List.mem_of_getElem? (i := 18) rfl)))) (Or.inl (hsets _ (List.mem_of_getElem? (i := 17) rfl)))
  obtain ⟨n, o, h1, h2, h3, _, L, rfl, ⟨rfl, N⟩, hq⟩ := rm0 l s _ hw tables_1 i0 i1 i2 i3 i4 i5 cs fm s.heap s.heap.size (Nat.le_refl _) (Old.start s) SC hcs SF hfm SA SH SL p e ha hc hk s m _ below hf ((Spec.applies_iff_loose hf).mp happ).1 ⟨rfl, State.Warmed39.refl s, rfl⟩ trivial
  refine ⟨n, _, h1, h2, h3, hpost _ _ _ _ _ _ ⟨Cond.after_iff.mpr rfl, Cond.after_iff.mpr (eq_i res_at (Term.int_eval (1)) rfl), trivial⟩ ⟨hq.1, hq.2.1, (hq.2.2.sift fun y hy => Or.inr (N y hy)).mono (by decide) (by decide)⟩⟩
theorem main_1_1 : Claimed_1_1 := comes_1 fun _ _ _ _ _ _ h hF => ⟨h.1, hF⟩
theorem main_1_2 : Claimed_1_2 := comes_1 fun _ _ _ _ _ _ h hF => ⟨h.2.1, hF⟩
end Jvm.Pilot.@@N@@
namespace Jvm.Pilot.@@N@@
open Jvm Jvm.ClassFile Sem Op Lib Jvm.Free Jvm.Stand Jvm.Pilot.@@N@@.Jvm.D
/-! MADE BY PROGRAM (witnessworld.py) out of the Statement's table words and the real class files: 20 classes; the members and pool entries that the words name. The judged class is class 1, her method 1. -/
namespace start1
open Jvm.ClassFile
def u (s : String) : CpInfo := .utf8 (stringToUtf16 s)
/-- a pool by its gaps: so many unusable entries, then the entry; so many at the end -/
def gap : Nat → List CpInfo → List CpInfo
  | 0, r => r
  | n + 1, r => .unusable :: gap n r
def poolList (es : List (Nat × CpInfo)) (last : Nat) : List CpInfo := es.foldr (fun e r => gap e.1 (e.2 :: r)) (gap last [])
def pool (es : List (Nat × CpInfo)) (last : Nat) : Array CpInfo := ⟨poolList es last⟩
def fileOf (pool : Array CpInfo) (this : Nat) (attrs : Array Attribute := #[]) (ms : Array MethodInfo := #[]) (fl : Nat := 33) (sup : Nat := 0) (ifs : Array Nat := #[]) (fds : Array FieldInfo := #[]) : ClassFile where
  minorVersion := 0
  majorVersion := 65
  constantPool := pool
  accessFlags := fl
  thisClass := this
  superClass := sup
  interfaces := ifs
  fields := fds
  methods := ms
  attributes := attrs
def plain (name : String) (sup : Option ClassId) : Class where
  name := name
  kind := .ordinary
  loader := none
  accessFlags := 33
  super := sup
  interfaces := #[]
  cf := none
  fields := #[]
  methods := #[]
  instanceTypes := #[]
  staticTypes := #[]
  resolved := #[]
  callSites := []
  init := .initialized
  statics := none
  mirror := none

def pool0 : Array CpInfo := pool [(5, u "<init>"), (0, u "()V"), (1, .class_ 10), (1, u "java/lang/Object")] 113

def k0c0 : Code := { maxStack := 0, maxLocals := 1, code := object_method_1_code, exceptionTable := #[], attributes := #[] }
def k0m0 : Method := { name := "<init>", desc := "()V", sig := { parameters := [], returnType := none }, accessFlags := 1, code := some k0c0 }
/-- java/lang/Object -/
def k0 : Class := { plain "java/lang/Object" none with
  accessFlags := 33
  interfaces := #[]
  cf := some (fileOf pool0 8 #[] #[{ accessFlags := 1, nameIndex := 5, descriptorIndex := 6, attributes := #[] }] 33 0 #[] #[])
  fields := #[]
  methods := #[k0m0]
  instanceTypes := #[]
  staticTypes := #[]
  resolved := Array.replicate 124 none
  statics := none }

def pool1 : Array CpInfo := pool [(2, .class_ 4), (1, u "java/lang/Object"), (0, u "<init>"), (0, u "()V"), (0, .methodref 8 9), (0, .class_ 10), (0, .nameAndType 11 12), (0, u "com/example/href/href/uri/IriSyntaxCheckSchemePinLaw"), (0, u "pick"), (0, u "(IIII)C"), (0, .class_ 14), (0, u "com/example/href/href/uri/IriSyntax"), (0, .class_ 16), (0, u "java/lang/String"), (0, .methodref 15 18), (0, .nameAndType 5 19), (0, u "([C)V"), (0, .methodref 13 21), (0, .nameAndType 5 22), (0, u "(Ljava/lang/String;)V"), (0, .methodref 13 24), (0, .nameAndType 25 26), (0, u "checkScheme"), (0, u "(II)V"), (0, .integer 65535), (0, .integer 2147483647), (2, u "law"), (0, u "(IIIIII)Z")] 6

def k1m0 : Method := { name := "<init>", desc := "()V", sig := { parameters := [], returnType := none }, accessFlags := 1, code := none }
def k1c1 : Code := { maxStack := 6, maxLocals := 10, code := code, exceptionTable := #[], attributes := #[] }
def k1m1 : Method := { name := "law", desc := "(IIIIII)Z", sig := { parameters := [.int, .int, .int, .int, .int, .int], returnType := some .boolean }, accessFlags := 9, code := some k1c1 }
def k1c2 : Code := { maxStack := 3, maxLocals := 5, code := method_3_code, exceptionTable := #[], attributes := #[] }
def k1m2 : Method := { name := "pick", desc := "(IIII)C", sig := { parameters := [.int, .int, .int, .int], returnType := some .char }, accessFlags := 10, code := some k1c2 }
/-- com/example/href/href/uri/IriSyntaxCheckSchemePinLaw -/
def k1 : Class := { plain "com/example/href/href/uri/IriSyntaxCheckSchemePinLaw" (some 0) with
  accessFlags := 49
  interfaces := #[]
  cf := some (fileOf pool1 8 #[] #[{ accessFlags := 1, nameIndex := 5, descriptorIndex := 6, attributes := #[] }, { accessFlags := 9, nameIndex := 31, descriptorIndex := 32, attributes := #[] }, { accessFlags := 10, nameIndex := 11, descriptorIndex := 12, attributes := #[] }] 49 2 #[] #[])
  fields := #[]
  methods := #[k1m0, k1m1, k1m2]
  instanceTypes := #[]
  staticTypes := #[]
  resolved := Array.replicate 39 none
  statics := none }

def pool2 : Array CpInfo := pool [(1, .methodref 2 3), (0, .class_ 4), (0, .nameAndType 5 6), (0, u "java/lang/Object"), (0, u "<init>"), (0, u "()V"), (0, .fieldref 8 9), (0, .class_ 10), (0, .nameAndType 11 12), (0, u "com/example/href/href/uri/IriSyntax"), (0, u "input"), (0, u "Ljava/lang/String;"), (0, .methodref 14 15), (0, .class_ 16), (0, .nameAndType 17 18), (0, u "java/lang/String"), (0, u "charAt"), (0, u "(I)C"), (0, .methodref 8 20), (0, .nameAndType 21 22), (0, u "isAsciiLetter"), (0, u "(I)Z"), (0, .methodref 8 24), (0, .nameAndType 25 22), (0, u "isDigit"), (24, u "(II)V"), (130, u "SUB_DELIMS"), (1, u "(Ljava/lang/String;)V"), (2, u "checkScheme")] 37

def k2c0 : Code := { maxStack := 2, maxLocals := 2, code := prog_57_method_1_code, exceptionTable := #[], attributes := #[] }
def k2m0 : Method := { name := "<init>", desc := "(Ljava/lang/String;)V", sig := { parameters := [(.object "java/lang/String")], returnType := none }, accessFlags := 0, code := some k2c0 }
def k2c1 : Code := { maxStack := 5, maxLocals := 6, code := prog_57_method_2_code, exceptionTable := #[], attributes := #[] }
def k2m1 : Method := { name := "checkScheme", desc := "(II)V", sig := { parameters := [.int, .int], returnType := none }, accessFlags := 0, code := some k2c1 }
def k2c2 : Code := { maxStack := 2, maxLocals := 1, code := prog_57_method_17_code, exceptionTable := #[], attributes := #[] }
def k2m2 : Method := { name := "isAsciiLetter", desc := "(I)Z", sig := { parameters := [.int], returnType := some .boolean }, accessFlags := 10, code := some k2c2 }
def k2c3 : Code := { maxStack := 2, maxLocals := 1, code := prog_57_method_18_code, exceptionTable := #[], attributes := #[] }
def k2m3 : Method := { name := "isDigit", desc := "(I)Z", sig := { parameters := [.int], returnType := some .boolean }, accessFlags := 10, code := some k2c3 }
/-- com/example/href/href/uri/IriSyntax -/
def k2 : Class := { plain "com/example/href/href/uri/IriSyntax" (some 0) with
  accessFlags := 32
  interfaces := #[]
  cf := some (fileOf pool2 8 #[] #[{ accessFlags := 0, nameIndex := 5, descriptorIndex := 183, attributes := #[] }, { accessFlags := 0, nameIndex := 186, descriptorIndex := 50, attributes := #[] }, { accessFlags := 10, nameIndex := 21, descriptorIndex := 22, attributes := #[] }, { accessFlags := 10, nameIndex := 25, descriptorIndex := 22, attributes := #[] }] 32 2 #[] #[{ accessFlags := 26, nameIndex := 181, descriptorIndex := 12, attributes := #[] }, { accessFlags := 18, nameIndex := 11, descriptorIndex := 12, attributes := #[] }])
  fields := #[{ name := "SUB_DELIMS", type := (.object "java/lang/String"), accessFlags := 26, slot := 0, constantValue := 0 }, { name := "input", type := (.object "java/lang/String"), accessFlags := 18, slot := 0, constantValue := 0 }]
  methods := #[k2m0, k2m1, k2m2, k2m3]
  instanceTypes := #[(.object "java/lang/String")]
  staticTypes := #[(.object "java/lang/String")]
  resolved := Array.replicate 224 none
  statics := none }

def pool3 : Array CpInfo := pool [(1, .class_ 2), (0, u "java/io/Serializable"), (0, .class_ 4), (0, u "java/lang/Object")] 2

/-- java/io/Serializable -/
def k3 : Class := { plain "java/io/Serializable" (some 0) with
  accessFlags := 1537
  interfaces := #[]
  cf := some (fileOf pool3 1 #[] #[] 1537 3 #[] #[])
  fields := #[]
  methods := #[]
  instanceTypes := #[]
  staticTypes := #[]
  resolved := Array.replicate 7 none
  statics := none }

def pool4 : Array CpInfo := pool [(1, .class_ 2), (0, u "java/lang/Comparable"), (0, .class_ 4), (0, u "java/lang/Object")] 7

/-- java/lang/Comparable -/
def k4 : Class := { plain "java/lang/Comparable" (some 0) with
  accessFlags := 1537
  interfaces := #[]
  cf := some (fileOf pool4 1 #[] #[] 1537 3 #[] #[])
  fields := #[]
  methods := #[]
  instanceTypes := #[]
  staticTypes := #[]
  resolved := Array.replicate 12 none
  statics := none }

def pool5 : Array CpInfo := pool [(2, .class_ 4), (1, u "java/lang/CharSequence"), (42, .class_ 48), (0, u "java/lang/CharSequence$1CodePointIterator"), (10, .class_ 60), (0, u "java/lang/CharSequence$1CharIterator"), (5, .class_ 67), (0, u "java/lang/Object")] 63

/-- java/lang/CharSequence -/
def k5 : Class := { plain "java/lang/CharSequence" (some 0) with
  accessFlags := 1537
  interfaces := #[]
  cf := some (fileOf pool5 2 #[.nestMembers #[47, 59]] #[] 1537 66 #[] #[])
  fields := #[]
  methods := #[]
  instanceTypes := #[]
  staticTypes := #[]
  resolved := Array.replicate 131 none
  statics := none }

def pool6 : Array CpInfo := pool [(1, .class_ 2), (0, u "java/lang/constant/Constable"), (0, .class_ 4), (0, u "java/lang/Object")] 6

/-- java/lang/constant/Constable -/
def k6 : Class := { plain "java/lang/constant/Constable" (some 0) with
  accessFlags := 1537
  interfaces := #[]
  cf := some (fileOf pool6 1 #[] #[] 1537 3 #[] #[])
  fields := #[]
  methods := #[]
  instanceTypes := #[]
  staticTypes := #[]
  resolved := Array.replicate 11 none
  statics := none }

def pool7 : Array CpInfo := pool [(1, .class_ 2), (0, u "java/lang/constant/ConstantDesc"), (0, .class_ 4), (0, u "java/lang/Object")] 32

/-- java/lang/constant/ConstantDesc -/
def k7 : Class := { plain "java/lang/constant/ConstantDesc" (some 0) with
  accessFlags := 1537
  interfaces := #[]
  cf := some (fileOf pool7 1 #[] #[] 1537 3 #[] #[])
  fields := #[]
  methods := #[]
  instanceTypes := #[]
  staticTypes := #[]
  resolved := Array.replicate 37 none
  statics := none }

def pool8 : Array CpInfo := pool [(1, .methodref 2 3), (0, .class_ 4), (0, .nameAndType 5 6), (0, u "java/lang/Object"), (0, u "<init>"), (0, u "()V"), (2, .fieldref 10 11), (0, .class_ 12), (0, .nameAndType 13 14), (0, u "java/lang/String"), (0, u "value"), (0, u "[B"), (0, .fieldref 10 16), (0, .nameAndType 17 18), (0, u "coder"), (0, u "B"), (2, u "hash"), (0, u "I"), (2, u "hashIsZero"), (0, u "Z"), (0, .methodref 10 28), (0, .nameAndType 5 29), (0, u "([CIILjava/lang/Void;)V"), (8, .fieldref 10 39), (0, .nameAndType 40 26), (0, u "COMPACT_STRINGS"), (1, .class_ 44), (1, u "java/lang/StringUTF16"), (0, u "compress"), (1, .methodref 42 48), (0, .nameAndType 49 50), (0, u "coderFromArrayLen"), (0, u "([BI)B"), (56, .class_ 109), (1, u "java/lang/StringLatin1"), (32, u "()Z"), (34, .methodref 42 178), (0, .nameAndType 45 179), (0, u "([CII)[B"), (183, u "([BI)C"), (27, u "(II)V"), (35, u "(I)C"), (64, .methodref 10 493), (0, .nameAndType 494 142), (0, u "isLatin1"), (0, .methodref 107 496), (0, .nameAndType 497 363), (0, u "charAt"), (0, .methodref 42 496), (2, u "checkIndex"), (73, .class_ 576), (0, u "java/lang/CharSequence"), (22, u "CASE_INSENSITIVE_ORDER"), (0, u "Ljava/util/Comparator;"), (409, u "([C)V"), (42, .fieldref 1054 1055), (0, .class_ 1056), (0, .nameAndType 1057 1058), (0, u "jdk/internal/util/Preconditions"), (0, u "SIOOBE_FORMATTER"), (0, u "Ljava/util/function/BiFunction;"), (0, .methodref 1054 1060), (0, .nameAndType 501 1061), (0, u "(IILjava/util/function/BiFunction;)I"), (39, u "serialPersistentFields"), (0, u "[Ljava/io/ObjectStreamField;"), (0, .class_ 1104), (0, u "java/lang/String$CaseInsensitiveComparator"), (1, .class_ 1107), (0, u "java/io/Serializable"), (0, .class_ 1109), (0, u "java/lang/Comparable"), (0, .class_ 1111), (0, u "java/lang/constant/Constable"), (0, .class_ 1113), (0, u "java/lang/constant/ConstantDesc"), (2, u "serialVersionUID"), (0, u "J"), (3, u "REPL"), (0, u "C"), (2, u "LATIN1"), (1, u "UTF16")] 323

def k8m0 : Method := { name := "<init>", desc := "()V", sig := { parameters := [], returnType := none }, accessFlags := 1, code := none }
def k8c1 : Code := { maxStack := 5, maxLocals := 2, code := jdk_42_method_3_code, exceptionTable := #[], attributes := #[] }
def k8m1 : Method := { name := "<init>", desc := "([C)V", sig := { parameters := [(.array .char)], returnType := none }, accessFlags := 1, code := some k8c1 }
def k8c2 : Code := { maxStack := 2, maxLocals := 2, code := jdk_42_method_56_code, exceptionTable := #[], attributes := #[] }
def k8m2 : Method := { name := "charAt", desc := "(I)C", sig := { parameters := [.int], returnType := some .char }, accessFlags := 1, code := some k8c2 }
def k8c3 : Code := { maxStack := 4, maxLocals := 6, code := jdk_42_method_149_code, exceptionTable := #[], attributes := #[] }
def k8m3 : Method := { name := "<init>", desc := "([CIILjava/lang/Void;)V", sig := { parameters := [(.array .char), .int, .int, (.object "java/lang/Void")], returnType := none }, accessFlags := 2, code := some k8c3 }
def k8c4 : Code := { maxStack := 1, maxLocals := 1, code := jdk_42_method_154_code, exceptionTable := #[], attributes := #[] }
def k8m4 : Method := { name := "isLatin1", desc := "()Z", sig := { parameters := [], returnType := some .boolean }, accessFlags := 0, code := some k8c4 }
def k8c5 : Code := { maxStack := 3, maxLocals := 2, code := jdk_42_method_155_code, exceptionTable := #[], attributes := #[] }
def k8m5 : Method := { name := "checkIndex", desc := "(II)V", sig := { parameters := [.int, .int], returnType := none }, accessFlags := 8, code := some k8c5 }
/-- java/lang/String -/
def k8 : Class := { plain "java/lang/String" (some 0) with
  accessFlags := 49
  interfaces := #[3, 4, 5, 6, 7]
  cf := some (fileOf pool8 10 #[.nestMembers #[1103]] #[{ accessFlags := 1, nameIndex := 5, descriptorIndex := 6, attributes := #[] }, { accessFlags := 1, nameIndex := 5, descriptorIndex := 1010, attributes := #[] }, { accessFlags := 1, nameIndex := 497, descriptorIndex := 427, attributes := #[] }, { accessFlags := 2, nameIndex := 5, descriptorIndex := 29, attributes := #[] }, { accessFlags := 0, nameIndex := 494, descriptorIndex := 142, attributes := #[] }, { accessFlags := 8, nameIndex := 501, descriptorIndex := 391, attributes := #[] }] 49 2 #[1106, 1108, 575, 1110, 1112] #[{ accessFlags := 18, nameIndex := 13, descriptorIndex := 14, attributes := #[] }, { accessFlags := 18, nameIndex := 17, descriptorIndex := 18, attributes := #[] }, { accessFlags := 2, nameIndex := 21, descriptorIndex := 22, attributes := #[] }, { accessFlags := 2, nameIndex := 25, descriptorIndex := 26, attributes := #[] }, { accessFlags := 26, nameIndex := 1116, descriptorIndex := 1117, attributes := #[] }, { accessFlags := 24, nameIndex := 40, descriptorIndex := 26, attributes := #[] }, { accessFlags := 26, nameIndex := 1101, descriptorIndex := 1102, attributes := #[] }, { accessFlags := 26, nameIndex := 1121, descriptorIndex := 1122, attributes := #[] }, { accessFlags := 25, nameIndex := 599, descriptorIndex := 600, attributes := #[] }, { accessFlags := 24, nameIndex := 1125, descriptorIndex := 18, attributes := #[] }, { accessFlags := 24, nameIndex := 1127, descriptorIndex := 18, attributes := #[] }])
  fields := #[{ name := "value", type := (.array .byte), accessFlags := 18, slot := 0, constantValue := 0 }, { name := "coder", type := .byte, accessFlags := 18, slot := 1, constantValue := 0 }, { name := "hash", type := .int, accessFlags := 2, slot := 2, constantValue := 0 }, { name := "hashIsZero", type := .boolean, accessFlags := 2, slot := 3, constantValue := 0 }, { name := "serialVersionUID", type := .long, accessFlags := 26, slot := 0, constantValue := 0 }, { name := "COMPACT_STRINGS", type := .boolean, accessFlags := 24, slot := 1, constantValue := 0 }, { name := "serialPersistentFields", type := (.array (.object "java/io/ObjectStreamField")), accessFlags := 26, slot := 2, constantValue := 0 }, { name := "REPL", type := .char, accessFlags := 26, slot := 3, constantValue := 0 }, { name := "CASE_INSENSITIVE_ORDER", type := (.object "java/util/Comparator"), accessFlags := 25, slot := 4, constantValue := 0 }, { name := "LATIN1", type := .byte, accessFlags := 24, slot := 5, constantValue := 0 }, { name := "UTF16", type := .byte, accessFlags := 24, slot := 6, constantValue := 0 }]
  methods := #[k8m0, k8m1, k8m2, k8m3, k8m4, k8m5]
  instanceTypes := #[(.array .byte), .byte, .int, .boolean]
  staticTypes := #[.long, .boolean, (.array (.object "java/io/ObjectStreamField")), .char, (.object "java/util/Comparator"), .byte, .byte]
  resolved := Array.replicate 1451 none
  statics := some 0 }

def pool9 : Array CpInfo := pool [(3, .class_ 4), (0, u "java/lang/String"), (1, .class_ 8), (1, u "java/lang/Object"), (0, u "<init>"), (0, u "()V"), (0, .methodref 12 13), (0, .class_ 14), (0, .nameAndType 15 16), (0, u "java/lang/StringUTF16"), (0, u "newBytesLength"), (0, u "(I)I"), (3, .integer 1073741823), (23, .fieldref 12 45), (0, .nameAndType 46 47), (0, u "$assertionsDisabled"), (0, u "Z"), (0, .methodref 12 49), (0, .nameAndType 50 51), (0, u "length"), (0, u "([B)I"), (7, .fieldref 12 60), (0, .nameAndType 61 62), (0, u "HI_BYTE_SHIFT"), (0, u "I"), (0, .fieldref 12 64), (0, .nameAndType 65 62), (0, u "LO_BYTE_SHIFT"), (1, .methodref 12 68), (0, .nameAndType 69 70), (0, u "checkIndex"), (0, u "(I[B)V"), (0, .methodref 12 72), (0, .nameAndType 73 74), (0, u "getChar"), (0, u "([BI)C"), (32, .methodref 12 108), (0, .nameAndType 109 110), (0, u "newBytesFor"), (0, u "(I)[B"), (0, .methodref 12 112), (0, .nameAndType 113 114), (0, u "putChar"), (0, u "([BII)V"), (0, .methodref 12 116), (0, .nameAndType 117 118), (0, u "compress"), (0, u "([CI[BII)I"), (0, .methodref 12 120), (0, .nameAndType 121 122), (0, u "toBytes"), (0, u "([CII)[B"), (138, u "coderFromArrayLen"), (0, u "([BI)B"), (106, .class_ 371), (1, u "java/lang/StringUTF16$LinesSpliterator"), (20, u "charAt"), (21, .methodref 3 415), (0, .nameAndType 69 416), (0, u "(II)V"), (13, u "MAX_LENGTH"), (196, .class_ 628), (0, u "java/lang/StringUTF16$CodePointsSpliterator"), (0, .class_ 630), (0, u "java/lang/StringUTF16$CharsSpliterator")] 4

def k9m0 : Method := { name := "<init>", desc := "()V", sig := { parameters := [], returnType := none }, accessFlags := 0, code := none }
def k9c1 : Code := { maxStack := 1, maxLocals := 1, code := jdk_52_method_2_code, exceptionTable := #[], attributes := #[] }
def k9m1 : Method := { name := "newBytesFor", desc := "(I)[B", sig := { parameters := [.int], returnType := some (.array .byte) }, accessFlags := 9, code := some k9c1 }
def k9c2 : Code := { maxStack := 4, maxLocals := 1, code := jdk_52_method_3_code, exceptionTable := #[], attributes := #[] }
def k9m2 : Method := { name := "newBytesLength", desc := "(I)I", sig := { parameters := [.int], returnType := some .int }, accessFlags := 9, code := some k9c2 }
def k9c3 : Code := { maxStack := 4, maxLocals := 3, code := jdk_52_method_4_code, exceptionTable := #[], attributes := #[] }
def k9m3 : Method := { name := "putChar", desc := "([BII)V", sig := { parameters := [(.array .byte), .int, .int], returnType := none }, accessFlags := 8, code := some k9c3 }
def k9c4 : Code := { maxStack := 3, maxLocals := 2, code := jdk_52_method_5_code, exceptionTable := #[], attributes := #[] }
def k9m4 : Method := { name := "getChar", desc := "([BI)C", sig := { parameters := [(.array .byte), .int], returnType := some .char }, accessFlags := 8, code := some k9c4 }
def k9c5 : Code := { maxStack := 2, maxLocals := 1, code := jdk_52_method_6_code, exceptionTable := #[], attributes := #[] }
def k9m5 : Method := { name := "length", desc := "([B)I", sig := { parameters := [(.array .byte)], returnType := some .int }, accessFlags := 9, code := some k9c5 }
def k9c6 : Code := { maxStack := 4, maxLocals := 5, code := jdk_52_method_14_code, exceptionTable := #[], attributes := #[] }
def k9m6 : Method := { name := "toBytes", desc := "([CII)[B", sig := { parameters := [(.array .char), .int, .int], returnType := some (.array .byte) }, accessFlags := 9, code := some k9c6 }
def k9c7 : Code := { maxStack := 2, maxLocals := 2, code := jdk_52_method_15_code, exceptionTable := #[], attributes := #[] }
def k9m7 : Method := { name := "coderFromArrayLen", desc := "([BI)B", sig := { parameters := [(.array .byte), .int], returnType := some .byte }, accessFlags := 8, code := some k9c7 }
def k9c8 : Code := { maxStack := 5, maxLocals := 6, code := jdk_52_method_16_code, exceptionTable := #[], attributes := #[] }
def k9m8 : Method := { name := "compress", desc := "([CII)[B", sig := { parameters := [(.array .char), .int, .int], returnType := some (.array .byte) }, accessFlags := 9, code := some k9c8 }
def k9c9 : Code := { maxStack := 3, maxLocals := 7, code := jdk_52_method_21_code, exceptionTable := #[], attributes := #[] }
def k9m9 : Method := { name := "compress", desc := "([CI[BII)I", sig := { parameters := [(.array .char), .int, (.array .byte), .int, .int], returnType := some .int }, accessFlags := 9, code := some k9c9 }
def k9c10 : Code := { maxStack := 2, maxLocals := 2, code := jdk_52_method_83_code, exceptionTable := #[], attributes := #[] }
def k9m10 : Method := { name := "charAt", desc := "([BI)C", sig := { parameters := [(.array .byte), .int], returnType := some .char }, accessFlags := 9, code := some k9c10 }
def k9c11 : Code := { maxStack := 2, maxLocals := 2, code := jdk_52_method_91_code, exceptionTable := #[], attributes := #[] }
def k9m11 : Method := { name := "checkIndex", desc := "(I[B)V", sig := { parameters := [.int, (.array .byte)], returnType := none }, accessFlags := 9, code := some k9c11 }
/-- java/lang/StringUTF16 -/
def k9 : Class := { plain "java/lang/StringUTF16" (some 0) with
  accessFlags := 48
  interfaces := #[]
  cf := some (fileOf pool9 12 #[.nestMembers #[627, 629, 369]] #[{ accessFlags := 0, nameIndex := 9, descriptorIndex := 10, attributes := #[] }, { accessFlags := 9, nameIndex := 109, descriptorIndex := 110, attributes := #[] }, { accessFlags := 9, nameIndex := 15, descriptorIndex := 16, attributes := #[] }, { accessFlags := 8, nameIndex := 113, descriptorIndex := 114, attributes := #[] }, { accessFlags := 8, nameIndex := 73, descriptorIndex := 74, attributes := #[] }, { accessFlags := 9, nameIndex := 50, descriptorIndex := 51, attributes := #[] }, { accessFlags := 9, nameIndex := 121, descriptorIndex := 122, attributes := #[] }, { accessFlags := 8, nameIndex := 261, descriptorIndex := 262, attributes := #[] }, { accessFlags := 9, nameIndex := 117, descriptorIndex := 122, attributes := #[] }, { accessFlags := 9, nameIndex := 117, descriptorIndex := 118, attributes := #[] }, { accessFlags := 9, nameIndex := 392, descriptorIndex := 74, attributes := #[] }, { accessFlags := 9, nameIndex := 69, descriptorIndex := 70, attributes := #[] }] 48 6 #[] #[{ accessFlags := 26, nameIndex := 61, descriptorIndex := 62, attributes := #[] }, { accessFlags := 26, nameIndex := 65, descriptorIndex := 62, attributes := #[] }, { accessFlags := 24, nameIndex := 430, descriptorIndex := 62, attributes := #[] }, { accessFlags := 4120, nameIndex := 46, descriptorIndex := 47, attributes := #[] }])
  fields := #[{ name := "HI_BYTE_SHIFT", type := .int, accessFlags := 26, slot := 0, constantValue := 0 }, { name := "LO_BYTE_SHIFT", type := .int, accessFlags := 26, slot := 1, constantValue := 0 }, { name := "MAX_LENGTH", type := .int, accessFlags := 24, slot := 2, constantValue := 0 }, { name := "$assertionsDisabled", type := .boolean, accessFlags := 4120, slot := 3, constantValue := 0 }]
  methods := #[k9m0, k9m1, k9m2, k9m3, k9m4, k9m5, k9m6, k9m7, k9m8, k9m9, k9m10, k9m11]
  instanceTypes := #[]
  staticTypes := #[.int, .int, .int, .boolean]
  resolved := Array.replicate 635 none
  statics := some 1 }

def pool10 : Array CpInfo := pool [(2, .class_ 4), (1, u "java/lang/Object"), (0, u "<init>"), (0, u "()V"), (17, .class_ 26), (1, u "jdk/internal/util/Preconditions"), (6, u "checkIndex"), (21, .class_ 56), (0, u "jdk/internal/util/Preconditions$4"), (57, .class_ 115), (0, u "jdk/internal/util/Preconditions$1"), (7, u "SIOOBE_FORMATTER"), (0, u "Ljava/util/function/BiFunction;"), (0, .class_ 126), (0, u "jdk/internal/util/Preconditions$2"), (3, u "AIOOBE_FORMATTER"), (0, .class_ 132), (0, u "jdk/internal/util/Preconditions$3"), (3, u "IOOBE_FORMATTER"), (41, u "(IILjava/util/function/BiFunction;)I")] 15

def k10m0 : Method := { name := "<init>", desc := "()V", sig := { parameters := [], returnType := none }, accessFlags := 1, code := none }
def k10c1 : Code := { maxStack := 3, maxLocals := 3, code := jdk_41_method_11_code, exceptionTable := #[], attributes := #[] }
def k10m1 : Method := { name := "checkIndex", desc := "(IILjava/util/function/BiFunction;)I", sig := { parameters := [.int, .int, (.object "java/util/function/BiFunction")], returnType := some .int }, accessFlags := 9, code := some k10c1 }
/-- jdk/internal/util/Preconditions -/
def k10 : Class := { plain "jdk/internal/util/Preconditions" (some 0) with
  accessFlags := 33
  interfaces := #[]
  cf := some (fileOf pool10 24 #[.nestMembers #[55, 131, 125, 114]] #[{ accessFlags := 1, nameIndex := 5, descriptorIndex := 6, attributes := #[] }, { accessFlags := 9, nameIndex := 33, descriptorIndex := 178, attributes := #[] }] 33 2 #[] #[{ accessFlags := 25, nameIndex := 123, descriptorIndex := 124, attributes := #[] }, { accessFlags := 25, nameIndex := 130, descriptorIndex := 124, attributes := #[] }, { accessFlags := 25, nameIndex := 136, descriptorIndex := 124, attributes := #[] }])
  fields := #[{ name := "SIOOBE_FORMATTER", type := (.object "java/util/function/BiFunction"), accessFlags := 25, slot := 0, constantValue := 0 }, { name := "AIOOBE_FORMATTER", type := (.object "java/util/function/BiFunction"), accessFlags := 25, slot := 1, constantValue := 0 }, { name := "IOOBE_FORMATTER", type := (.object "java/util/function/BiFunction"), accessFlags := 25, slot := 2, constantValue := 0 }]
  methods := #[k10m0, k10m1]
  instanceTypes := #[]
  staticTypes := #[(.object "java/util/function/BiFunction"), (.object "java/util/function/BiFunction"), (.object "java/util/function/BiFunction")]
  resolved := Array.replicate 194 none
  statics := some 2 }

def pool11 : Array CpInfo := pool [(1, .class_ 2), (0, u "java/lang/String"), (1, .class_ 6), (1, u "java/lang/Object"), (0, u "<init>"), (0, u "()V"), (0, .methodref 1 10), (0, .nameAndType 11 12), (0, u "checkIndex"), (0, u "(II)V"), (1, .class_ 16), (1, u "java/lang/StringLatin1"), (36, u "([BI)C"), (67, u "$assertionsDisabled"), (0, u "Z"), (98, .class_ 223), (1, u "java/lang/StringLatin1$LinesSpliterator"), (28, u "charAt"), (137, .class_ 391), (0, u "java/lang/StringLatin1$CharsSpliterator")] 3

def k11m0 : Method := { name := "<init>", desc := "()V", sig := { parameters := [], returnType := none }, accessFlags := 0, code := none }
def k11c1 : Code := { maxStack := 2, maxLocals := 2, code := jdk_43_method_2_code, exceptionTable := #[], attributes := #[] }
def k11m1 : Method := { name := "charAt", desc := "([BI)C", sig := { parameters := [(.array .byte), .int], returnType := some .char }, accessFlags := 9, code := some k11c1 }
/-- java/lang/StringLatin1 -/
def k11 : Class := { plain "java/lang/StringLatin1" (some 0) with
  accessFlags := 48
  interfaces := #[]
  cf := some (fileOf pool11 14 #[.nestMembers #[390, 221]] #[{ accessFlags := 0, nameIndex := 7, descriptorIndex := 8, attributes := #[] }, { accessFlags := 9, nameIndex := 252, descriptorIndex := 53, attributes := #[] }] 48 4 #[] #[{ accessFlags := 4120, nameIndex := 121, descriptorIndex := 122, attributes := #[] }])
  fields := #[{ name := "$assertionsDisabled", type := .boolean, accessFlags := 4120, slot := 0, constantValue := 0 }]
  methods := #[k11m0, k11m1]
  instanceTypes := #[]
  staticTypes := #[.boolean]
  resolved := Array.replicate 395 none
  statics := none }

def pool12 : Array CpInfo := pool [(9, u "<init>"), (6, .class_ 18), (1, u "java/lang/Object"), (0, u "()V"), (1, .class_ 23), (1, u "jdk/internal/util/ArraysSupport"), (0, u "LOG2_ARRAY_LONG_INDEX_SCALE"), (0, u "I"), (2, u "U"), (0, u "Ljdk/internal/misc/Unsafe;"), (8, u "BIG_ENDIAN"), (0, u "Z"), (8, u "LOG2_BYTE_BIT_SIZE"), (4, u "LOG2_ARRAY_INT_INDEX_SCALE"), (54, u "JLA"), (0, u "Ljdk/internal/access/JavaLangAccess;"), (11, u "LOG2_ARRAY_BOOLEAN_INDEX_SCALE"), (9, u "LOG2_ARRAY_BYTE_INDEX_SCALE"), (5, u "LOG2_ARRAY_CHAR_INDEX_SCALE"), (5, u "LOG2_ARRAY_SHORT_INDEX_SCALE"), (18, u "LOG2_ARRAY_FLOAT_INDEX_SCALE"), (24, u "LOG2_ARRAY_DOUBLE_INDEX_SCALE"), (89, u "T_BOOLEAN"), (2, u "T_CHAR"), (1, u "T_FLOAT"), (1, u "T_DOUBLE"), (1, u "T_BYTE"), (1, u "T_SHORT"), (1, u "T_INT"), (1, u "T_LONG"), (1, u "SOFT_MAX_ARRAY_LENGTH")] 83

def k12m0 : Method := { name := "<init>", desc := "()V", sig := { parameters := [], returnType := none }, accessFlags := 2, code := none }
/-- jdk/internal/util/ArraysSupport -/
def k12 : Class := { plain "jdk/internal/util/ArraysSupport" (some 0) with
  accessFlags := 33
  interfaces := #[]
  cf := some (fileOf pool12 21 #[] #[{ accessFlags := 2, nameIndex := 9, descriptorIndex := 19, attributes := #[] }] 33 16 #[] #[{ accessFlags := 24, nameIndex := 28, descriptorIndex := 29, attributes := #[] }, { accessFlags := 26, nameIndex := 38, descriptorIndex := 39, attributes := #[] }, { accessFlags := 25, nameIndex := 121, descriptorIndex := 25, attributes := #[] }, { accessFlags := 25, nameIndex := 131, descriptorIndex := 25, attributes := #[] }, { accessFlags := 25, nameIndex := 137, descriptorIndex := 25, attributes := #[] }, { accessFlags := 25, nameIndex := 143, descriptorIndex := 25, attributes := #[] }, { accessFlags := 25, nameIndex := 53, descriptorIndex := 25, attributes := #[] }, { accessFlags := 25, nameIndex := 24, descriptorIndex := 25, attributes := #[] }, { accessFlags := 25, nameIndex := 162, descriptorIndex := 25, attributes := #[] }, { accessFlags := 25, nameIndex := 187, descriptorIndex := 25, attributes := #[] }, { accessFlags := 26, nameIndex := 48, descriptorIndex := 25, attributes := #[] }, { accessFlags := 25, nameIndex := 277, descriptorIndex := 25, attributes := #[] }, { accessFlags := 25, nameIndex := 280, descriptorIndex := 25, attributes := #[] }, { accessFlags := 25, nameIndex := 282, descriptorIndex := 25, attributes := #[] }, { accessFlags := 25, nameIndex := 284, descriptorIndex := 25, attributes := #[] }, { accessFlags := 25, nameIndex := 286, descriptorIndex := 25, attributes := #[] }, { accessFlags := 25, nameIndex := 288, descriptorIndex := 25, attributes := #[] }, { accessFlags := 25, nameIndex := 290, descriptorIndex := 25, attributes := #[] }, { accessFlags := 25, nameIndex := 292, descriptorIndex := 25, attributes := #[] }, { accessFlags := 26, nameIndex := 108, descriptorIndex := 109, attributes := #[] }, { accessFlags := 25, nameIndex := 294, descriptorIndex := 25, attributes := #[] }])
  fields := #[{ name := "U", type := (.object "jdk/internal/misc/Unsafe"), accessFlags := 24, slot := 0, constantValue := 0 }, { name := "BIG_ENDIAN", type := .boolean, accessFlags := 26, slot := 1, constantValue := 0 }, { name := "LOG2_ARRAY_BOOLEAN_INDEX_SCALE", type := .int, accessFlags := 25, slot := 2, constantValue := 0 }, { name := "LOG2_ARRAY_BYTE_INDEX_SCALE", type := .int, accessFlags := 25, slot := 3, constantValue := 0 }, { name := "LOG2_ARRAY_CHAR_INDEX_SCALE", type := .int, accessFlags := 25, slot := 4, constantValue := 0 }, { name := "LOG2_ARRAY_SHORT_INDEX_SCALE", type := .int, accessFlags := 25, slot := 5, constantValue := 0 }, { name := "LOG2_ARRAY_INT_INDEX_SCALE", type := .int, accessFlags := 25, slot := 6, constantValue := 0 }, { name := "LOG2_ARRAY_LONG_INDEX_SCALE", type := .int, accessFlags := 25, slot := 7, constantValue := 0 }, { name := "LOG2_ARRAY_FLOAT_INDEX_SCALE", type := .int, accessFlags := 25, slot := 8, constantValue := 0 }, { name := "LOG2_ARRAY_DOUBLE_INDEX_SCALE", type := .int, accessFlags := 25, slot := 9, constantValue := 0 }, { name := "LOG2_BYTE_BIT_SIZE", type := .int, accessFlags := 26, slot := 10, constantValue := 0 }, { name := "T_BOOLEAN", type := .int, accessFlags := 25, slot := 11, constantValue := 0 }, { name := "T_CHAR", type := .int, accessFlags := 25, slot := 12, constantValue := 0 }, { name := "T_FLOAT", type := .int, accessFlags := 25, slot := 13, constantValue := 0 }, { name := "T_DOUBLE", type := .int, accessFlags := 25, slot := 14, constantValue := 0 }, { name := "T_BYTE", type := .int, accessFlags := 25, slot := 15, constantValue := 0 }, { name := "T_SHORT", type := .int, accessFlags := 25, slot := 16, constantValue := 0 }, { name := "T_INT", type := .int, accessFlags := 25, slot := 17, constantValue := 0 }, { name := "T_LONG", type := .int, accessFlags := 25, slot := 18, constantValue := 0 }, { name := "JLA", type := (.object "jdk/internal/access/JavaLangAccess"), accessFlags := 26, slot := 19, constantValue := 0 }, { name := "SOFT_MAX_ARRAY_LENGTH", type := .int, accessFlags := 25, slot := 20, constantValue := 0 }]
  methods := #[k12m0]
  instanceTypes := #[]
  staticTypes := #[(.object "jdk/internal/misc/Unsafe"), .boolean, .int, .int, .int, .int, .int, .int, .int, .int, .int, .int, .int, .int, .int, .int, .int, .int, .int, (.object "jdk/internal/access/JavaLangAccess"), .int]
  resolved := Array.replicate 378 none
  statics := none }

def pool13 : Array CpInfo := pool [(1, u "java/lang/Cloneable"), (0, .class_ 1), (0, u "java/lang/Object"), (0, .class_ 3)] 3

/-- java/lang/Cloneable -/
def k13 : Class := { plain "java/lang/Cloneable" (some 0) with
  accessFlags := 1537
  interfaces := #[]
  cf := some (fileOf pool13 2 #[] #[] 1537 4 #[] #[])
  fields := #[]
  methods := #[]
  instanceTypes := #[]
  staticTypes := #[]
  resolved := Array.replicate 8 none
  statics := none }

/-- the primitive byte -/
def k14 : Class := { plain "byte" none with kind := .primitive 'B', accessFlags := 0x411 }
/-- [B -/
def k15 : Class := { plain "[B" (some 0) with kind := .array 14 .byte, interfaces := #[13, 3], accessFlags := 1041 }

/-- the primitive char -/
def k16 : Class := { plain "char" none with kind := .primitive 'C', accessFlags := 0x411 }
/-- [C -/
def k17 : Class := { plain "[C" (some 0) with kind := .array 16 .char, interfaces := #[13, 3], accessFlags := 1041 }

/-- the primitive int -/
def k18 : Class := { plain "int" none with kind := .primitive 'I', accessFlags := 0x411 }
/-- [I -/
def k19 : Class := { plain "[I" (some 0) with kind := .array 18 .int, interfaces := #[13, 3], accessFlags := 1041 }

def heap : Heap := #[{ cls := 8, slots := #[.long 0, .int 1, .null, .int 0, .null, .int 0, .int 0], vm := .statics 8 },
  { cls := 9, slots := #[.int 0, .int 8, .int 0, .int 1], vm := .statics 9 },
  { cls := 10, slots := #[.null, .null, .null], vm := .statics 10 }]
def classes : Array Class := #[k0, k1, k2, k3, k4, k5, k6, k7, k8, k9, k10, k11, k12, k13, k14, k15, k16, k17, k18, k19]
def interned : List (Array UInt16 × Addr) := []
def slotsUsed : Nat := 14
def theMethod : MethodId := ⟨1, 1⟩
def args0 : Array Value := #[.int 5, .int 5, .int 5, .int 5, .int 5, .int 5]
def aboutOver (below : List Frame) : State where
  vm := { classes := classes, interned := interned.toArray }
  heap := heap
  slotsUsed := slotsUsed
  threads := #[{ frames := .invoking theMethod args0 :: below }]
def below0 : List Frame := [.native { method := ⟨0, 0⟩, args := #[] }]
def about1 : State := aboutOver below0
def p0 : Program := .bare "" "" ""
def e0 : Env := launch0.env 0 0 0
theorem w_frames : about1.frames = Frame.invoking theMethod args0 :: below0 := rfl
set_option maxRecDepth 65536 in
theorem w_args : argsFit about1.vm theMethod args0 = true := by decide +kernel
set_option maxRecDepth 65536 in
theorem w_heap : heapFits about1 = true := by decide +kernel
set_option maxRecDepth 65536 in
theorem w_runnable : about1.curStatus? = some .runnable := by decide +kernel
set_option maxRecDepth 65536 in
theorem w_alone : about1.alone = true := by decide +kernel
set_option maxRecDepth 65536 in
theorem w_named : about1.methodNamed? x = some theMethod := by decide +kernel
set_option maxRecDepth 65536 in
theorem w_hears : about1.hears theMethod below0 = true := by decide +kernel
set_option maxRecDepth 65536 in
theorem w_ripe : about1.ripe theMethod args0 below0 = true := by decide +kernel
theorem w_running : about1.status = .running := rfl
set_option maxRecDepth 65536 in
theorem w_room : about1.hasRoom e0.platform room_1 = true :=
  launch0.hasRoom_least _ room_1 (by decide +kernel) (by decide +kernel) (by decide +kernel) (by decide +kernel) (by decide +kernel) (by decide +kernel)
theorem allAtoms_all (ts : List Jvm.Cond) (a : Array Jvm.Value) (st : Jvm.State) : (allAtoms ts).before a st = ts.all (fun c => c.before a st) := by
  induction ts with
  | nil => rfl
  | cons c t ih =>
    show (Jvm.Cond.and c (allAtoms t)).before a st = _
    rw [Jvm.Cond.before_and, ih, List.all_cons]
def words1 : List Jvm.Cond := Jvm.Cond.code x code maxLocals ret :: tables_1
/-- a 'code' word, met by the world's own term for the bytes: nothing is compared byte by byte -/
theorem code_word {y : MethodName} {bytes : ByteArray} {mx : Nat} {rt : Option FieldType} {a : Array Value} {s : State} {m : MethodId} {meth : Method} {c : Code} (h1 : s.methodNamed? y = some m) (h2 : s.vm.method? m = some meth) (h3 : meth.code = some c) (h4 : c.code = bytes)
    (h5 : (c.maxLocals == mx && c.exceptionTable.isEmpty && decide (c.maxStack ≤ mostOperands) && decide (meth.sig.returnType = rt) && !meth.locks && decide (parseMethodDescriptor y.desc = some meth.sig)) = true) : (Jvm.Cond.code y bytes mx rt).before a s = true := by
  simp only [Bool.and_eq_true, beq_iff_eq, Bool.not_eq_true', decide_eq_true_eq] at h5
  obtain ⟨⟨⟨⟨⟨g1, g2⟩, g3⟩, g4⟩, g5⟩, g6⟩ := h5
  simp [Cond.before, Cond.holds, Cond.value, h1, h2, h3, h4, g1, g2, g3, g4, g5, g6]
def isCode : Jvm.Cond → Bool
  | .code _ _ _ _ => true
  | _ => false
theorem all_split {L : List Jvm.Cond} {P : Jvm.Cond → Bool} (h1 : L.all (fun c => isCode c || P c) = true) (h2 : ∀ c ∈ L.filter isCode, P c = true) : L.all P = true := by
  refine List.all_eq_true.mpr fun c hc => ?_
  have h := List.all_eq_true.mp h1 c hc
  rcases Bool.eq_false_or_eq_true (isCode c) with hi | hi
  · exact h2 c (List.mem_filter.mpr ⟨hc, hi⟩)
  · simpa [hi] using h
set_option maxRecDepth 65536 in
theorem w_c0 : (Jvm.Cond.code x code maxLocals ret).before args0 about1 = true := code_word (m := ⟨1, 1⟩) (meth := k1m1) (c := k1c1) (by decide +kernel) rfl rfl rfl (by decide +kernel)
set_option maxRecDepth 65536 in
theorem w_c1 : (Jvm.Cond.code ({ cls := "com/example/href/href/uri/IriSyntaxCheckSchemePinLaw", name := "pick", desc := "(IIII)C" } : Jvm.MethodName) method_3_code (5 : Nat) (Option.some Jvm.ClassFile.FieldType.char)).before args0 about1 = true := code_word (m := ⟨1, 2⟩) (meth := k1m2) (c := k1c2) (by decide +kernel) rfl rfl rfl (by decide +kernel)
set_option maxRecDepth 65536 in
theorem w_c2 : (Jvm.Cond.code ({ cls := "java/lang/String", name := "<init>", desc := "([C)V" } : Jvm.MethodName) jdk_42_method_3_code (2 : Nat) (Option.none : Option Jvm.ClassFile.FieldType)).before args0 about1 = true := code_word (m := ⟨8, 1⟩) (meth := k8m1) (c := k8c1) (by decide +kernel) rfl rfl rfl (by decide +kernel)
set_option maxRecDepth 65536 in
theorem w_c3 : (Jvm.Cond.code ({ cls := "java/lang/String", name := "<init>", desc := "([CIILjava/lang/Void;)V" } : Jvm.MethodName) jdk_42_method_149_code (6 : Nat) (Option.none : Option Jvm.ClassFile.FieldType)).before args0 about1 = true := code_word (m := ⟨8, 3⟩) (meth := k8m3) (c := k8c3) (by decide +kernel) rfl rfl rfl (by decide +kernel)
set_option maxRecDepth 65536 in
theorem w_c4 : (Jvm.Cond.code ({ cls := "java/lang/Object", name := "<init>", desc := "()V" } : Jvm.MethodName) object_method_1_code (1 : Nat) (Option.none : Option Jvm.ClassFile.FieldType)).before args0 about1 = true := code_word (m := ⟨0, 0⟩) (meth := k0m0) (c := k0c0) (by decide +kernel) rfl rfl rfl (by decide +kernel)
set_option maxRecDepth 65536 in
theorem w_c5 : (Jvm.Cond.code ({ cls := "java/lang/StringUTF16", name := "compress", desc := "([CII)[B" } : Jvm.MethodName) jdk_52_method_16_code (6 : Nat) (Option.some (Jvm.ClassFile.FieldType.array Jvm.ClassFile.FieldType.byte))).before args0 about1 = true := code_word (m := ⟨9, 8⟩) (meth := k9m8) (c := k9c8) (by decide +kernel) rfl rfl rfl (by decide +kernel)
set_option maxRecDepth 65536 in
theorem w_c6 : (Jvm.Cond.code ({ cls := "java/lang/StringUTF16", name := "compress", desc := "([CI[BII)I" } : Jvm.MethodName) jdk_52_method_21_code (7 : Nat) (Option.some Jvm.ClassFile.FieldType.int)).before args0 about1 = true := code_word (m := ⟨9, 9⟩) (meth := k9m9) (c := k9c9) (by decide +kernel) rfl rfl rfl (by decide +kernel)
set_option maxRecDepth 65536 in
theorem w_c7 : (Jvm.Cond.code ({ cls := "java/lang/StringUTF16", name := "coderFromArrayLen", desc := "([BI)B" } : Jvm.MethodName) jdk_52_method_15_code (2 : Nat) (Option.some Jvm.ClassFile.FieldType.byte)).before args0 about1 = true := code_word (m := ⟨9, 7⟩) (meth := k9m7) (c := k9c7) (by decide +kernel) rfl rfl rfl (by decide +kernel)
set_option maxRecDepth 65536 in
theorem w_c8 : (Jvm.Cond.code ({ cls := "com/example/href/href/uri/IriSyntax", name := "<init>", desc := "(Ljava/lang/String;)V" } : Jvm.MethodName) prog_57_method_1_code (2 : Nat) (Option.none : Option Jvm.ClassFile.FieldType)).before args0 about1 = true := code_word (m := ⟨2, 0⟩) (meth := k2m0) (c := k2c0) (by decide +kernel) rfl rfl rfl (by decide +kernel)
set_option maxRecDepth 65536 in
theorem w_c9 : (Jvm.Cond.code ({ cls := "com/example/href/href/uri/IriSyntax", name := "checkScheme", desc := "(II)V" } : Jvm.MethodName) prog_57_method_2_code (6 : Nat) (Option.none : Option Jvm.ClassFile.FieldType)).before args0 about1 = true := code_word (m := ⟨2, 1⟩) (meth := k2m1) (c := k2c1) (by decide +kernel) rfl rfl rfl (by decide +kernel)
set_option maxRecDepth 65536 in
theorem w_c10 : (Jvm.Cond.code ({ cls := "java/lang/StringUTF16", name := "toBytes", desc := "([CII)[B" } : Jvm.MethodName) jdk_52_method_14_code (5 : Nat) (Option.some (Jvm.ClassFile.FieldType.array Jvm.ClassFile.FieldType.byte))).before args0 about1 = true := code_word (m := ⟨9, 6⟩) (meth := k9m6) (c := k9c6) (by decide +kernel) rfl rfl rfl (by decide +kernel)
set_option maxRecDepth 65536 in
theorem w_c11 : (Jvm.Cond.code ({ cls := "java/lang/StringUTF16", name := "newBytesFor", desc := "(I)[B" } : Jvm.MethodName) jdk_52_method_2_code (1 : Nat) (Option.some (Jvm.ClassFile.FieldType.array Jvm.ClassFile.FieldType.byte))).before args0 about1 = true := code_word (m := ⟨9, 1⟩) (meth := k9m1) (c := k9c1) (by decide +kernel) rfl rfl rfl (by decide +kernel)
set_option maxRecDepth 65536 in
theorem w_c12 : (Jvm.Cond.code ({ cls := "java/lang/StringUTF16", name := "newBytesLength", desc := "(I)I" } : Jvm.MethodName) jdk_52_method_3_code (1 : Nat) (Option.some Jvm.ClassFile.FieldType.int)).before args0 about1 = true := code_word (m := ⟨9, 2⟩) (meth := k9m2) (c := k9c2) (by decide +kernel) rfl rfl rfl (by decide +kernel)
set_option maxRecDepth 65536 in
theorem w_c13 : (Jvm.Cond.code ({ cls := "java/lang/StringUTF16", name := "putChar", desc := "([BII)V" } : Jvm.MethodName) jdk_52_method_4_code (3 : Nat) (Option.none : Option Jvm.ClassFile.FieldType)).before args0 about1 = true := code_word (m := ⟨9, 3⟩) (meth := k9m3) (c := k9c3) (by decide +kernel) rfl rfl rfl (by decide +kernel)
set_option maxRecDepth 65536 in
theorem w_c14 : (Jvm.Cond.code ({ cls := "java/lang/StringUTF16", name := "getChar", desc := "([BI)C" } : Jvm.MethodName) jdk_52_method_5_code (2 : Nat) (Option.some Jvm.ClassFile.FieldType.char)).before args0 about1 = true := code_word (m := ⟨9, 4⟩) (meth := k9m4) (c := k9c4) (by decide +kernel) rfl rfl rfl (by decide +kernel)
set_option maxRecDepth 65536 in
theorem w_c15 : (Jvm.Cond.code ({ cls := "java/lang/String", name := "charAt", desc := "(I)C" } : Jvm.MethodName) jdk_42_method_56_code (2 : Nat) (Option.some Jvm.ClassFile.FieldType.char)).before args0 about1 = true := code_word (m := ⟨8, 2⟩) (meth := k8m2) (c := k8c2) (by decide +kernel) rfl rfl rfl (by decide +kernel)
set_option maxRecDepth 65536 in
theorem w_c16 : (Jvm.Cond.code ({ cls := "java/lang/String", name := "isLatin1", desc := "()Z" } : Jvm.MethodName) jdk_42_method_154_code (1 : Nat) (Option.some Jvm.ClassFile.FieldType.boolean)).before args0 about1 = true := code_word (m := ⟨8, 4⟩) (meth := k8m4) (c := k8c4) (by decide +kernel) rfl rfl rfl (by decide +kernel)
set_option maxRecDepth 65536 in
theorem w_c17 : (Jvm.Cond.code ({ cls := "java/lang/StringUTF16", name := "charAt", desc := "([BI)C" } : Jvm.MethodName) jdk_52_method_83_code (2 : Nat) (Option.some Jvm.ClassFile.FieldType.char)).before args0 about1 = true := code_word (m := ⟨9, 10⟩) (meth := k9m10) (c := k9c10) (by decide +kernel) rfl rfl rfl (by decide +kernel)
set_option maxRecDepth 65536 in
theorem w_c18 : (Jvm.Cond.code ({ cls := "java/lang/StringUTF16", name := "checkIndex", desc := "(I[B)V" } : Jvm.MethodName) jdk_52_method_91_code (2 : Nat) (Option.none : Option Jvm.ClassFile.FieldType)).before args0 about1 = true := code_word (m := ⟨9, 11⟩) (meth := k9m11) (c := k9c11) (by decide +kernel) rfl rfl rfl (by decide +kernel)
set_option maxRecDepth 65536 in
theorem w_c19 : (Jvm.Cond.code ({ cls := "java/lang/StringUTF16", name := "length", desc := "([B)I" } : Jvm.MethodName) jdk_52_method_6_code (1 : Nat) (Option.some Jvm.ClassFile.FieldType.int)).before args0 about1 = true := code_word (m := ⟨9, 5⟩) (meth := k9m5) (c := k9c5) (by decide +kernel) rfl rfl rfl (by decide +kernel)
set_option maxRecDepth 65536 in
theorem w_c20 : (Jvm.Cond.code ({ cls := "java/lang/String", name := "checkIndex", desc := "(II)V" } : Jvm.MethodName) jdk_42_method_155_code (2 : Nat) (Option.none : Option Jvm.ClassFile.FieldType)).before args0 about1 = true := code_word (m := ⟨8, 5⟩) (meth := k8m5) (c := k8c5) (by decide +kernel) rfl rfl rfl (by decide +kernel)
set_option maxRecDepth 65536 in
theorem w_c21 : (Jvm.Cond.code ({ cls := "jdk/internal/util/Preconditions", name := "checkIndex", desc := "(IILjava/util/function/BiFunction;)I" } : Jvm.MethodName) jdk_41_method_11_code (3 : Nat) (Option.some Jvm.ClassFile.FieldType.int)).before args0 about1 = true := code_word (m := ⟨10, 1⟩) (meth := k10m1) (c := k10c1) (by decide +kernel) rfl rfl rfl (by decide +kernel)
set_option maxRecDepth 65536 in
theorem w_c22 : (Jvm.Cond.code ({ cls := "com/example/href/href/uri/IriSyntax", name := "isAsciiLetter", desc := "(I)Z" } : Jvm.MethodName) prog_57_method_17_code (1 : Nat) (Option.some Jvm.ClassFile.FieldType.boolean)).before args0 about1 = true := code_word (m := ⟨2, 2⟩) (meth := k2m2) (c := k2c2) (by decide +kernel) rfl rfl rfl (by decide +kernel)
set_option maxRecDepth 65536 in
theorem w_c23 : (Jvm.Cond.code ({ cls := "java/lang/StringLatin1", name := "charAt", desc := "([BI)C" } : Jvm.MethodName) jdk_43_method_2_code (2 : Nat) (Option.some Jvm.ClassFile.FieldType.char)).before args0 about1 = true := code_word (m := ⟨11, 1⟩) (meth := k11m1) (c := k11c1) (by decide +kernel) rfl rfl rfl (by decide +kernel)
set_option maxRecDepth 65536 in
theorem w_c24 : (Jvm.Cond.code ({ cls := "com/example/href/href/uri/IriSyntax", name := "isDigit", desc := "(I)Z" } : Jvm.MethodName) prog_57_method_18_code (1 : Nat) (Option.some Jvm.ClassFile.FieldType.boolean)).before args0 about1 = true := code_word (m := ⟨2, 3⟩) (meth := k2m3) (c := k2c3) (by decide +kernel) rfl rfl rfl (by decide +kernel)
def codes1 : List Jvm.Cond := [Jvm.Cond.code x code maxLocals ret, Jvm.Cond.code ({ cls := "com/example/href/href/uri/IriSyntaxCheckSchemePinLaw", name := "pick", desc := "(IIII)C" } : Jvm.MethodName) method_3_code (5 : Nat) (Option.some Jvm.ClassFile.FieldType.char), Jvm.Cond.code ({ cls := "java/lang/String", name := "<init>", desc := "([C)V" } : Jvm.MethodName) jdk_42_method_3_code (2 : Nat) (Option.none : Option Jvm.ClassFile.FieldType), Jvm.Cond.code ({ cls := "java/lang/String", name := "<init>", desc := "([CIILjava/lang/Void;)V" } : Jvm.MethodName) jdk_42_method_149_code (6 : Nat) (Option.none : Option Jvm.ClassFile.FieldType), Jvm.Cond.code ({ cls := "java/lang/Object", name := "<init>", desc := "()V" } : Jvm.MethodName) object_method_1_code (1 : Nat) (Option.none : Option Jvm.ClassFile.FieldType), Jvm.Cond.code ({ cls := "java/lang/StringUTF16", name := "compress", desc := "([CII)[B" } : Jvm.MethodName) jdk_52_method_16_code (6 : Nat) (Option.some (Jvm.ClassFile.FieldType.array Jvm.ClassFile.FieldType.byte)), Jvm.Cond.code ({ cls := "java/lang/StringUTF16", name := "compress", desc := "([CI[BII)I" } : Jvm.MethodName) jdk_52_method_21_code (7 : Nat) (Option.some Jvm.ClassFile.FieldType.int), Jvm.Cond.code ({ cls := "java/lang/StringUTF16", name := "coderFromArrayLen", desc := "([BI)B" } : Jvm.MethodName) jdk_52_method_15_code (2 : Nat) (Option.some Jvm.ClassFile.FieldType.byte), Jvm.Cond.code ({ cls := "com/example/href/href/uri/IriSyntax", name := "<init>", desc := "(Ljava/lang/String;)V" } : Jvm.MethodName) prog_57_method_1_code (2 : Nat) (Option.none : Option Jvm.ClassFile.FieldType), Jvm.Cond.code ({ cls := "com/example/href/href/uri/IriSyntax", name := "checkScheme", desc := "(II)V" } : Jvm.MethodName) prog_57_method_2_code (6 : Nat) (Option.none : Option Jvm.ClassFile.FieldType), Jvm.Cond.code ({ cls := "java/lang/StringUTF16", name := "toBytes", desc := "([CII)[B" } : Jvm.MethodName) jdk_52_method_14_code (5 : Nat) (Option.some (Jvm.ClassFile.FieldType.array Jvm.ClassFile.FieldType.byte)), Jvm.Cond.code ({ cls := "java/lang/StringUTF16", name := "newBytesFor", desc := "(I)[B" } : Jvm.MethodName) jdk_52_method_2_code (1 : Nat) (Option.some (Jvm.ClassFile.FieldType.array Jvm.ClassFile.FieldType.byte)), Jvm.Cond.code ({ cls := "java/lang/StringUTF16", name := "newBytesLength", desc := "(I)I" } : Jvm.MethodName) jdk_52_method_3_code (1 : Nat) (Option.some Jvm.ClassFile.FieldType.int), Jvm.Cond.code ({ cls := "java/lang/StringUTF16", name := "putChar", desc := "([BII)V" } : Jvm.MethodName) jdk_52_method_4_code (3 : Nat) (Option.none : Option Jvm.ClassFile.FieldType), Jvm.Cond.code ({ cls := "java/lang/StringUTF16", name := "getChar", desc := "([BI)C" } : Jvm.MethodName) jdk_52_method_5_code (2 : Nat) (Option.some Jvm.ClassFile.FieldType.char), Jvm.Cond.code ({ cls := "java/lang/String", name := "charAt", desc := "(I)C" } : Jvm.MethodName) jdk_42_method_56_code (2 : Nat) (Option.some Jvm.ClassFile.FieldType.char), Jvm.Cond.code ({ cls := "java/lang/String", name := "isLatin1", desc := "()Z" } : Jvm.MethodName) jdk_42_method_154_code (1 : Nat) (Option.some Jvm.ClassFile.FieldType.boolean), Jvm.Cond.code ({ cls := "java/lang/StringUTF16", name := "charAt", desc := "([BI)C" } : Jvm.MethodName) jdk_52_method_83_code (2 : Nat) (Option.some Jvm.ClassFile.FieldType.char), Jvm.Cond.code ({ cls := "java/lang/StringUTF16", name := "checkIndex", desc := "(I[B)V" } : Jvm.MethodName) jdk_52_method_91_code (2 : Nat) (Option.none : Option Jvm.ClassFile.FieldType), Jvm.Cond.code ({ cls := "java/lang/StringUTF16", name := "length", desc := "([B)I" } : Jvm.MethodName) jdk_52_method_6_code (1 : Nat) (Option.some Jvm.ClassFile.FieldType.int), Jvm.Cond.code ({ cls := "java/lang/String", name := "checkIndex", desc := "(II)V" } : Jvm.MethodName) jdk_42_method_155_code (2 : Nat) (Option.none : Option Jvm.ClassFile.FieldType), Jvm.Cond.code ({ cls := "jdk/internal/util/Preconditions", name := "checkIndex", desc := "(IILjava/util/function/BiFunction;)I" } : Jvm.MethodName) jdk_41_method_11_code (3 : Nat) (Option.some Jvm.ClassFile.FieldType.int), Jvm.Cond.code ({ cls := "com/example/href/href/uri/IriSyntax", name := "isAsciiLetter", desc := "(I)Z" } : Jvm.MethodName) prog_57_method_17_code (1 : Nat) (Option.some Jvm.ClassFile.FieldType.boolean), Jvm.Cond.code ({ cls := "java/lang/StringLatin1", name := "charAt", desc := "([BI)C" } : Jvm.MethodName) jdk_43_method_2_code (2 : Nat) (Option.some Jvm.ClassFile.FieldType.char), Jvm.Cond.code ({ cls := "com/example/href/href/uri/IriSyntax", name := "isDigit", desc := "(I)Z" } : Jvm.MethodName) prog_57_method_18_code (1 : Nat) (Option.some Jvm.ClassFile.FieldType.boolean)]
set_option maxRecDepth 65536 in
theorem codes_eq : words1.filter isCode = codes1 := rfl
theorem w_codes : ∀ c ∈ words1.filter isCode, c.before args0 about1 = true := by
  rw [codes_eq]
  intro c hc
  simp only [codes1, List.mem_cons, List.not_mem_nil, or_false] at hc
  rcases hc with rfl | rfl | rfl | rfl | rfl | rfl | rfl | rfl | rfl | rfl | rfl | rfl | rfl | rfl | rfl | rfl | rfl | rfl | rfl | rfl | rfl | rfl | rfl | rfl | rfl
  · exact w_c0
  · exact w_c1
  · exact w_c2
  · exact w_c3
  · exact w_c4
  · exact w_c5
  · exact w_c6
  · exact w_c7
  · exact w_c8
  · exact w_c9
  · exact w_c10
  · exact w_c11
  · exact w_c12
  · exact w_c13
  · exact w_c14
  · exact w_c15
  · exact w_c16
  · exact w_c17
  · exact w_c18
  · exact w_c19
  · exact w_c20
  · exact w_c21
  · exact w_c22
  · exact w_c23
  · exact w_c24
set_option maxRecDepth 65536 in
theorem w_t1 : (words1.take 24).all (fun c => isCode c || c.before args0 about1) = true := by decide +kernel
set_option maxRecDepth 65536 in
theorem w_t2 : ((words1.drop 24).take 24).all (fun c => isCode c || c.before args0 about1) = true := by decide +kernel
set_option maxRecDepth 65536 in
theorem w_t3 : (((words1.drop 24).drop 24).take 24).all (fun c => isCode c || c.before args0 about1) = true := by decide +kernel
set_option maxRecDepth 65536 in
theorem w_t4 : ((((words1.drop 24).drop 24).drop 24).take 24).all (fun c => isCode c || c.before args0 about1) = true := by decide +kernel
set_option maxRecDepth 65536 in
theorem w_t5 : ((((words1.drop 24).drop 24).drop 24).drop 24).all (fun c => isCode c || c.before args0 about1) = true := by decide +kernel
theorem w_tables : (allAtoms (Jvm.Cond.code x code maxLocals ret :: tables_1)).before args0 about1 = true := by
  rw [allAtoms_all]
  show words1.all (fun c => c.before args0 about1) = true
  refine all_split ?_ w_codes
  rw [← List.take_append_drop 24 words1, List.all_append, w_t1, ← List.take_append_drop 24 (words1.drop 24), List.all_append, w_t2, ← List.take_append_drop 24 ((words1.drop 24).drop 24), List.all_append, w_t3, ← List.take_append_drop 24 (((words1.drop 24).drop 24).drop 24), List.all_append, w_t4, w_t5]
  rfl
set_option maxRecDepth 65536 in
theorem w_rest : rest_1_c.before args0 about1 = true := by decide +kernel
set_option maxRecDepth 65536 in
theorem w_case : (Jvm.Cond.and given_1 narrow_1).before args0 about1 = true := by decide +kernel
theorem w_applies : (headSpec (Jvm.Cond.code x code maxLocals ret :: tables_1) room_1).applies x e0.platform about1 = true :=
  (Spec.applies_iff w_frames).mpr ⟨w_running, w_runnable, w_alone, w_named, w_hears, w_ripe, w_room, w_tables⟩
theorem atStart : AtStart classFile x code maxLocals ret World_1 tables_1 room_1 Calls_1 rest_1 Pre_1 launch0 p0 e0 about1 theMethod args0 below0 :=
  ⟨lists_1, trivial, launch0.admits_env _ _ _, launch0.least_env, fairChoices_fair.cas, fairChoices_fair.clock, w_frames, w_args, w_heap, w_applies, trivial, w_rest, w_case⟩
end start1
theorem witness_1 : WitnessClaimed_1 := ⟨start1.p0, start1.e0, start1.about1, start1.theMethod, start1.args0, start1.below0, start1.atStart⟩
end Jvm.Pilot.@@N@@
